import Derived.Test.Qxb6003842aRows
import Derived.Test.Qxb6003842aBase
import Derived.Test.Qxb6003842aPlain
import Derived.Test.Qxb6003842aW1
set_option linter.unusedVariables false
set_option linter.unusedSimpArgs false
namespace Go.Proofs.Qxb6003842a
open Go.RowKit

theorem find_as (P : List Nat) (b n : Nat) (w : World) (hA : At w b 3 (vN .i64 P)) (hn2 : n ≤ 200) (hP : Par n P) (x : Nat) (hx : x < n) (a : Nat) (ha : Hid (rt P x = a)) :
    Calls Try.prog 30 #[.slice (some ⟨b,0,none⟩) n n, .int .i64 x] w fun e w' => e = .returned (.int .i64 a) ∧ w' = w := by
  have := find_any P b n w hA hP.1 hn2 hP.2 x hx
  rw [← ha.out]
  exact this

set_option maxHeartbeats 2000000 in
theorem roots_any (n : Nat) (hn : n ≤ 200) (mb : Nat) (M : List Bool) (hM : M.length = n * n) (hS : Symm n M) (w : World) (hA : At w mb 4 (vB M)) :
    Calls Try.prog 22 #[.int .i64 n, .slice (some ⟨mb,0,none⟩) (n*n) (n*n)] w fun e w' =>
      ∃ g R, e = .returned (.slice (some ⟨g, 0, none⟩) n n) ∧ RootsOk n M R ∧ w.heap.size ≤ g ∧ At w' g 3 (vN .i64 R) ∧ Below w.heap.size w w' := by
  obtain ⟨N2, hN2⟩ : ∃ N2, N2 = n * n := ⟨_, rfl⟩
  have hN2b : N2 ≤ 40000 := by rw [hN2]; exact nn_le hn
  rw [← hN2] at hM ⊢
  have HN2 := hide hN2
  clear hN2
  go_enter Try.func22, Try.ntmps22
  go_wp2_with (at_make; refine wpList_make_at _ rfl _ _ 36 rfl 3 (.int .i64 0) 8 Try.underlying36 info3 rfl _ _ _ _ n n rfl rfl rfl rfl (Nat.le_refl _) (by omega) (by omega) ?_)
  intro pb w1 hpb hsz1 hA1 hB1
  have A1 : At w1 pb 3 (vN .i64 (List.replicate n 0)) := by rw [← vN_rep]; exact hA1
  clear hA1 hsz1
  go_wp2_with fail
  go_loopw [6] (fun iv wr => ∃ (i : Nat) (P : List Nat), i ≤ n ∧ iv = .int .i64 i ∧ P.length = n ∧ Hid (∀ t, t < i → P.getD t 0 = t) ∧ At wr pb 3 (vN .i64 P) ∧ Below w.heap.size w wr) (fun i _ => n - (intOf i).toNat)
  case atStart => exact ⟨0, _, Nat.zero_le _, rfl, by simp, fun t ht => by omega, A1, hB1⟩
  case round =>
    clear A1 hB1
    obtain ⟨i, P, hi, rfl, hPl, HP, hAp, hB⟩ := hrel
    by_cases hlt : i < n
    · have c1 := hAp.cellN i (by omega)
      have f1 := hAp.frozen i
      go_wp2_with fail
      go_roundw
      case rel => exact ⟨i + 1, P.set i i, by omega, by go_num, by simp [hPl], fill_set (f := fun t => t) HP.out (by omega) i rfl, by rw [← vN_set]; exact hAp.set _ _, hB.setCell (by rw [hpb.out]; exact Nat.le_refl _) _⟩
      case measure => simp [intOf]; omega
    · have hU : UF n M P 0 0 := uf_start hPl (fun t ht => HP.out t (by omega))
      clear HP hPl
      go_wp2_with fail
      go_loopw [7] (fun iv wr => ∃ (i : Nat) (P : List Nat), i ≤ n ∧ iv = .int .i64 i ∧ UF n M P i 0 ∧ At wr pb 3 (vN .i64 P) ∧ Below w.heap.size w wr) (fun i _ => n - (intOf i).toNat)
      case atStart => exact ⟨0, P, Nat.zero_le _, rfl, hU, hAp, hB⟩
      case round =>
        clear hU hAp hB hi hlt
        obtain ⟨i, P, hi, rfl, hU, hAp, hB⟩ := hrel
        by_cases hlt : i < n
        · have hU' := uf_in hU
          clear hU
          have hin : (i : Int) * (n : Int) = ((i * n : Nat) : Int) := by rw [Int.natCast_mul]
          have hinb : i * n + n ≤ N2 := by rw [HN2.out]; have := Nat.mul_le_mul_right n (show i + 1 ≤ n from hlt); rw [Nat.add_mul] at this; omega
          go_wp2_with fail
          go_loopw [8] (fun jv wr => ∃ (j : Nat) (P : List Nat), j ≤ n ∧ i + 1 ≤ j ∧ jv = .int .i64 j ∧ UF n M P i j ∧ At wr pb 3 (vN .i64 P) ∧ Below w.heap.size w wr) (fun i _ => n - (intOf i).toNat)
          case atStart => exact ⟨i + 1, P, by omega, by omega, rfl, hU', hAp, hB⟩
          case round =>
            clear hU' hAp hB
            obtain ⟨j, P, hj, hij, rfl, hU, hAp, hB⟩ := hrel
            by_cases hjlt : j < n
            · have hijb : i * n + j < M.length := by rw [hM]; omega
              have hsk : M.getD (i * n + j) false = false → UF n M P i (j + 1) := uf_skip hU
              have hsm : rt P i = rt P j → UF n M P i (j + 1) := uf_same hU
              have hh1 : M.getD (i * n + j) false = true → rt P i < rt P j → UF n M (P.set (rt P j) (rt P i)) i (j + 1) := fun hb hl => uf_hang hS hU hlt hjlt hb hl (.inl ⟨rfl, rfl⟩)
              have hh2 : M.getD (i * n + j) false = true → rt P j < rt P i → UF n M (P.set (rt P i) (rt P j)) i (j + 1) := fun hb hl => uf_hang hS hU hlt hjlt hb hl (.inr ⟨rfl, rfl⟩)
              have hPar := hU.1
              clear hU
              generalize i * n = p at *
              have cm := (hA.below hB hA.lt).cellB (p + j) hijb
              by_cases hbit : M.getD (p + j) false = true
              · have hsm' := hide hsm
                have hh1' := hide (hh1 hbit)
                have hh2' := hide (hh2 hbit)
                rw [hbit] at cm
                clear hsk hsm hh1 hh2 hbit
                have ra := (rt_root hPar i hlt).1
                have rb := (rt_root hPar j hjlt).1
                have hPl := hPar.1
                generalize hga : rt P i = a at *
                generalize hgb : rt P j = b at *
                have HGA := hide hga
                have HGB := hide hgb
                clear hga hgb
                rcases Nat.lt_trichotomy a b with hab | hab | hab
                · have c1 := hAp.cellN b (by omega)
                  have f1 := hAp.frozen b
                  have HU := hide (hh1'.out hab)
                  clear hsm' hh1' hh2'
                  go_wp2_with fail
                  refine (find_as P pb n _ hAp hn hPar i hlt a HGA).mono ?_
                  rintro e w' ⟨rfl, rfl⟩
                  go_wp2_with fail
                  refine (find_as P pb n _ hAp hn hPar j hjlt b HGB).mono ?_
                  rintro e w' ⟨rfl, rfl⟩
                  go_wp2_with fail
                  go_roundw
                  case rel => exact ⟨j + 1, P.set b a, by omega, by omega, by go_num, HU.out, by rw [← vN_set]; exact hAp.set _ _, hB.setCell (by rw [hpb.out]; exact Nat.le_refl _) _⟩
                  case measure => simp [intOf]; omega
                · have HU := hide (hsm'.out hab)
                  clear hsm' hh1' hh2'
                  have hab1 : ¬ ((a : Int) < (b : Int)) := by omega
                  have hab2 : ¬ ((b : Int) < (a : Int)) := by omega
                  clear hab
                  go_wp2_with fail
                  refine (find_as P pb n _ hAp hn hPar i hlt a HGA).mono ?_
                  rintro e w' ⟨rfl, rfl⟩
                  go_wp2_with fail
                  refine (find_as P pb n _ hAp hn hPar j hjlt b HGB).mono ?_
                  rintro e w' ⟨rfl, rfl⟩
                  go_wp2_with fail
                  go_roundw
                  case rel => exact ⟨j + 1, P, by omega, by omega, by go_num, HU.out, hAp, hB⟩
                  case measure => simp [intOf]; omega
                · have c1 := hAp.cellN a (by omega)
                  have f1 := hAp.frozen a
                  have HU := hide (hh2'.out hab)
                  clear hsm' hh1' hh2'
                  go_wp2_with fail
                  refine (find_as P pb n _ hAp hn hPar i hlt a HGA).mono ?_
                  rintro e w' ⟨rfl, rfl⟩
                  go_wp2_with fail
                  refine (find_as P pb n _ hAp hn hPar j hjlt b HGB).mono ?_
                  rintro e w' ⟨rfl, rfl⟩
                  go_wp2_with fail
                  go_roundw
                  case rel => exact ⟨j + 1, P.set a b, by omega, by omega, by go_num, HU.out, by rw [← vN_set]; exact hAp.set _ _, hB.setCell (by rw [hpb.out]; exact Nat.le_refl _) _⟩
                  case measure => simp [intOf]; omega
              · have hbit' : M.getD (p + j) false = false := by simpa using hbit
                rw [hbit'] at cm
                have HU := hide (hsk hbit')
                clear hsk hsm hh1 hh2 hbit hbit'
                go_wp2_with fail
                go_roundw
                case rel => exact ⟨j + 1, P, by omega, by omega, by go_num, HU.out, hAp, hB⟩
                case measure => simp [intOf]; omega
            · obtain rfl : j = n := by omega
              go_wp2_with fail
              go_roundw
              case rel => exact ⟨i + 1, P, by omega, by go_num, uf_row hU, hAp, hB⟩
              case measure => simp [intOf]; omega
        · obtain rfl : i = n := by omega
          go_wp2_with (at_make; refine wpList_make_at _ rfl _ _ 36 rfl 3 (.int .i64 0) 8 Try.underlying36 info3 rfl _ _ _ _ i i rfl rfl rfl rfl (Nat.le_refl _) (by omega) (by omega) ?_)
          intro rb w4 hrb hsz4 hA4 hB4
          have hAp4 := hAp.below hB4 hAp.lt
          have hplt := hAp.lt
          have A4 : At w4 rb 3 (vN .i64 (List.replicate i 0)) := by rw [← vN_rep]; exact hA4
          have B4 : Below w.heap.size w w4 := hB.trans (hB4.mono hB.size)
          have hpr : pb < rb := by rw [hrb.out]; exact hplt
          have hrw : w.heap.size ≤ rb := by rw [hrb.out]; exact hB.size
          clear hA4 hsz4 hB4 hAp hB hrb hplt
          go_wp2_with fail
          go_loopw [12] (fun iv wr => ∃ (k : Nat) (R : List Nat), k ≤ i ∧ iv = .int .i64 k ∧ R.length = i ∧ Hid (∀ t, t < k → R.getD t 0 = rt P t) ∧ At wr rb 3 (vN .i64 R) ∧ At wr pb 3 (vN .i64 P) ∧ Below w.heap.size w wr) (fun k _ => i - (intOf k).toNat)
          case atStart => exact ⟨0, _, Nat.zero_le _, rfl, by simp, fun t ht => by omega, A4, hAp4, B4⟩
          case round =>
            clear A4 B4 hAp4
            obtain ⟨k, R, hk, rfl, hRl, HR, hAr, hAp, hB⟩ := hrel
            by_cases hklt : k < i
            · have c1 := hAr.cellN k (by omega)
              have f1 := hAr.frozen k
              have hPar := hU.1
              obtain ⟨a, ha⟩ : ∃ a, rt P k = a := ⟨_, rfl⟩
              have Ha := hide ha
              clear ha
              go_wp2_with fail
              refine (find_as P pb i _ hAp hn hPar k hklt a Ha).mono ?_
              rintro e w' ⟨rfl, rfl⟩
              go_wp2_with fail
              go_roundw
              case rel => exact ⟨k + 1, R.set k a, by omega, by go_num, by simp [hRl], fill_set HR.out (by omega) a Ha.out.symm, by rw [← vN_set]; exact hAr.set _ _, hAp.set_ne _ _ (show pb ≠ rb by omega), hB.setCell hrw _⟩
              case measure => simp [intOf]; omega
            · obtain rfl : k = i := by omega
              have hOK := roots_ok hS hU hRl HR.out
              go_wp2_with fail
              go_ret
              exact ⟨rb, R, rfl, hOK, hrw, hAr, hB⟩
end Go.Proofs.Qxb6003842a
