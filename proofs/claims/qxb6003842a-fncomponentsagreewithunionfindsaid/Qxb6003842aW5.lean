import Derived.Test.Qxb6003842aPlain4
import Derived.Test.Qxb6003842aW3
import Derived.Test.Qxb6003842aW4
set_option linter.unusedVariables false
set_option linter.unusedSimpArgs false
namespace Go.Proofs.Qxb6003842a
open Go.RowKit

theorem own_keep {w w' : World} {base B : Nat} {e : TypeId} {v : Value} {n : Nat} {xs : List Value} (h : w.ownsRow base e 1 v n xs) (hb : Below B w w') (hB : ∀ k, v.ownBlock = some k → k < B) : w'.ownsRow base e 1 v n xs := by
  refine ⟨h.1, ?_⟩
  rcases h.2 with hn | ⟨g, cap, cur, rfl, hg, hh, r⟩
  · exact .inl hn
  · exact .inr ⟨g, cap, cur, rfl, hg, by rw [hb.block g (hB g rfl)]; exact hh, r⟩

set_option maxHeartbeats 400000 in
theorem comps21 (n : Nat) (hn : n ≤ 200) (M : List Bool) (hS : Symm n M) (R : List Nat) (hR : RootsOk n M R) (base gb : Nat) (O : List Nat) (hO : OffTo n M O n) (w : World) (hG : IsGraph w base gb n O (adjTo n M n)) :
    Calls Try.prog 21 #[.pointer (some ⟨gb, 0, none⟩)] w fun e w' =>
      ∃ lb ao L Z zc, e = .returned (.tuple #[.slice (some ⟨lb, 0, none⟩) n n, .slice ao (Z.length) zc]) ∧ w.heap.size ≤ lb ∧ LabS n R n [] L ∧ SzOk n R n Z ∧ At w' lb 21 (vI .i32 L) ∧ w'.ownsRow (lb + 1) 3 1 (.slice ao Z.length zc) Z.length (vN .i64 Z) ∧ Below w.heap.size w w' := by
  go_enter Try.func21, Try.ntmps21
  go_wp2_with fail
  refine (comps_any n hn M hS R hR base gb O hO w hG).mono ?_
  rintro e w1 ⟨lb, ao, L, Z, zc, rfl, h1, h2, h3, h4, h5, h6⟩
  go_wp2_with fail
  go_ret2
  exact ⟨lb, ao, L, Z, zc, rfl, h1, h2, h3, h4, h5, h6⟩

set_option maxHeartbeats 4000000 in
set_option maxRecDepth 20000 in
theorem comp_core (n : Nat) (hn : n ≤ 200) (a1 a2 : Option Addr) (l1 c1 l2 c2 : Nat) (L1 L2 : List Int) (w : World) (hl1 : L1.length = l1) (hl2 : L2.length = l2) (h1 : l1 ≤ 65536) (h2 : l2 ≤ 65536) (h3 : 8 * l1 + 8 * l2 ≤ 1048576)
    (r1 : (a1 = none ∧ l1 = 0 ∧ c1 = 0) ∨ ∃ x, a1 = some x ∧ ∀ i, i < l1 → w.cell? (x.add i) = some (.int .i64 (L1.getD i 0)))
    (r2 : (a2 = none ∧ l2 = 0 ∧ c2 = 0) ∨ ∃ x, a2 = some x ∧ ∀ i, i < l2 → w.cell? (x.add i) = some (.int .i64 (L2.getD i 0))) :
    Calls Try.prog 4 #[.int .i64 n, .slice a1 l1 c1, .slice a2 l2 c2] w fun e w' => e = .returned (.bool true) ∧ Below w.heap.size w w' := by
  have hbytes : decide (l1 + l2 ≤ 1048576) = true := by simp; omega
  have R1 := hide r1
  have R2 := hide r2
  have HL1 := hide hl1
  have HL2 := hide hl2
  clear r1 r2 hl1 hl2
  go_enter Try.func4, Try.ntmps4
  go_wp2_with fail
  refine (bytes17 _ _ _ _ _ _ _ _ (by unfold maxLen; omega) (by unfold maxLen; omega)).mono ?_
  rintro e w ⟨rfl, rfl⟩
  rw [hbytes]
  clear hbytes
  go_wp2_with fail
  refine (clone_any a1 l1 c1 L1 _ HL1.out (by omega) R1.out).mono ?_
  rintro e w1 ⟨v1, rfl, hv1, hb1⟩
  have R2' : Hid ((a2 = none ∧ l2 = 0 ∧ c2 = 0) ∨ ∃ x, a2 = some x ∧ ∀ i, i < l2 → w1.cell? (x.add i) = some (.int .i64 (L2.getD i 0))) := by
    rcases R2.out with h | ⟨x, hx, hc⟩
    · exact Or.inl h
    · exact Or.inr ⟨x, hx, fun i hi => by rw [hb1.cell (World.block_lt_of_cell? _ _ (hc i hi))]; exact hc i hi⟩
  go_wp2_with fail
  refine (clone_any a2 l2 c2 L2 _ HL2.out (by omega) R2'.out).mono ?_
  rintro e w2 ⟨v2, rfl, hv2, hb2⟩
  have hv1' := hv1.below hb2 (Nat.le_refl _)
  have B2 : Below w.heap.size w w2 := hb1.trans (hb2.mono hb1.size)
  clear hv1 hb1 hb2 R2' R1 R2
  go_wp2_with fail
  refine (matrix_any n hn v1 v2 L1 L2 _ (by rw [HL1.out]; exact h1) (by rw [HL2.out]; exact h2) hv1' hv2).mono ?_
  rintro e w3 ⟨mb, M, rfl, hmb, hMl, hMs, hMA, hb3⟩
  have B3 : Below w.heap.size w w3 := B2.trans (hb3.mono B2.size)
  clear hv1' hv2 hb3 B2
  go_wp2_with fail
  refine (build_any n hn mb M hMl _ hMA).mono ?_
  rintro e w4 ⟨gb, O, rfl, hO, hG, hb4⟩
  have hMA4 := hMA.below hb4 hMA.lt
  have B4 : Below w.heap.size w w4 := B3.trans (hb4.mono B3.size)
  clear hMA hb4 B3
  obtain ⟨R, hR⟩ := roots_exist hMs
  go_wp2_with fail
  refine (comps21 n hn M hMs R hR _ gb O hO _ hG).mono ?_
  rintro e w5 ⟨lb, ao, L, Z, zc, rfl, hlb, hL, hZ, hAl, hoz, hb5⟩
  have hMA5 := hMA4.below hb5 hMA4.lt
  have B5 : Below w.heap.size w w5 := B4.trans (hb5.mono B4.size)
  clear hMA4 hb5 B4 hG hO
  go_wp2_with fail
  refine (roots_any n hn mb M hMl hMs _ hMA5).mono ?_
  rintro e w6 ⟨rb, R', rfl, hR', hrb, hRA, hb6⟩
  obtain rfl := roots_uniq hR hR'
  have hAl6 := hAl.below hb6 hAl.lt
  have hoz6 := own_below hoz hb6 (Nat.le_refl _)
  have hozlt := hoz6.lt
  have B6 : Below w.heap.size w w6 := B5.trans (hb6.mono B5.size)
  have hlb6 := hAl.lt
  clear hMA5 hAl hoz hb6 B5 hR' hMl
  go_wp2_with (at_make; refine wpList_make_at _ rfl _ _ 36 rfl 3 (.int .i64 0) 8 Try.underlying36 info3 rfl _ _ _ _ n n rfl rfl rfl rfl (Nat.le_refl _) (by omega) (by omega) ?_)
  intro kb w7 hkb hsz7 hA7 hb7
  have A7 : At w7 kb 3 (vN .i64 (List.replicate n 0)) := by rw [← vN_rep]; exact hA7
  have hAl7 := hAl6.below hb7 hAl6.lt
  have hoz7 := own_below hoz6 hb7 (Nat.le_refl _)
  have hRA7 := hRA.below hb7 hRA.lt
  have B7 : Below w.heap.size w w7 := B6.trans (hb7.mono B6.size)
  have hkr : rb < kb ∧ lb < kb ∧ w.heap.size ≤ kb := by rw [hkb.out]; exact ⟨hRA.lt, hAl6.lt, B6.size⟩
  have hzk : ∀ k, (Value.slice ao Z.length zc).ownBlock = some k → k < kb := fun k hk => by rw [hkb.out]; exact (hozlt k hk).2
  have HZK := hide hzk
  have hsz7' : kb + 1 ≤ w7.heap.size := by rw [hsz7.out]; exact Nat.le_refl _
  obtain ⟨hkr1, hkr2, hkr3⟩ := hkr
  clear hA7 hAl6 hoz6 hRA hb7 B6 hkb hsz7 hzk hozlt hlb6
  have hRl := hR.1
  go_wp2_with fail
  go_loopw [13, 14] (fun cv iv wr => ∃ (i : Nat) (K : List Nat), i ≤ n ∧ iv = .int .i64 i ∧ cv = .int .i64 (rk R i : Nat) ∧ RkTo n R K i ∧ At wr kb 3 (vN .i64 K) ∧ Below kb w7 wr) (fun _ i _ => n - (intOf i).toNat)
  case atStart => exact ⟨0, _, Nat.zero_le _, rfl, rfl, rkto_zero n R, A7, Below.refl _ _⟩
  case round =>
    obtain ⟨i, K, hi, rfl, rfl, hK, hAk, hb⟩ := hrel
    clear A7
    by_cases hlt : i < n
    · have cr := (hRA7.below hb hkr1).cellN i (by omega)
      have hrs := rk_succ R i
      by_cases hroot : R.getD i 0 = i
      · rw [hroot] at cr
        rw [if_pos hroot] at hrs
        have HRS := hide hrs
        have hKl := hK.1
        have ck := hAk.cellN i (by omega)
        have fk := hAk.frozen i
        have HK' := hide (rkto_set hK hlt)
        have hrk := rk_le R i
        clear hK hrs hroot
        generalize rk R i = q at *
        go_wp2_with fail
        go_roundw
        case rel => exact ⟨i + 1, K.set i q, by omega, by go_num, by rw [HRS.out]; go_num, HK'.out, by rw [← vN_set]; exact hAk.set _ _, hb.setCell (Nat.le_refl _) _⟩
        case measure => simp [intOf]; omega
      · rw [if_neg hroot] at hrs
        have HRS := hide hrs
        have HK' := hide (rkto_skip hK hroot)
        have hne : (((R.getD i 0 : Nat) : Int) == (i : Int)) = false := beq_eq_false_iff_ne.2 (by omega)
        clear hK hrs hroot
        generalize R.getD i 0 = q at *
        go_wp2_with fail
        go_roundw
        case rel => exact ⟨i + 1, K, by omega, by go_num, by rw [HRS.out]; rfl, HK'.out, hAk, hb⟩
        case measure => simp [intOf]; omega
    · obtain rfl : i = n := by omega
      have hzl := hZ.1
      have hc2 := rk_le R i
      have hAl8 := hAl7.below hb hkr2
      have hRA8 := hRA7.below hb hkr1
      have hoz8 := own_keep hoz7 hb HZK.out
      have B8 : Below w.heap.size w wr := B7.trans (hb.mono hkr3)
      have hct0 := ctto_zero i R
      have hsz8 : kb + 1 ≤ wr.heap.size := by have := hb.size; omega
      have hKl := hK.1
      have hLl := hL.1
      rw [hzl] at hoz8 HZK ⊢
      obtain ⟨c, hc⟩ : ∃ c, rk R i = c := ⟨_, rfl⟩
      rw [hc] at hoz8 HZK hc2 hct0 ⊢
      have HC := hide hc
      clear hAl7 hRA7 hoz7 hb B7 hzl hc hsz7'
      go_wp2_with (at_make; refine wpList_make_at _ rfl _ _ 36 rfl 3 (.int .i64 0) 8 Try.underlying36 info3 rfl _ _ _ _ c c rfl rfl rfl rfl (Nat.le_refl _) (by omega) (by omega) ?_)
      intro cb w9 hcb hsz9 hA9 hb9
      have A9 : At w9 cb 3 (vN .i64 (List.replicate c 0)) := by rw [← vN_rep]; exact hA9
      have hAl9 := hAl8.below hb9 hAl8.lt
      have hRA9 := hRA8.below hb9 hRA8.lt
      have hAk9 := hAk.below hb9 hAk.lt
      have hoz9 := own_below hoz8 hb9 (Nat.le_refl _)
      have B9 : Below w.heap.size w w9 := B8.trans (hb9.mono B8.size)
      have hcbe := hcb.out
      have hcr : rb < cb ∧ lb < cb ∧ kb < cb ∧ w.heap.size ≤ cb := ⟨by omega, by omega, by omega, by omega⟩
      obtain ⟨hcr1, hcr2, hcr3, hcr4⟩ := hcr
      clear hA9 hAl8 hRA8 hAk hoz8 B8 hb9 hcb hsz9 hsz8 hcbe
      go_wp2_with fail
      go_loopw [16] (fun iv wr => ∃ (j : Nat) (C : List Nat), j ≤ i ∧ iv = .int .i64 j ∧ CtTo i R C j ∧ At wr cb 3 (vN .i64 C) ∧ Below cb w9 wr) (fun j _ => i - (intOf j).toNat)
      case atStart => exact ⟨0, _, Nat.zero_le _, rfl, hct0, A9, Below.refl _ _⟩
      case round =>
        clear A9 hct0
        obtain ⟨j, C, hj, rfl, hC, hAc, hb⟩ := hrel
        by_cases hjlt : j < i
        · have cr := (hRA9.below hb hcr1).cellN j (by omega)
          have hrj := hR.2.1 j hjlt
          have hid := root_idem hR hjlt
          have ck := (hAk9.below hb hcr3).cellN (R.getD j 0) (by omega)
          rw [hK.2 _ (by omega) hid] at ck
          have cl := (hAl9.below hb hcr2).cellI j (by omega)
          rw [hL.2 j hjlt, if_pos (by omega)] at cl
          have hq := rk_lt R (show R.getD j 0 < i by omega) hid
          rw [HC.out] at hq
          have hCl := hC.1
          rw [HC.out] at hCl
          have cc := hAc.cellN (rk R (R.getD j 0)) (by omega)
          have fc := hAc.frozen (rk R (R.getD j 0))
          have HC' := hide (ctto_succ hR hC hjlt)
          have hcv : C.getD (rk R (R.getD j 0)) 0 ≤ 200 := by
            rw [hC.2 _ (by omega) hid]; have := cntTo_le R j (R.getD j 0); omega
          have hrlt : R.getD j 0 < i := by omega
          clear hrj hid hC
          generalize C.getD (rk R (R.getD j 0)) 0 = cv at *
          generalize rk R (R.getD j 0) = q at *
          generalize R.getD j 0 = r at *
          go_wp2_with fail
          go_roundw
          case rel => exact ⟨j + 1, C.set q (cv + 1), by omega, by go_num, HC'.out, by rw [← vN_set]; exact hAc.set _ _, hb.setCell (Nat.le_refl _) _⟩
          case measure => simp [intOf]; omega
        · obtain rfl : j = i := by omega
          have hozr := own_keep hoz9 hb (fun k hk => by have := HZK.out k hk; omega)
          have Br : Below w.heap.size w wr := B9.trans (hb.mono hcr4)
          have hCl := hC.1
          rw [HC.out] at hCl
          have heq := hide (ct_eq hC hZ)
          clear hoz9 B9 hb
          go_wp2_with fail
          go_loopw [18] (fun kv wr => ∃ k : Nat, k ≤ c ∧ kv = .int .i64 k ∧ wr.ownsRow (lb + 1) 3 1 (.slice ao c zc) c (vN .i64 Z) ∧ At wr cb 3 (vN .i64 C) ∧ Below w.heap.size w wr) (fun k _ => c - (intOf k).toNat)
          case atStart => exact ⟨0, Nat.zero_le _, rfl, hozr, hAc, Br⟩
          case round =>
            clear hozr hAc Br
            obtain ⟨k, hk, rfl, hoz, hAc, hB⟩ := hrel
            by_cases hklt : k < c
            · obtain ⟨zg, zcap, zcur, hv, _⟩ := own_parts hoz (by intro e; simp at e; omega)
              simp only [Value.slice.injEq, true_and] at hv
              obtain ⟨rfl, rfl⟩ := hv
              have hZl : Z.length = c := by rw [hZ.1]; exact HC.out
              have cz := own_cell hoz k (by omega)
              have cc := hAc.cellN k (by omega)
              rw [heq.out k (by rw [HC.out]; exact hklt)] at cz
              clear hZl
              generalize C.getD k 0 = x at cz cc
              have i1 : (0 : Int) ≤ (k : Int) := by omega
              have i2 : (k : Int) < (c : Int) := by omega
              go_wp2_with fail
              go_quiet (fail)
              go_wp2_with fail
              go_roundw
              case rel => exact ⟨k + 1, by omega, by go_num, hoz, hAc, Below.drewN hB nq⟩
              case measure => simp [intOf]; omega
            · go_wp2_with fail
              go_ret
              exact ⟨rfl, hB⟩
end Go.Proofs.Qxb6003842a
