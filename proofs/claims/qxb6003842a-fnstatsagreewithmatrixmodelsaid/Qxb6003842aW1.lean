import Derived.Test.Qxb6003842aRows
import Derived.Test.Qxb6003842aBase
import Derived.Test.Qxb6003842aPlain
set_option linter.unusedVariables false
set_option linter.unusedSimpArgs false
namespace Go.Proofs.Qxb6003842a
open Go.RowKit


theorem info3 : (Try.prog.info? 3).map (fun i => (i.zero, i.size, i.bytes)) = some (some (.int .i64 0), 1, 8) := by kernel_rfl
theorem size3 : (Try.prog.info? 3).map (·.size) = some 1 := by kernel_rfl
theorem info4 : (Try.prog.info? 4).map (fun i => (i.zero, i.size, i.bytes)) = some (some (.bool false), 1, 1) := by kernel_rfl
theorem info2 : (Try.prog.info? 2).map (fun i => (i.zero, i.size, i.bytes)) = some (some (.int .i64 0), 1, 8) := by kernel_rfl
theorem info21 : (Try.prog.info? 21).map (fun i => (i.zero, i.size, i.bytes)) = some (some (.int .i32 0), 1, 4) := by kernel_rfl

set_option maxHeartbeats 400000 in
theorem bytes17 (n : Int) (a1 a2 : Option Addr) (l1 c1 l2 c2 : Nat) (w : World) (h1 : l1 ≤ maxLen) (h2 : l2 ≤ maxLen) :
    Calls Try.prog 17 #[.int .i64 n, .slice a1 l1 c1, .slice a2 l2 c2] w fun e w' => (e = .returned (.bool (decide (l1 + l2 ≤ 1048576)))) ∧ w' = w := by
  unfold maxLen at h1 h2
  by_cases ha : l1 ≤ 1048576
  · by_cases hb : l2 ≤ 1048576
    · by_cases hc : l1 + l2 ≤ 1048576
      · go_enter Try.func17, Try.ntmps17
        go_wp2
        go_ret
        exact ⟨by simp [hc], rfl⟩
      · go_enter Try.func17, Try.ntmps17
        go_wp2
        go_ret
        exact ⟨by simp; omega, rfl⟩
    · go_enter Try.func17, Try.ntmps17
      go_wp2
      go_ret
      exact ⟨by simp; omega, rfl⟩
  · go_enter Try.func17, Try.ntmps17
    go_wp2
    go_ret
    exact ⟨by simp; omega, rfl⟩

set_option maxHeartbeats 400000 in
theorem clone_nil (w : World) : Calls Try.prog 18 #[.slice none 0 0] w fun e w' => e = .returned (.slice none 0 0) ∧ w' = w := by
  have hnil := fun (w : World) (a : Option Addr) (n c n' c' : Nat) => Lib.run_eql_slice_nil (P := Try.prog) w 36 _ a n c n' c' Try.underlying36
  go_enter Try.func18, Try.ntmps18
  go_wp2
  go_ret
  exact ⟨rfl, rfl⟩

set_option maxHeartbeats 400000 in
theorem clone_some (x : Addr) (len cap : Nat) (zs : List Int) (w : World) (hl : zs.length = len) (hlen : len ≤ 1048576) (hcell : ∀ i, i < len → w.cell? (x.add i) = some (.int .i64 (zs.getD i 0))) :
    Calls Try.prog 18 #[.slice (some x) len cap] w fun e w' => ∃ g, e = .returned (.slice (some ⟨g, 0, none⟩) len len) ∧ w.heap.size ≤ g ∧ At w' g 3 (vI .i64 zs) ∧ Below w.heap.size w w' := by
  have hnil := fun (w : World) (a : Option Addr) (n c n' c' : Nat) => Lib.run_eql_slice_nil (P := Try.prog) w 36 _ a n c n' c' Try.underlying36
  go_enter Try.func18, Try.ntmps18
  go_wp2_with (at_make; refine wpList_make_at _ rfl _ _ 36 rfl 3 (.int .i64 0) 8 Try.underlying36 info3 rfl _ _ _ _ len len rfl rfl rfl rfl (Nat.le_refl _) (by omega) (by omega) ?_)
  intro g w1 hg hsz hA hB
  have hcs : ∀ j v, (vI .i64 zs)[j]? = some v → w1.cell? (x.add j) = some v := by
    intro j v hj
    have hj2 : j < len := by have := (List.getElem?_eq_some_iff.1 hj).1; simp [vI] at this; omega
    have hc := hcell j hj2
    have hlt := World.block_lt_of_cell? _ _ hc
    rw [hB.cell hlt, hc]
    rw [← hj]; simp [vI, hl, hj2]
  have hcp := fun ty => run_copy_row (P := Try.prog) w1 36 36 ty 3 g 0 len len x len cap _ 3 (vI .i64 zs) Try.underlying36 size3 hA (by simp [vI, hl]) hcs (by simp [vI, hl]) (ints_oneCell _ _)
  have HA := hide hA
  clear hcs hA
  go_wp2
  go_ret
  refine ⟨g, rfl, by rw [hg.out]; exact Nat.le_refl _, ?_, ?_⟩
  · unfold At
    rw [setRow_heap w1 g _ _ 3 _ HA.out]
    simp [vI, hl]
  · exact below_setRow hB (by rw [hg.out]; exact Nat.le_refl _) _

set_option maxHeartbeats 400000 in
theorem find_any (P : List Nat) (b n : Nat) (w : World) (hA : At w b 3 (vN .i64 P)) (hn : P.length = n) (hn2 : n ≤ 200) (hP : ∀ i, i < n → P.getD i 0 ≤ i) (x : Nat) (hx : x < n) :
    Calls Try.prog 30 #[.slice (some ⟨b,0,none⟩) n n, .int .i64 x] w fun e w' => e = .returned (.int .i64 (findF (x+1) P x : Nat)) ∧ w' = w := by
  go_enter Try.func30, Try.ntmps30
  go_wp2_with fail
  go_loop [1] (fun v => ∃ y f : Nat, y ≤ x ∧ y ≤ f ∧ v = .int .i64 y ∧ Hid (findF (x+1) P x = findF (f+1) P y)) (fun v => (intOf v).toNat)
  case atStart => exact ⟨x, x, Nat.le_refl _, Nat.le_refl _, rfl, rfl⟩
  case round =>
    obtain ⟨y, f, hy, hyf, rfl, hf⟩ := hrel
    have hc := hA.cellN y (by omega)
    have hp := hP y (by omega)
    by_cases he : P.getD y 0 = y
    · have HF : Hid (findF (f+1) P y = y) := by show _ = _; simp only [findF]; rw [if_pos he]
      rw [he] at hc
      clear hp he
      go_wp2_with fail
      go_ret
      exact ⟨by rw [hf.out, HF.out]; rfl, rfl⟩
    · have HF : Hid (findF (f+1) P y = findF f P (P.getD y 0)) := by show _ = _; simp only [findF]; rw [if_neg he]
      obtain ⟨q, hq⟩ : ∃ q, q = P.getD y 0 := ⟨_, rfl⟩
      rw [← hq] at hc hp he HF
      have hlt : q < y := by omega
      have hne : (((q : Int)) != (y : Int)) = true := by rw [bne_iff_ne]; omega
      clear hp he hq
      go_wp2_with fail
      go_round
      case rel => exact ⟨q, f - 1, by omega, by omega, rfl, by show _ = _; rw [hf.out, HF.out, show f - 1 + 1 = f by omega]⟩
      case measure => simp [intOf]; omega

/-- A slice of ints as data. -/
def Rd (w : World) (v : Value) (L : List Int) : Prop :=
  (v = .slice none 0 0 ∧ L = []) ∨ ∃ g, v = .slice (some ⟨g, 0, none⟩) L.length L.length ∧ At w g 3 (vI .i64 L)

set_option maxHeartbeats 1000000 in
theorem matrix_some (n : Nat) (hn : n ≤ 200) (g1 g2 : Nat) (L1 L2 : List Int) (w : World) (hl1 : L1.length ≤ 65536) (hl2 : L2.length ≤ 65536) (hA1 : At w g1 3 (vI .i64 L1)) (hA2 : At w g2 3 (vI .i64 L2)) :
    Calls Try.prog 19 #[.int .i64 n, .slice (some ⟨g1,0,none⟩) L1.length L1.length, .slice (some ⟨g2,0,none⟩) L2.length L2.length] w fun e w' =>
      ∃ g M, e = .returned (.slice (some ⟨g, 0, none⟩) (n*n) (n*n)) ∧ w.heap.size ≤ g ∧ M.length = n * n ∧ Symm n M ∧ At w' g 4 (vB M) ∧ Below w.heap.size w w' := by
  obtain ⟨N2, hN2⟩ : ∃ N2, N2 = n * n := ⟨_, rfl⟩
  have hN2b : N2 ≤ 40000 := by rw [hN2]; exact nn_le hn
  have hnn : (n : Int) * (n : Int) = (N2 : Int) := by rw [hN2, Int.natCast_mul]
  rw [← hN2]
  have HN2 := hide hN2
  clear hN2
  obtain ⟨l1, hl1e⟩ : ∃ l1, l1 = L1.length := ⟨_, rfl⟩
  obtain ⟨l2, hl2e⟩ : ∃ l2, l2 = L2.length := ⟨_, rfl⟩
  rw [← hl1e] at hl1 ⊢
  rw [← hl2e] at hl2 ⊢
  have HL1 := hide hl1e
  have HL2 := hide hl2e
  clear hl1e hl2e
  go_enter Try.func19, Try.ntmps19
  go_wp2_with (at_make; refine wpList_make_at _ rfl _ _ 39 rfl 4 (.bool false) 1 Try.underlying39 info4 rfl _ _ _ _ N2 N2 rfl rfl rfl rfl (Nat.le_refl _) (by omega) (by omega) ?_)
  intro g w1 hg hsz hA hB
  go_wp2_with fail
  go_loopw [8] (fun i wr => ∃ (k : Nat) (M : List Bool), k ≤ l1 ∧ k ≤ l2 ∧ i = .int .i64 k ∧ M.length = N2 ∧ Symm n M ∧ At wr g 4 (vB M) ∧ Below w.heap.size w wr) (fun i _ => l1 - (intOf i).toNat)
  case atStart => exact ⟨0, List.replicate N2 false, Nat.zero_le _, Nat.zero_le _, rfl, by simp, symm_rep _ _, by rw [← vB_rep]; exact hA, hB⟩
  case round =>
    obtain ⟨k, M, hk1, hk2, rfl, hMl, hMs, hAr, hBr⟩ := hrel
    clear hA hB hsz
    by_cases hlt1 : k < l1
    · by_cases hlt2 : k < l2
      · have c1 : wr.cell? ⟨g1, k, none⟩ = some (.int .i64 (L1.getD k 0)) := (hA1.below hBr hA1.lt).cellI k (by rw [← HL1.out]; omega)
        have c2 : wr.cell? ⟨g2, k, none⟩ = some (.int .i64 (L2.getD k 0)) := (hA2.below hBr hA2.lt).cellI k (by rw [← HL2.out]; omega)
        generalize L1.getD k 0 = u at c1
        generalize L2.getD k 0 = v at c2
        by_cases hok : (0 ≤ u ∧ u < n) ∧ (0 ≤ v ∧ v < n) ∧ u ≠ v
        · obtain ⟨⟨h1, h2⟩, ⟨h3, h4⟩, h5⟩ := hok
          obtain ⟨U, rfl⟩ := Int.eq_ofNat_of_zero_le h1
          obtain ⟨V, rfl⟩ := Int.eq_ofNat_of_zero_le h3
          have hUV : ((U : Int) == (V : Int)) = false := beq_eq_false_iff_ne.2 h5
          have i1 : U * n + V < N2 := by rw [HN2.out]; exact idx_lt (by omega) (by omega)
          have i2 : V * n + U < N2 := by rw [HN2.out]; exact idx_lt (by omega) (by omega)
          have hM2 : Symm n ((M.set (U * n + V) true).set (V * n + U) true) := symm_set hMs (by rw [hMl, HN2.out]) (by omega) (by omega)
          have m1 : (U : Int) * (n : Int) = ((U * n : Nat) : Int) := by rw [Int.natCast_mul]
          have m2 : (V : Int) * (n : Int) = ((V * n : Nat) : Int) := by rw [Int.natCast_mul]
          generalize U * n = p1 at *
          generalize V * n = p2 at *
          have f1 := hAr.frozen (p1 + V)
          have f2 := hAr.frozen (p2 + U)
          have d1 := hAr.cellB (p1 + V) (by omega)
          have d2 : ∃ q, (wr.setCell ⟨g, p1 + V, none⟩ (.bool true)).cell? ⟨g, p2 + U, none⟩ = some q := ⟨_, by rw [(hAr.set (p1 + V) (.bool true)).cell, vB_set]; simp [vB, hMl, i2]; rfl⟩
          obtain ⟨q, d2⟩ := d2
          clear h5
          go_wp2_with fail
          go_roundw
          case rel => exact ⟨k + 1, (M.set (p1 + V) true).set (p2 + U) true, by omega, by omega, by go_num, by simp [hMl], hM2, by rw [← vB_set, ← vB_set]; exact (hAr.set _ _).set _ _, (hBr.setCell (by rw [hg.out]; exact Nat.le_refl _) _).setCell (by rw [hg.out]; exact Nat.le_refl _) _⟩
          case measure => simp [intOf]; omega
        · have hcs : u < 0 ∨ (0 ≤ u ∧ (n : Int) ≤ u) ∨ (0 ≤ u ∧ u < n ∧ v < 0) ∨ (0 ≤ u ∧ u < n ∧ 0 ≤ v ∧ (n : Int) ≤ v) ∨ (0 ≤ u ∧ u < n ∧ 0 ≤ v ∧ v < n ∧ (u == v) = true) := by
            by_cases e : u = v
            · subst e; simp; omega
            · omega
          clear hok
          rcases hcs with h | ⟨h, h'⟩ | ⟨h, h', h''⟩ | ⟨h, h', h'', h3⟩ | ⟨h, h', h'', h3, h4⟩
          all_goals
            go_wp2_with fail
            go_roundw
            case rel => exact ⟨k + 1, M, by omega, by omega, by go_num, hMl, hMs, hAr, hBr⟩
            case measure => simp [intOf]; omega
      · go_wp2_with fail
        go_ret
        exact ⟨g, M, rfl, by rw [hg.out]; exact Nat.le_refl _, hMl, hMs, hAr, hBr⟩
    · go_wp2_with fail
      go_ret
      exact ⟨g, M, rfl, by rw [hg.out]; exact Nat.le_refl _, hMl, hMs, hAr, hBr⟩

set_option maxHeartbeats 1000000 in
theorem matrix_zero (n : Nat) (hn : n ≤ 200) (a1 a2 : Option Addr) (l1 c1 l2 c2 : Nat) (w : World) (h : l1 = 0 ∨ (l2 = 0 ∧ l1 ≤ 65536)) :
    Calls Try.prog 19 #[.int .i64 n, .slice a1 l1 c1, .slice a2 l2 c2] w fun e w' =>
      ∃ g M, e = .returned (.slice (some ⟨g, 0, none⟩) (n*n) (n*n)) ∧ w.heap.size ≤ g ∧ M.length = n * n ∧ Symm n M ∧ At w' g 4 (vB M) ∧ Below w.heap.size w w' := by
  obtain ⟨N2, hN2⟩ : ∃ N2, N2 = n * n := ⟨_, rfl⟩
  have hN2b : N2 ≤ 40000 := by rw [hN2]; exact nn_le hn
  have hnn : (n : Int) * (n : Int) = (N2 : Int) := by rw [hN2, Int.natCast_mul]
  rw [← hN2]
  have HN2 := hide hN2
  clear hN2
  go_enter Try.func19, Try.ntmps19
  go_wp2_with (at_make; refine wpList_make_at _ rfl _ _ 39 rfl 4 (.bool false) 1 Try.underlying39 info4 rfl _ _ _ _ N2 N2 rfl rfl rfl rfl (Nat.le_refl _) (by omega) (by omega) ?_)
  intro g w1 hg hsz hA hB
  go_wp2_with fail
  refine wp_loop_rounds 1 ?_
  rw [rounds_succ]
  rcases h with rfl | ⟨rfl, hl⟩
  · go_wp2_with fail
    go_ret
    exact ⟨g, List.replicate N2 false, rfl, by rw [hg.out]; exact Nat.le_refl _, by simp, symm_rep _ _, by rw [← vB_rep]; exact hA, hB⟩
  · by_cases h0 : 0 < l1
    · go_wp2_with fail
      go_ret
      exact ⟨g, List.replicate N2 false, rfl, by rw [hg.out]; exact Nat.le_refl _, by simp, symm_rep _ _, by rw [← vB_rep]; exact hA, hB⟩
    · go_wp2_with fail
      go_ret
      exact ⟨g, List.replicate N2 false, rfl, by rw [hg.out]; exact Nat.le_refl _, by simp, symm_rep _ _, by rw [← vB_rep]; exact hA, hB⟩

theorem matrix_any (n : Nat) (hn : n ≤ 200) (v1 v2 : Value) (L1 L2 : List Int) (w : World) (hl1 : L1.length ≤ 65536) (hl2 : L2.length ≤ 65536) (h1 : Rd w v1 L1) (h2 : Rd w v2 L2) :
    Calls Try.prog 19 #[.int .i64 n, v1, v2] w fun e w' =>
      ∃ g M, e = .returned (.slice (some ⟨g, 0, none⟩) (n*n) (n*n)) ∧ w.heap.size ≤ g ∧ M.length = n * n ∧ Symm n M ∧ At w' g 4 (vB M) ∧ Below w.heap.size w w' := by
  rcases h1 with ⟨rfl, rfl⟩ | ⟨g1, rfl, hA1⟩
  · rcases h2 with ⟨rfl, rfl⟩ | ⟨g2, rfl, hA2⟩
    · exact matrix_zero n hn _ _ _ _ _ _ w (.inl rfl)
    · exact matrix_zero n hn _ _ _ _ _ _ w (.inl rfl)
  · rcases h2 with ⟨rfl, rfl⟩ | ⟨g2, rfl, hA2⟩
    · exact matrix_zero n hn _ _ _ _ _ _ w (.inr ⟨rfl, hl1⟩)
    · exact matrix_some n hn g1 g2 L1 L2 w hl1 hl2 hA1 hA2

/-- 'zzCloneInts': whatever slice of ints. -/
theorem clone_any (a : Option Addr) (len cap : Nat) (L : List Int) (w : World) (hl : L.length = len) (hlen : len ≤ 1048576)
    (h : (a = none ∧ len = 0 ∧ cap = 0) ∨ ∃ x, a = some x ∧ ∀ i, i < len → w.cell? (x.add i) = some (.int .i64 (L.getD i 0))) :
    Calls Try.prog 18 #[.slice a len cap] w fun e w' => ∃ v, e = .returned v ∧ Rd w' v L ∧ Below w.heap.size w w' := by
  rcases h with ⟨rfl, rfl, rfl⟩ | ⟨x, rfl, hc⟩
  · obtain rfl := List.eq_nil_of_length_eq_zero hl
    refine (clone_nil w).mono ?_
    rintro e w' ⟨rfl, rfl⟩
    exact ⟨_, rfl, .inl ⟨rfl, rfl⟩, Below.refl _ _⟩
  · refine (clone_some x len cap L w hl hlen hc).mono ?_
    rintro e w' ⟨g, rfl, _, hA, hB⟩
    exact ⟨_, rfl, .inr ⟨g, by rw [hl], hA⟩, hB⟩

theorem Rd.below {B : Nat} {w w' : World} {v : Value} {L : List Int} (h : Rd w v L) (hb : Below B w w') (hB : w.heap.size ≤ B) : Rd w' v L := by
  rcases h with h | ⟨g, h, hA⟩
  · exact .inl h
  · exact .inr ⟨g, h, hA.below hb (Nat.lt_of_lt_of_le hA.lt hB)⟩

end Go.Proofs.Qxb6003842a
