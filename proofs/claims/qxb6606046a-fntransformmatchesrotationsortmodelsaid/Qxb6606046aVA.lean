import Derived.Test.Qxb6606046aV4
import Derived.Test.Qxb6606046aM8
set_option linter.unusedVariables false
set_option linter.unusedSimpArgs false
namespace Go.Proofs.Qxb6606046a
open Go.RowKit

theorem info3 : (Try.prog.info? 3).map (fun i => (i.zero, i.size, i.bytes)) = some (some (.int .i64 0), 1, 8) := by kernel_rfl
theorem size5 : (Try.prog.info? 5).map (·.size) = some 1 := by kernel_rfl

set_option maxHeartbeats 400000 in
theorem bytes6 (a1 : Option Addr) (l1 c1 : Nat) (w : World) (h1 : l1 ≤ maxLen) :
    Calls Try.prog 6 #[.slice a1 l1 c1] w fun e w' => (e = .returned (.bool (decide (l1 ≤ 1048576)))) ∧ w' = w := by
  unfold maxLen at h1
  by_cases ha : l1 ≤ 1048576
  · go_enter Try.func6, Try.ntmps6
    go_wp2
    go_ret
    exact ⟨by simp [ha], rfl⟩
  · go_enter Try.func6, Try.ntmps6
    go_wp2
    go_ret
    exact ⟨by simp; omega, rfl⟩
set_option maxHeartbeats 400000 in
theorem bytes12 (a1 : Option Addr) (l1 c1 : Nat) (w : World) (h1 : l1 ≤ maxLen) :
    Calls Try.prog 12 #[.slice a1 l1 c1] w fun e w' => (e = .returned (.bool (decide (l1 ≤ 1048576)))) ∧ w' = w := by
  unfold maxLen at h1
  by_cases ha : l1 ≤ 1048576
  · go_enter Try.func12, Try.ntmps12
    go_wp2
    go_ret
    exact ⟨by simp [ha], rfl⟩
  · go_enter Try.func12, Try.ntmps12
    go_wp2
    go_ret
    exact ⟨by simp; omega, rfl⟩

set_option maxHeartbeats 400000 in
theorem clone_some (x : Addr) (len cap : Nat) (zs : List Int) (w : World) (hl : zs.length = len) (hlen : len ≤ 1048576) (hcell : ∀ i, i < len → w.cell? (x.add i) = some (.int .u8 (zs.getD i 0))) :
    Calls Try.prog 7 #[.slice (some x) len cap] w fun e w' => ∃ g, e = .returned (.slice (some ⟨g, 0, none⟩) len len) ∧ w.heap.size ≤ g ∧ At w' g 5 (vI .u8 zs) ∧ Below w.heap.size w w' := by
  have hnil := fun (w : World) (a : Option Addr) (n c n' c' : Nat) => Lib.run_eql_slice_nil (P := Try.prog) w 22 _ a n c n' c' Try.underlying22
  go_enter Try.func7, Try.ntmps7
  go_wp2_with (at_make; refine wpList_make_at _ rfl _ _ 22 rfl 5 (.int .u8 0) 1 Try.underlying22 info5 rfl _ _ _ _ len len rfl rfl rfl rfl (Nat.le_refl _) (by omega) (by omega) ?_)
  intro g w1 hg hsz hA hB
  have hcs : ∀ j v, (vI .u8 zs)[j]? = some v → w1.cell? (x.add j) = some v := by
    intro j v hj
    have hj2 : j < len := by have := (List.getElem?_eq_some_iff.1 hj).1; simp [vI] at this; omega
    have hc := hcell j hj2
    have hlt := World.block_lt_of_cell? _ _ hc
    rw [hB.cell hlt, hc]
    rw [← hj]; simp [vI, hl, hj2]
  have hcp := fun ty => run_copy_row (P := Try.prog) w1 22 22 ty 5 g 0 len len x len cap _ 5 (vI .u8 zs) Try.underlying22 size5 hA (by simp [vI, hl]) hcs (by simp [vI, hl]) (ints_oneCell _ _)
  have HA := hide hA
  clear hcs hA
  go_wp2
  go_ret
  refine ⟨g, rfl, by rw [hg.out]; exact Nat.le_refl _, ?_, ?_⟩
  · unfold At
    rw [setRow_heap w1 g _ _ 5 _ HA.out]
    simp [vI, hl]
  · exact below_setRow hB (by rw [hg.out]; exact Nat.le_refl _) _

/-- One suffix alone. -/
theorem sa_one (S : Nat → Nat) {sa : Nat → Int} (h : sa 0 = 0) : SA 1 S sa := by
  refine ⟨fun i hi => ⟨0, by omega, ?_⟩, fun x hx => ⟨0, by omega, ?_⟩, fun i j x y hij hj => by omega⟩
  · obtain rfl : i = 0 := by omega
    exact h
  · obtain rfl : x = 0 := by omega
    exact h
set_option maxHeartbeats 4000000 in
set_option maxRecDepth 20000 in
theorem sort_one (S : Nat → Nat) (sb so scap ab ao acap pl po : Nat) (w : World) (sa : Nat → Int) (ha : RdI w ab ao .i32 sa 1) (hf : Fz w ab) :
    Calls Try.prog 16 #[.slice (some ⟨sb, so, none⟩) 1 scap, .slice (some ⟨ab, ao, none⟩) 1 acap, .int .i64 256, .pointer (some ⟨pl, po, none⟩)] w fun e w' =>
      e = .returned (.tuple #[]) ∧ w' = w.setCell ⟨ab, ao, none⟩ (.int .i32 0) := by
  have c1 := ha 0 (by omega)
  rw [Nat.add_zero] at c1
  have f1 := hf ao
  go_enter Try.func16, Try.ntmps16
  go_wp2_with fail
  (try simp only [Exit.inBlock, Exit.then])
  refine bodyPost_ret (results_none rfl _ _ _) rfl ?_
  exact ⟨rfl, rfl⟩

set_option maxHeartbeats 1000000 in
theorem bytes_equal (n : Nat) (hn : n ≤ 65536) (f : Nat → Nat) (xb xo xc yb yo yc : Nat) (w : World) (hx : RdI w xb xo .u8 (fun i => (f i : Int)) n) (hy : RdI w yb yo .u8 (fun i => (f i : Int)) n) :
    Calls Try.prog 10 #[.slice (some ⟨xb, xo, none⟩) n xc, .slice (some ⟨yb, yo, none⟩) n yc] w fun e w' => e = .returned (.bool true) ∧ Fr w w' XN := by
  go_enter Try.func10, Try.ntmps10
  go_wp2_with fail
  go_loopw [5] (fun iv wr => ∃ i : Nat, i ≤ n ∧ iv = .int .i64 i ∧ Fr w wr XN) (fun i _ => n - (intOf i).toNat)
  case atStart => exact ⟨0, Nat.zero_le _, rfl, Fr.refl _ _⟩
  case round =>
    obtain ⟨i, hi, rfl, hF⟩ := hrel
    by_cases hlt : i < n
    · have c1 := (hx.fr hF (fun _ _ e => e)) i hlt
      have c2 := (hy.fr hF (fun _ _ e => e)) i hlt
      simp only [] at c1 c2
      generalize f i = v at *
      have i1 : (i : Int) < (n : Int) := by omega
      go_wp2_with fail
      go_quiet (fail)
      go_wp2_with fail
      go_roundw
      case rel => exact ⟨i + 1, by omega, rfl, hF.drewN _⟩
      case measure => first | (simp [intOf]; done) | (simp [intOf]; omega)
    · have hin : n = i := by omega
      subst hin
      go_wp2_with fail
      go_ret
      exact ⟨rfl, hF⟩

theorem suf_pre {n : Nat} {S : Nat → Nat} {a b : Nat} : ∀ i, (∀ e, e < i → a + e < n ∧ b + e < n ∧ S (a + e) = S (b + e)) → (SufLt n S a b ↔ SufLt n S (a + i) (b + i)) := by
  intro i
  induction i with
  | zero => intro _; rfl
  | succ i ih =>
    intro h
    rw [ih (fun e he => h e (by omega))]
    obtain ⟨h1, h2, h3⟩ := h i (by omega)
    rw [suf_eq h1 h2 h3, Nat.add_assoc, Nat.add_assoc]
def LessPost (n : Nat) (S : Nat → Nat) (a b : Nat) (w w' : World) (e : Ending) : Prop := ∃ r : Bool, e = .returned (.bool r) ∧ (r = true ↔ SufLt n S a b) ∧ Fr w w' XN
set_option maxHeartbeats 4000000 in
set_option maxRecDepth 20000 in
theorem suffix_less (n a b : Nat) (hn : n ≤ 65536) (ha : a < n) (hb : b < n) (hab : a ≠ b) (S : Nat → Nat) (xb xo xc : Nat) (w : World) (hx : RdI w xb xo .u8 (fun i => (S i : Int)) n) :
    Calls Try.prog 14 #[.slice (some ⟨xb, xo, none⟩) n xc, .int .i64 a, .int .i64 b] w fun e w' => LessPost n S a b w w' e := by
  go_enter Try.func14, Try.ntmps14
  go_wp2_with fail
  go_loopw [8] (fun iv wr => ∃ i : Nat, a + i ≤ n ∧ b + i ≤ n ∧ iv = .int .i64 i ∧ Fr w wr XN ∧ Hid (∀ e, e < i → a + e < n ∧ b + e < n ∧ S (a + e) = S (b + e))) (fun i _ => n - (intOf i).toNat)
  case atStart => exact ⟨0, by omega, by omega, rfl, Fr.refl _ _, fun e he => by omega⟩
  case round =>
    obtain ⟨i, hi1, hi2, rfl, hF, HE⟩ := hrel
    have HS := hide (suf_pre i HE.out)
    obtain ⟨p, hp⟩ : ∃ p, a + i = p := ⟨_, rfl⟩
    obtain ⟨q, hq⟩ : ∃ q, b + i = q := ⟨_, rfl⟩
    have wa : IntKind.i64.wrap ((a : Int) + (i : Int)) = (p : Int) := by rw [IntKind.wrap_i64]; omega
    have wb : IntKind.i64.wrap ((b : Int) + (i : Int)) = (q : Int) := by rw [IntKind.wrap_i64]; omega
    rw [hp, hq] at HS
    by_cases h1 : p < n
    · by_cases h2 : q < n
      · have hX := hx.fr hF (fun _ _ e => e)
        have c1 := hX p h1
        have c2 := hX q h2
        simp only [] at c1 c2
        clear hX
        have i1 : (p : Int) < (n : Int) := by omega
        have i2 : (q : Int) < (n : Int) := by omega
        rcases Nat.lt_trichotomy (S p) (S q) with g | g | g
        · have HR := hide (HS.out.2 (suf_lt h1 h2 g))
          clear HE HS
          generalize S p = x at *
          generalize S q = y at *
          have j1 : (x : Int) < (y : Int) := by omega
          have j2 : ((x : Int) == (y : Int)) = false := by simp; omega
          have j3 : (x == y) = false := by simp; omega
          have j4 : ((x : Int) != (y : Int)) = true := by simp; omega
          have j5 : ¬ (x : Int) = (y : Int) := by omega
          have j6 : decide ((x : Int) < (y : Int)) = true := decide_eq_true (by omega)
          have j7 : ¬ x = y := by omega
          have j8 : x < y := g
          clear hp hq
          go_wp2_with fail
          go_quiet (fail)
          go_wp2_with fail
          go_quiet (fail)
          go_wp2_with fail
          go_ret
          exact ⟨true, rfl, ⟨fun _ => HR.out, fun _ => rfl⟩, (hF.drewN _).drewN _⟩
        · have HE' : Hid (∀ e, e < i + 1 → a + e < n ∧ b + e < n ∧ S (a + e) = S (b + e)) := by
            intro e he
            by_cases e1 : e = i
            · subst e1; rw [hp, hq]; exact ⟨h1, h2, g⟩
            · exact HE.out e (by omega)
          clear HE HS
          rw [g] at c1
          clear g
          generalize S q = y at *
          have k1 : a + (i + 1) ≤ n := by omega
          have k2 : b + (i + 1) ≤ n := by omega
          clear hp hq
          go_wp2_with fail
          go_quiet (fail)
          go_wp2_with fail
          go_roundw
          case rel => exact ⟨i + 1, k1, k2, rfl, hF.drewN _, HE'⟩
          case measure => first | (simp [intOf]; done) | (simp [intOf]; omega)
        · have HR := hide (fun h => suf_not_gt h1 h2 g (HS.out.1 h))
          clear HE HS
          generalize S p = x at *
          generalize S q = y at *
          have j1 : ¬ (x : Int) < (y : Int) := by omega
          have j2 : ((x : Int) == (y : Int)) = false := by simp; omega
          have j3 : (x == y) = false := by simp; omega
          have j4 : ((x : Int) != (y : Int)) = true := by simp; omega
          have j5 : ¬ (x : Int) = (y : Int) := by omega
          have j6 : decide ((x : Int) < (y : Int)) = false := decide_eq_false (by omega)
          have j7 : ¬ x = y := by omega
          have j8 : ¬ x < y := by omega
          have j9 : (y : Int) ≤ (x : Int) := by omega
          have j10 : y ≤ x := by omega
          have j11 : decide (x < y) = false := decide_eq_false (by omega)
          clear hp hq
          go_wp2_with fail
          go_quiet (fail)
          go_wp2_with fail
          go_quiet (fail)
          go_wp2_with fail
          go_ret
          exact ⟨false, rfl, ⟨fun h => (by cases h), fun h => (HR.out h).elim⟩, (hF.drewN _).drewN _⟩
      · have e2 : q = n := by omega
        have HR := hide (fun h => by
          have := HS.out.1 h
          rw [e2] at this
          exact suf_not_end this)
        clear HE HS
        have i1 : (p : Int) < (n : Int) := by omega
        have i2 : ¬ (q : Int) < (n : Int) := by omega
        have i3 : ¬ (n : Int) ≤ (p : Int) := by omega
        have i4 : decide ((q : Int) < (n : Int)) = false := decide_eq_false (by omega)
        have i5 : decide ((p : Int) < (n : Int)) = true := decide_eq_true (by omega)
        have i6 : decide ((n : Int) ≤ (p : Int)) = false := decide_eq_false (by omega)
        clear hp hq e2
        go_wp2_with fail
        go_ret
        exact ⟨false, rfl, ⟨fun h => (by cases h), fun h => (HR.out h).elim⟩, hF⟩
    · have e1 : p = n := by omega
      have h2 : q < n := by omega
      have HR := hide (HS.out.2 (by rw [e1]; exact suf_end h2))
      clear HE HS
      have i1 : ¬ (p : Int) < (n : Int) := by omega
      have i2 : (q : Int) < (n : Int) := by omega
      have i3 : (n : Int) ≤ (p : Int) := by omega
      have i4 : decide ((q : Int) < (n : Int)) = true := decide_eq_true (by omega)
      have i5 : decide ((p : Int) < (n : Int)) = false := decide_eq_false (by omega)
      have i6 : decide ((n : Int) ≤ (p : Int)) = true := decide_eq_true (by omega)
      clear hp hq e1
      go_wp2_with fail
      go_ret
      exact ⟨true, rfl, ⟨fun _ => HR.out, fun _ => rfl⟩, hF⟩
end Go.Proofs.Qxb6606046a
