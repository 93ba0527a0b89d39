import Derived.Test.Qxb6003842aPlain4
import Derived.Test.Qxb6003842aS1
set_option linter.unusedVariables false
set_option linter.unusedSimpArgs false
namespace Go.Proofs.Qxb6003842a

def mnG (d : Nat → Nat) : Nat → Nat
  | 0 => 0
  | i + 1 => if i = 0 ∨ d i < mnG d i then d i else mnG d i
theorem mnG_eq (d : Nat → Nat) (h0 : d 0 < bigN) : ∀ i, 0 < i → mnG d i = mnF d i := by
  intro i
  induction i with
  | zero => intro h; omega
  | succ i ih =>
    intro _
    by_cases e : i = 0
    · subst e
      have e1 : mnG d (0 + 1) = if 0 = 0 ∨ d 0 < mnG d 0 then d 0 else mnG d 0 := rfl
      have e2 : mnF d (0 + 1) = if d 0 < mnF d 0 then d 0 else mnF d 0 := rfl
      rw [e1, e2, if_pos (.inl rfl), if_pos (show d 0 < mnF d 0 from h0)]
    · have := ih (by omega)
      simp only [mnG, mnF, this]
      by_cases h : d i < mnF d i
      · rw [if_pos (.inr h), if_pos h]
      · rw [if_neg (by simp [e, h]), if_neg h]

theorem mxF_prop (f : Nat → Nat) : ∀ n, (∀ i, i < n → f i ≤ mxF f n) ∧ (mxF f n = 0 ∨ ∃ i, i < n ∧ mxF f n = f i) := by
  intro n
  induction n with
  | zero => exact ⟨fun i hi => by omega, .inl rfl⟩
  | succ n ih =>
    simp only [mxF]
    by_cases h : mxF f n < f n
    · rw [if_pos h]
      refine ⟨fun i hi => ?_, .inr ⟨n, by omega, rfl⟩⟩
      by_cases e : i = n
      · rw [e]; exact Nat.le_refl _
      · have := ih.1 i (by omega); omega
    · rw [if_neg h]
      refine ⟨fun i hi => ?_, ?_⟩
      · by_cases e : i = n
        · rw [e]; omega
        · exact ih.1 i (by omega)
      · rcases ih.2 with h' | ⟨i, hi, he⟩
        · exact .inl h'
        · exact .inr ⟨i, by omega, he⟩

theorem cnt_nonroot {n : Nat} {M : List Bool} {R : List Nat} (hR : RootsOk n M R) {i : Nat} (h : R.getD i 0 ≠ i) : cnt n R i = 0 := by
  unfold cnt
  rw [List.length_eq_zero_iff, List.filter_eq_nil_iff]
  intro v hv hb
  have hvn := List.mem_range.1 hv
  have e : R.getD v 0 = i := by simpa using hb
  have := root_idem hR hvn
  rw [e] at this
  exact h this

theorem lg_eq {n : Nat} {M : List Bool} {R Z : List Nat} (hR : RootsOk n M R) (hZ : SzOk n R n Z) {lg : Nat} (hm : IsMax Z Z.length lg) : mxF (cnt n R) n = lg := by
  have hp := mxF_prop (cnt n R) n
  have h1 : lg ≤ mxF (cnt n R) n := by
    obtain ⟨k, hk, he⟩ := hm.1
    obtain ⟨r, r1, r2, r3⟩ := rk_surj R n k (by rw [← hZ.1]; exact hk)
    rw [← he, ← r3, hZ.2 r r1 r2]
    exact hp.1 r r1
  have h2 : mxF (cnt n R) n ≤ lg := by
    rcases hp.2 with h | ⟨i, hi, he⟩
    · omega
    · rw [he]
      by_cases hr : R.getD i 0 = i
      · rw [← hZ.2 i hi hr]
        exact hm.2 _ (by rw [hZ.1]; exact rk_lt R hi hr)
      · rw [cnt_nonroot hR hr]; exact Nat.zero_le _
  omega

def CnTo (n : Nat) (R C : List Nat) (i : Nat) : Prop := C.length = n ∧ ∀ r, r < n → C.getD r 0 = cntTo R i r
theorem cnto_zero (n : Nat) (R : List Nat) : CnTo n R (List.replicate n 0) 0 := by
  refine ⟨by simp, fun r hr => ?_⟩
  simp [List.getD_eq_getElem?_getD, List.getElem?_replicate, hr, cntTo]
theorem cnto_succ {n : Nat} {R C : List Nat} {i : Nat} (h : CnTo n R C i) (hi : R.getD i 0 < n) : CnTo n R (C.set (R.getD i 0) (C.getD (R.getD i 0) 0 + 1)) (i + 1) := by
  refine ⟨by simpa using h.1, fun r hr => ?_⟩
  rw [getD_setN, cntTo_succ]
  by_cases e : R.getD i 0 = r
  · rw [e, if_pos ⟨rfl, by rw [h.1]; exact hr⟩, if_pos rfl, h.2 r hr]
  · rw [if_neg (fun hh => e hh.1), if_neg e, h.2 r hr]; rfl

theorem cnt_le (n : Nat) (R : List Nat) (r : Nat) : cnt n R r ≤ n := cntTo_le R n r
theorem mxF_le (f : Nat → Nat) (b : Nat) (h : ∀ i, f i ≤ b) (n : Nat) : mxF f n ≤ b := by
  rcases (mxF_prop f n).2 with e | ⟨i, _, e⟩
  · omega
  · rw [e]; exact h i
theorem mnG_le (f : Nat → Nat) (b : Nat) (h : ∀ i, f i ≤ b) (n : Nat) : mnG f n ≤ b := by
  induction n with
  | zero => simp [mnG]
  | succ n ih =>
    simp only [mnG]
    split
    · exact h n
    · exact ih

/-! The ways of one round. -/
theorem way1 (d : Nat → Nat) (i : Nat) : (((d i : Int) == 0) = true ∧ isoF d (i + 1) = isoF d i + 1) ∨ (((d i : Int) == 0) = false ∧ isoF d (i + 1) = isoF d i) := by
  by_cases h : d i = 0
  · exact .inl ⟨beq_iff_eq.2 (by omega), by simp only [isoF]; rw [if_pos h]⟩
  · exact .inr ⟨beq_eq_false_iff_ne.2 (by omega), by simp only [isoF]; rw [if_neg h]⟩
theorem way2 (d : Nat → Nat) (i : Nat) : (((i : Int) == 0) = true ∧ mnG d (i + 1) = d i ∧ True) ∨ (((i : Int) == 0) = false ∧ mnG d (i + 1) = d i ∧ (d i : Int) < (mnG d i : Int)) ∨ (((i : Int) == 0) = false ∧ mnG d (i + 1) = mnG d i ∧ ¬ (d i : Int) < (mnG d i : Int)) := by
  by_cases h : i = 0
  · exact .inl ⟨beq_iff_eq.2 (by omega), by simp only [mnG]; rw [if_pos (.inl h)], trivial⟩
  · by_cases h2 : d i < mnG d i
    · exact .inr (.inl ⟨beq_eq_false_iff_ne.2 (by omega), by simp only [mnG]; rw [if_pos (.inr h2)], by omega⟩)
    · exact .inr (.inr ⟨beq_eq_false_iff_ne.2 (by omega), by simp only [mnG]; rw [if_neg (by simp [h, h2])], by omega⟩)
theorem way3 (d : Nat → Nat) (i : Nat) : ((mxF d i : Int) < (d i : Int) ∧ mxF d (i + 1) = d i) ∨ (¬ (mxF d i : Int) < (d i : Int) ∧ mxF d (i + 1) = mxF d i) := by
  by_cases h : mxF d i < d i
  · exact .inl ⟨by omega, by simp only [mxF]; rw [if_pos h]⟩
  · exact .inr ⟨by omega, by simp only [mxF]; rw [if_neg h]⟩
theorem way4 (R : List Nat) (i : Nat) : ((((R.getD i 0 : Nat) : Int) == (i : Int)) = true ∧ rk R (i + 1) = rk R i + 1) ∨ ((((R.getD i 0 : Nat) : Int) == (i : Int)) = false ∧ rk R (i + 1) = rk R i) := by
  by_cases h : R.getD i 0 = i
  · exact .inl ⟨beq_iff_eq.2 (by omega), by rw [rk_succ, if_pos h]⟩
  · exact .inr ⟨beq_eq_false_iff_ne.2 (by omega), by rw [rk_succ, if_neg h]; rfl⟩

end Go.Proofs.Qxb6003842a
