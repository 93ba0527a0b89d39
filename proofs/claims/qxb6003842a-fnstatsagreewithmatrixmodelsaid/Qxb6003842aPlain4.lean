import Derived.Test.Qxb6003842aPlain3
set_option linter.unusedVariables false
set_option linter.unusedSimpArgs false
namespace Go.Proofs.Qxb6003842a

theorem rk_surj (R : List Nat) : ∀ n k, k < rk R n → ∃ r, r < n ∧ R.getD r 0 = r ∧ rk R r = k := by
  intro n
  induction n with
  | zero => intro k hk; simp [rk] at hk
  | succ n ih =>
    intro k hk
    rw [rk_succ] at hk
    by_cases h : k < rk R n
    · obtain ⟨r, h1, h2, h3⟩ := ih k h; exact ⟨r, by omega, h2, h3⟩
    · by_cases hr : R.getD n 0 = n
      · rw [if_pos hr] at hk
        exact ⟨n, by omega, hr, by omega⟩
      · rw [if_neg hr] at hk
        omega

theorem rk_inj (R : List Nat) {r s : Nat} (hr : R.getD r 0 = r) (hs : R.getD s 0 = s) (h : rk R r = rk R s) : r = s := by
  rcases Nat.lt_trichotomy r s with h1 | h1 | h1
  · have := rk_lt R h1 hr; omega
  · exact h1
  · have := rk_lt R h1 hs; omega

def cntTo (R : List Nat) (i r : Nat) : Nat := ((List.range i).filter (fun v => R.getD v 0 == r)).length
theorem cntTo_n (n : Nat) (R : List Nat) (r : Nat) : cntTo R n r = cnt n R r := rfl
theorem cntTo_succ (R : List Nat) (i r : Nat) : cntTo R (i + 1) r = cntTo R i r + if R.getD i 0 = r then 1 else 0 := by
  unfold cntTo
  rw [List.range_succ, List.filter_append]
  by_cases h : R.getD i 0 = r
  · rw [if_pos h]
    have : (R.getD i 0 == r) = true := by simpa using h
    simp only [List.filter_cons, this, List.length_append, if_true]; rfl
  · rw [if_neg h]
    have : (R.getD i 0 == r) = false := by simpa using h
    simp only [List.filter_cons, this, List.length_append]; rfl
theorem cntTo_le (R : List Nat) (i r : Nat) : cntTo R i r ≤ i := by
  unfold cntTo
  have := List.length_filter_le (fun v => R.getD v 0 == r) (List.range i)
  simpa using this

/-- The ranks that the law's own loop lays. -/
def RkTo (n : Nat) (R K : List Nat) (i : Nat) : Prop := K.length = n ∧ ∀ r, r < i → R.getD r 0 = r → K.getD r 0 = rk R r
theorem rkto_zero (n : Nat) (R : List Nat) : RkTo n R (List.replicate n 0) 0 := ⟨by simp, fun r hr => by omega⟩
theorem rkto_skip {n : Nat} {R K : List Nat} {i : Nat} (h : RkTo n R K i) (hi : R.getD i 0 ≠ i) : RkTo n R K (i + 1) := by
  refine ⟨h.1, fun r hr hrr => ?_⟩
  by_cases e : r = i
  · subst e; exact absurd hrr hi
  · exact h.2 r (by omega) hrr
theorem rkto_set {n : Nat} {R K : List Nat} {i : Nat} (h : RkTo n R K i) (hn : i < n) : RkTo n R (K.set i (rk R i)) (i + 1) := by
  refine ⟨by simpa using h.1, fun r hr hrr => ?_⟩
  rw [getD_setN]
  by_cases e : i = r
  · subst e; rw [if_pos ⟨rfl, by rw [h.1]; exact hn⟩]
  · rw [if_neg (by simp [e])]; exact h.2 r (by omega) hrr

/-- The counts that the law's own loop lays. -/
def CtTo (n : Nat) (R C : List Nat) (i : Nat) : Prop := C.length = rk R n ∧ ∀ r, r < n → R.getD r 0 = r → C.getD (rk R r) 0 = cntTo R i r
theorem ctto_zero (n : Nat) (R : List Nat) : CtTo n R (List.replicate (rk R n) 0) 0 := by
  refine ⟨by simp, fun r hr hrr => ?_⟩
  have := rk_lt R hr hrr
  simp [List.getD_eq_getElem?_getD, List.getElem?_replicate, this, cntTo]
theorem ctto_succ {n : Nat} {M : List Bool} {R C : List Nat} (hR : RootsOk n M R) {i : Nat} (h : CtTo n R C i) (hi : i < n) :
    CtTo n R (C.set (rk R (R.getD i 0)) (C.getD (rk R (R.getD i 0)) 0 + 1)) (i + 1) := by
  have hle := (hR.2.1 i hi).1
  have hid := root_idem hR hi
  have hlt := rk_lt R (show R.getD i 0 < n by omega) hid
  refine ⟨by simpa using h.1, fun r hr hrr => ?_⟩
  rw [getD_setN, cntTo_succ]
  by_cases e : R.getD i 0 = r
  · rw [e, if_pos ⟨rfl, by rw [h.1, ← e]; exact hlt⟩, if_pos rfl, h.2 r hr hrr]
  · rw [if_neg (fun hh => e (rk_inj R hid hrr hh.1)), if_neg e, h.2 r hr hrr]
    rfl

theorem ct_eq {n : Nat} {R C Z : List Nat} (hC : CtTo n R C n) (hZ : SzOk n R n Z) (k : Nat) (hk : k < rk R n) : Z.getD k 0 = C.getD k 0 := by
  obtain ⟨r, h1, h2, h3⟩ := rk_surj R n k hk
  rw [← h3, hC.2 r h1 h2, hZ.2 r h1 h2, cntTo_n]

end Go.Proofs.Qxb6003842a
