import Derived.Test.Qxb6606046aM7
set_option linter.unusedVariables false
set_option linter.unusedSimpArgs false
namespace Go.Proofs.Qxb6606046a

/-- A suffix array as a function. -/
structure Ps (n : Nat) (S : Nat → Nat) (P : Nat → Nat) : Prop where
  lt : ∀ u, u < n → P u < n
  inj : ∀ u v, u < n → v < n → P u = P v → u = v
  on : ∀ x, x < n → ∃ u, u < n ∧ P u = x
  so : ∀ u v, u < v → v < n → SufLt n S (P u) (P v)
theorem sa_fun {n : Nat} {S : Nat → Nat} {sa : Nat → Int} (h : SA n S sa) : ∃ P, Ps n S P ∧ ∀ u, u < n → sa u = P u := by
  have h1 : ∀ u, ∃ x : Nat, u < n → x < n ∧ sa u = x := fun u => by
    by_cases hu : u < n
    · obtain ⟨x, hx⟩ := h.1 u hu; exact ⟨x, fun _ => hx⟩
    · exact ⟨0, fun e => (hu e).elim⟩
  obtain ⟨P, hP⟩ : ∃ P : Nat → Nat, ∀ u, u < n → P u < n ∧ sa u = P u := ⟨fun u => Classical.choose (h1 u), fun u hu => Classical.choose_spec (h1 u) hu⟩
  have hlt : ∀ u v, u < v → v < n → SufLt n S (P u) (P v) := fun u v huv hv => h.2.2 u v _ _ huv hv (hP u (by omega)).2 (hP v hv).2
  refine ⟨P, ⟨fun u hu => (hP u hu).1, fun u v hu hv e => ?_, fun x hx => ?_, hlt⟩, fun u hu => (hP u hu).2⟩
  · rcases Nat.lt_trichotomy u v with g | g | g
    · have := hlt u v g hv
      rw [e] at this; exact (suf_irrefl _ this).elim
    · exact g
    · have := hlt v u g hu
      rw [e] at this; exact (suf_irrefl _ this).elim
  · obtain ⟨u, hu, e⟩ := h.2.1 x hx
    have := (hP u hu).2
    exact ⟨u, hu, by omega⟩
theorem suf_asymm {n : Nat} {S : Nat → Nat} : ∀ a b, SufLt n S a b → ¬ SufLt n S b a := by
  rintro a b ⟨d, h1, h2⟩ ⟨e, g1, g2⟩
  rcases Nat.lt_trichotomy d e with q | q | q
  · have := g1 d q; omega
  · subst q; omega
  · have := h1 e q; omega
theorem cn_below (n i : Nat) (h : i ≤ n) : cn n (fun u => decide (u < i)) = i := by
  induction n with
  | zero => have : i = 0 := by omega
            subst this; rfl
  | succ m ih =>
    rw [cn_succ]
    by_cases e : i ≤ m
    · rw [ih e]; simp; omega
    · have : i = m + 1 := by omega
      subst this
      rw [cn_congr (q := fun u => decide (u < m)) (by intro t ht; simp; omega)] at *
      rw [show cn m (fun u => decide (u < m)) = m from by
        have := cn_true m (p := fun u => decide (u < m)) (by intro t ht; simpa using ht)
        exact this]
      simp
/-- Its rank is its place. -/
theorem Ps.rank {n : Nat} {S P : Nat → Nat} (h : Ps n S P) {i : Nat} (hi : i < n) {f : Nat → Bool} (hf : ∀ q, q < n → (f q = true ↔ q ≠ P i ∧ SufLt n S q (P i))) : cn n f = i := by
  rw [← cn_perm h.lt h.inj f, cn_congr (q := fun u => decide (u < i)) (n := n), cn_below n i (by omega)]
  intro u hu
  rw [Bool.eq_iff_iff, hf _ (h.lt u hu)]
  simp only [decide_eq_true_eq]
  constructor
  · rintro ⟨h1, h2⟩
    rcases Nat.lt_trichotomy u i with g | g | g
    · exact g
    · subst g; exact (h1 rfl).elim
    · exact (suf_asymm _ _ h2 (h.so i u g hu)).elim
  · intro g
    exact ⟨fun e => by have := h.inj u i hu hi e; omega, h.so u i g hi⟩

/-- Where the byte ahead of the i-th suffix stands. -/
def ps (i0 i : Nat) : Nat := if i < i0 then i + 1 else i
/-- Which byte stands at j in the last column. -/
def lastM (n : Nat) (P : Nat → Nat) (i0 j : Nat) : Nat := if j = 0 then n - 1 else P (if j ≤ i0 then j - 1 else j) - 1
theorem lastM_ps {n : Nat} {P : Nat → Nat} {i0 i : Nat} (h : i ≠ i0) : lastM n P i0 (ps i0 i) = P i - 1 := by
  unfold lastM ps
  by_cases e : i < i0
  · simp only [e, if_true]
    rw [if_neg (by omega), if_pos (by omega), Nat.add_sub_cancel]
  · simp only [e, if_false]
    rw [if_neg (by omega), if_neg (by omega)]
theorem ps_inj {i0 a b : Nat} (ha : a ≠ i0) (hb : b ≠ i0) (h : ps i0 a = ps i0 b) : a = b := by
  unfold ps at h
  split at h <;> split at h <;> omega
theorem ps_lt {n i0 a : Nat} (hi : i0 < n) (ha : a < n) (hne : a ≠ i0) : ps i0 a < n ∧ ps i0 a ≠ 0 := by
  unfold ps
  split <;> omega
theorem ps_on {n i0 j : Nat} (hi : i0 < n) (hj : j < n) (hj0 : j ≠ 0) : ∃ a, a < n ∧ a ≠ i0 ∧ ps i0 a = j := by
  unfold ps
  by_cases e : j ≤ i0
  · exact ⟨j - 1, by omega, by omega, by rw [if_pos (by omega)]; omega⟩
  · exact ⟨j, hj, by omega, by rw [if_neg (by omega)]⟩
/-- Every byte of the block stands in the column as often. -/
theorem last_count {n : Nat} {S P L : Nat → Nat} (h : Ps n S P) {i0 : Nat} (hi : i0 < n) (h0 : P i0 = 0) (hL : ∀ j, j < n → L j = S (lastM n P i0 j)) (c : Nat) : cn n (fun j => decide (L j = c)) = cn n (fun j => decide (S j = c)) := by
  have hne : ∀ j, j ≠ 0 → j < n → (if j ≤ i0 then j - 1 else j) < n ∧ (if j ≤ i0 then j - 1 else j) ≠ i0 := by
    intro j h1 h2
    split <;> omega
  have hp1 : ∀ j, j ≠ 0 → j < n → 0 < P (if j ≤ i0 then j - 1 else j) := by
    intro j h1 h2
    obtain ⟨g1, g2⟩ := hne j h1 h2
    rcases Nat.eq_zero_or_pos (P (if j ≤ i0 then j - 1 else j)) with e | e
    · exact (g2 (h.inj _ _ g1 hi (by rw [e, h0]))).elim
    · exact e
  have hM : ∀ j, j < n → lastM n P i0 j < n := by
    intro j hj
    unfold lastM
    by_cases e : j = 0
    · rw [if_pos e]; omega
    · rw [if_neg e]
      have := h.lt _ (hne j e hj).1
      omega
  have hinj : ∀ a b, a < n → b < n → lastM n P i0 a = lastM n P i0 b → a = b := by
    intro a b ha hb he
    unfold lastM at he
    by_cases ea : a = 0
    · by_cases eb : b = 0
      · omega
      · rw [if_pos ea, if_neg eb] at he
        have h1 := h.lt _ (hne b eb hb).1
        have h2 := hp1 b eb hb
        omega
    · by_cases eb : b = 0
      · rw [if_neg ea, if_pos eb] at he
        have h1 := h.lt _ (hne a ea ha).1
        have h2 := hp1 a ea ha
        omega
      · rw [if_neg ea, if_neg eb] at he
        have h2 := hp1 a ea ha
        have h3 := hp1 b eb hb
        have h4 := h.inj _ _ (hne a ea ha).1 (hne b eb hb).1 (by omega)
        have h5 := (hne a ea ha).2
        split at h4 <;> split at h4 <;> omega
  rw [← cn_perm hM hinj (fun j => decide (S j = c))]
  exact cn_congr (fun j hj => by rw [hL j hj])
end Go.Proofs.Qxb6606046a
