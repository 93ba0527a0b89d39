import Derived.Test.Qxb6606046aM5
set_option linter.unusedVariables false
set_option linter.unusedSimpArgs false
namespace Go.Proofs.Qxb6606046a

section
variable {n : Nat} {S : Nat → Nat} {B : Nat → Bool} {od : Nat → Nat}

/-! ### The LMS suffixes placed at the ends of their buckets, the last by 'od' first -/
def rr (n : Nat) (S : Nat → Nat) (B : Nat → Bool) (od : Nat → Nat) (p : Nat) : Nat := tl n S (S p) - 1 - cn n (fun q => lmsB n B q && decide (S q = S p) && decide (od p < od q))
theorem rr_cn_lt {p : Nat} (hp : LMS n B p) : cn n (fun q => lmsB n B q && decide (S q = S p) && decide (od p < od q)) < Sc n S B (S p) := by
  refine cn_lt (fun t _ h => ?_) hp.2.1 (by simp [hp.2.2.1]) (by simp)
  simp only [Bool.and_eq_true, decide_eq_true_eq] at h
  have := (lmsB_iff t).1 h.1.1
  simp [this.2.2.1, h.1.2]
theorem rr_eq {p : Nat} (hp : LMS n B p) : rr n S B od p + 1 + cn n (fun q => lmsB n B q && decide (S q = S p) && decide (od p < od q)) = tl n S (S p) := by
  have h1 := rr_cn_lt (S := S) (od := od) hp
  have h2 := tl_eq (n := n) (S := S) (B := B) (S p)
  unfold rr
  omega
theorem rr_range {p : Nat} (hp : LMS n B p) : hd n S (S p) + Lc n S B (S p) ≤ rr n S B od p ∧ rr n S B od p < tl n S (S p) := by
  have h1 := rr_cn_lt (S := S) (od := od) hp
  have h2 := tl_eq (n := n) (S := S) (B := B) (S p)
  have h3 := rr_eq (S := S) (od := od) hp
  omega
theorem rr_lt_n {p : Nat} (hp : LMS n B p) : rr n S B od p < n := by
  have h1 := rr_range (S := S) (od := od) hp
  have := tl_le_n (n := n) (S := S) (S p)
  omega
theorem rr_mono {p q : Nat} (hp : LMS n B p) (hq : LMS n B q) (he : S p = S q) (h : od p < od q) : rr n S B od p < rr n S B od q := by
  have h1 := rr_eq (S := S) (od := od) hp
  have h2 := rr_eq (S := S) (od := od) hq
  have h3 : cn n (fun x => lmsB n B x && decide (S x = S q) && decide (od q < od x)) < cn n (fun x => lmsB n B x && decide (S x = S p) && decide (od p < od x)) := by
    refine cn_lt (fun t _ h => ?_) hq.2.1 (by simp [(lmsB_iff q).2 hq, he, h]) (by simp)
    simp only [Bool.and_eq_true, decide_eq_true_eq] at h ⊢
    refine ⟨⟨h.1.1, by rw [h.1.2, he]⟩, by omega⟩
  rw [he] at h1 h3
  omega
theorem rr_inj (hod : ∀ p q, LMS n B p → LMS n B q → od p = od q → p = q) {p q : Nat} (hp : LMS n B p) (hq : LMS n B q) (h : rr n S B od p = rr n S B od q) : p = q := by
  have h1 := rr_range (S := S) (od := od) hp
  have h2 := rr_range (S := S) (od := od) hq
  rcases Nat.lt_trichotomy (S p) (S q) with e | e | e
  · have := tl_le_hd (n := n) (S := S) e; omega
  · rcases Nat.lt_trichotomy (od p) (od q) with f | f | f
    · have := rr_mono (S := S) hp hq e f; omega
    · exact hod p q hp hq f
    · have := rr_mono (S := S) hq hp e.symm f; omega
  · have := tl_le_hd (n := n) (S := S) e; omega
theorem rr_ok (hod : ∀ p q, LMS n B p → LMS n B q → od p = od q → p = q) : R0Ok n S B (rr n S B od) :=
  ⟨fun p hp => rr_range hp, fun p q hp hq h => rr_inj hod hp hq h⟩
theorem rr_lt {p q : Nat} (hod : ∀ p q, LMS n B p → LMS n B q → od p = od q → p = q) (hp : LMS n B p) (hq : LMS n B q) (he : S p = S q) (h : rr n S B od p < rr n S B od q) : od p < od q := by
  rcases Nat.lt_trichotomy (od p) (od q) with f | f | f
  · exact f
  · have := hod p q hp hq f; subst this; omega
  · have := rr_mono (S := S) hq hp he.symm f; omega

/-- Those with t ≤ od p are placed. -/
structure Plc (n : Nat) (S : Nat → Nat) (B : Nat → Bool) (od : Nat → Nat) (t : Nat) (sa : Nat → Int) (at_ : Nat → Nat) : Prop where
  hat : ∀ c, at_ c + cn n (fun q => lmsB n B q && decide (S q = c) && decide (t ≤ od q)) = tl n S c
  hs : ∀ p, LMS n B p → t ≤ od p → sa (rr n S B od p) = p
def PlcO (n : Nat) (S : Nat → Nat) (B : Nat → Bool) (od : Nat → Nat) (t : Nat) (sa : Nat → Int) (u : Nat) : Prop := sa u = -1 ∨ ∃ p, LMS n B p ∧ t ≤ od p ∧ rr n S B od p = u

theorem plc_start {t : Nat} {sa : Nat → Int} (h : ∀ p, LMS n B p → od p < t) : Plc n S B od t sa (tl n S) := by
  refine ⟨fun c => ?_, fun p hp hle => ?_⟩
  · rw [cn_false n (by
      intro q _
      cases hq : lmsB n B q with
      | false => simp
      | true =>
        have := h q ((lmsB_iff q).1 hq)
        simp; intro _; omega)]
    rfl
  · have := h p hp; omega
theorem plc_skip {t : Nat} {sa : Nat → Int} {at_ : Nat → Nat} (h : Plc n S B od (t + 1) sa at_) (hno : ∀ p, LMS n B p → od p ≠ t) : Plc n S B od t sa at_ := by
  refine ⟨fun c => ?_, fun p hp hle => ?_⟩
  · rw [← h.hat c]
    congr 1
    apply cn_congr
    intro q _
    cases hq : lmsB n B q with
    | false => simp
    | true =>
      have := hno q ((lmsB_iff q).1 hq)
      rw [Bool.eq_iff_iff]
      simp
      intro _
      omega
  · have := hno p hp
    exact h.hs p hp (by omega)
theorem plco_skip {t u : Nat} {sa : Nat → Int} (h : PlcO n S B od (t + 1) sa u) : PlcO n S B od t sa u := by
  rcases h with h | ⟨p, a, b, c⟩
  · exact .inl h
  · exact .inr ⟨p, a, by omega, c⟩
theorem plc_put (hod : ∀ p q, LMS n B p → LMS n B q → od p = od q → p = q) {t : Nat} {sa : Nat → Int} {at_ : Nat → Nat} (h : Plc n S B od (t + 1) sa at_) {p : Nat} (hp : LMS n B p) (ht : od p = t) :
    at_ (S p) = rr n S B od p + 1 ∧ rr n S B od p < n ∧ Plc n S B od t (upd sa (rr n S B od p) p) (upd at_ (S p) (rr n S B od p)) := by
  have h1 := h.hat (S p)
  have h2 := rr_eq (S := S) (od := od) hp
  rw [ht] at h2
  have h3 : cn n (fun q => lmsB n B q && decide (S q = S p) && decide (t + 1 ≤ od q)) = cn n (fun q => lmsB n B q && decide (S q = S p) && decide (t < od q)) := rfl
  rw [h3] at h1
  refine ⟨by omega, rr_lt_n hp, fun c => ?_, fun q hq hle => ?_⟩
  · by_cases hc : c = S p
    · subst hc
      rw [upd_same]
      have h4 := cn_add_one (n := n) (p := fun q => lmsB n B q && decide (S q = S p) && decide (t < od q)) (q := fun q => lmsB n B q && decide (S q = S p) && decide (t ≤ od q)) hp.2.1 (by simp [ht]) (by
        intro x _
        by_cases e : x = p
        · subst e; simp [(lmsB_iff x).2 hp, ht]
        · rw [Bool.eq_iff_iff]
          simp [e]
          intro h5 _
          have : od x ≠ t := fun h6 => e (hod x p ((lmsB_iff x).1 h5) hp (by omega))
          omega)
      omega
    · rw [upd_ne _ _ hc, ← h.hat c]
      congr 1
      apply cn_congr
      intro q _
      rw [Bool.eq_iff_iff]
      simp
      intro h5 h6
      have : od q ≠ t := fun h7 => hc (by rw [← h6, hod q p ((lmsB_iff q).1 h5) hp (by omega)])
      omega
  · by_cases e : q = p
    · subst e; rw [upd_same]
    · rw [upd_ne _ _ (fun h5 => e (rr_inj hod hq hp h5))]
      refine h.hs q hq ?_
      have : od q ≠ t := fun h6 => e (hod q p hq hp (by omega))
      omega
theorem plco_put {t u : Nat} {sa : Nat → Int} (h : PlcO n S B od (t + 1) sa u) {p : Nat} (hp : LMS n B p) (ht : od p = t) : PlcO n S B od t (upd sa (rr n S B od p) p) u := by
  by_cases e : u = rr n S B od p
  · exact .inr ⟨p, hp, by omega, e.symm⟩
  · rcases h with h | ⟨q, a, b, c⟩
    · exact .inl (by rw [upd_ne _ _ e]; exact h)
    · exact .inr ⟨q, a, by omega, c⟩
/-- A slot that none of the placed holds may be wiped. -/
theorem plc_wipe {t u : Nat} {sa : Nat → Int} {at_ : Nat → Nat} (h : Plc n S B od t sa at_) (hu : ∀ p, LMS n B p → t ≤ od p → rr n S B od p ≠ u) : Plc n S B od t (upd sa u (-1)) at_ :=
  ⟨h.hat, fun p hp hle => by rw [upd_ne _ _ (hu p hp hle)]; exact h.hs p hp hle⟩
theorem plco_wipe {t u v : Nat} {sa : Nat → Int} (h : PlcO n S B od t sa u) : PlcO n S B od t (upd sa v (-1)) u := by
  rcases h with h | h
  · refine .inl ?_
    by_cases e : u = v
    · subst e; rw [upd_same]
    · rw [upd_ne _ _ e]; exact h
  · exact .inr h

end

/-! ### Counting through a rearrangement -/
theorem cn_perm {n : Nat} {P : Nat → Nat} (hlt : ∀ x, x < n → P x < n) (hinj : ∀ x y, x < n → y < n → P x = P y → x = y) (f : Nat → Bool) : cn n (fun u => f (P u)) = cn n f := by
  have hon := inj_onto hlt hinj
  have h1 := nodup_cn (n := n) (((List.range n).filter (fun u => f (P u))).map P) (by
    rw [List.Nodup, List.pairwise_map]
    refine List.Pairwise.imp_of_mem (R := (· ≠ ·)) ?_ (List.Pairwise.filter _ List.nodup_range)
    intro a b ha hb hab h
    simp at ha hb
    exact hab (hinj a b ha.1 hb.1 h)) (by
    intro x hx
    simp at hx
    obtain ⟨a, ha, rfl⟩ := hx
    exact hlt a ha.1)
  rw [List.length_map] at h1
  unfold cn at h1 ⊢
  rw [h1]
  congr 1
  apply List.filter_congr
  intro x hx
  simp at hx
  rw [Bool.eq_iff_iff]
  simp
  constructor
  · rintro ⟨a, ⟨_, h2⟩, rfl⟩; exact h2
  · intro h2
    obtain ⟨a, ha, rfl⟩ := hon x hx
    exact ⟨a, ⟨ha, h2⟩, rfl⟩

/-! ### How many LMS there are -/
section
variable {n : Nat} {S : Nat → Nat} {B : Nat → Bool}
theorem lms_adj {x : Nat} (h : lmsB n B x = true) : lmsB n B (x + 1) = false := by
  cases h2 : lmsB n B (x + 1) with
  | false => rfl
  | true => exact absurd ((lmsB_iff _).1 h2) (not_lms_s ((lmsB_iff _).1 h).2.2.1)
theorem lms_zero : lmsB n B 0 = false := by simp [lmsB]
theorem lms_half : ∀ m, cn (2 * m) (lmsB n B) = cn m (fun v => lmsB n B (2 * v) || lmsB n B (2 * v + 1)) := by
  intro m
  induction m with
  | zero => rfl
  | succ m ih =>
    rw [show 2 * (m + 1) = 2 * m + 1 + 1 by omega, cn_succ, cn_succ, cn_succ, ih]
    cases h : lmsB n B (2 * m) with
    | false => simp
    | true => rw [lms_adj h]; simp
theorem cn_lms_le (m : Nat) : cn m (lmsB n B) ≤ m / 2 := by
  by_cases e : m % 2 = 0
  · have h1 := lms_half (n := n) (B := B) (m / 2)
    rw [show 2 * (m / 2) = m by omega] at h1
    rw [h1]
    exact cn_le _ _
  · obtain ⟨q, rfl⟩ : ∃ q, m = 2 * q + 1 := ⟨m / 2, by omega⟩
    have : ∀ q, cn (2 * q + 1) (lmsB n B) ≤ q := by
      intro q
      induction q with
      | zero => rw [cn_succ]; simp [cn_zero, lms_zero]
      | succ q ih =>
        rw [show 2 * (q + 1) + 1 = 2 * q + 1 + 1 + 1 by omega, cn_succ, cn_succ]
        cases h : lmsB n B (2 * q + 1) with
        | false => rw [if_neg (by simp)]; split <;> omega
        | true => rw [lms_adj h]; simp; omega
    have := this q
    omega
theorem lms_last (ht : TypeOk n S B) {p : Nat} (hp : LMS n B p) : p + 1 < n := ht.slt hp.2.1 hp.2.2.1
theorem ix_le (ht : TypeOk n S B) (hn : 0 < n) : 2 * ix n B n + 1 ≤ n := by
  obtain ⟨m, rfl⟩ : ∃ m, n = m + 1 := ⟨n - 1, by omega⟩
  have h1 := cn_lms_le (n := m + 1) (B := B) m
  unfold ix
  rw [cn_succ]
  have : lmsB (m + 1) B m = false := by
    cases h : lmsB (m + 1) B m with
    | false => rfl
    | true => have := lms_last ht ((lmsB_iff _).1 h); omega
  rw [this]
  simp
  omega
theorem half_lt (ht : TypeOk n S B) {p : Nat} (hp : LMS n B p) : ix n B n + p / 2 < n := by
  have h1 := lms_last ht hp
  have h2 := ix_le ht (by omega)
  omega
theorem half_inj {p q : Nat} (hp : LMS n B p) (hq : LMS n B q) (h : p / 2 = q / 2) : p = q := by
  have h1 : p ≠ q + 1 := fun e => not_lms_s hq.2.2.1 (e ▸ hp)
  have h2 : q ≠ p + 1 := fun e => not_lms_s hp.2.2.1 (e ▸ hq)
  omega
/-- Which half positions bear a rank. -/
def hb2 (n : Nat) (B : Nat → Bool) (v : Nat) : Bool := lmsB n B (2 * v) || lmsB n B (2 * v + 1)
theorem hb2_iff (v : Nat) : hb2 n B v = true ↔ ∃ p, LMS n B p ∧ p / 2 = v := by
  unfold hb2
  rw [Bool.or_eq_true, lmsB_iff, lmsB_iff]
  constructor
  · rintro (h | h)
    · exact ⟨_, h, by omega⟩
    · exact ⟨_, h, by omega⟩
  · rintro ⟨p, hp, rfl⟩
    by_cases e : p % 2 = 0
    · left; rw [show 2 * (p / 2) = p by omega]; exact hp
    · right; rw [show 2 * (p / 2) + 1 = p by omega]; exact hp
theorem cn_hb2 {p : Nat} (hp : LMS n B p) : cn (p / 2) (hb2 n B) = ix n B p := by
  have h1 := lms_half (n := n) (B := B) (p / 2)
  unfold ix
  by_cases e : p % 2 = 0
  · rw [show 2 * (p / 2) = p by omega] at h1
    rw [h1]; rfl
  · have e2 : p = 2 * (p / 2) + 1 := by omega
    have h2 : lmsB n B (2 * (p / 2)) = false := by
      cases h : lmsB n B (2 * (p / 2)) with
      | false => rfl
      | true =>
        have := lms_adj h
        rw [← e2, (lmsB_iff p).2 hp] at this
        cases this
    rw [show cn p (lmsB n B) = cn (2 * (p / 2) + 1) (lmsB n B) by rw [← e2], cn_succ, h2, h1]
    simp; rfl
theorem cn_lms_ge {m : Nat} (h : n ≤ m) : cn m (lmsB n B) = ix n B n := by
  induction m with
  | zero => obtain rfl : n = 0 := by omega
            rfl
  | succ m ih =>
    by_cases e : n = m + 1
    · subst e; rfl
    · rw [cn_succ, ih (by omega)]
      have : lmsB n B m = false := by simp [lmsB]; omega
      rw [this]; simp
theorem cn_hb2_all (ht : TypeOk n S B) (hn : 0 < n) : cn (n - ix n B n) (hb2 n B) = ix n B n := by
  have h1 := lms_half (n := n) (B := B) (n - ix n B n)
  have h2 := ix_le ht hn
  rw [cn_lms_ge (by omega)] at h1
  exact h1.symm
end
end Go.Proofs.Qxb6606046a
