import Derived.Test.Qxb6606046aM4
set_option linter.unusedVariables false
set_option linter.unusedSimpArgs false
namespace Go.Proofs.Qxb6606046a

section
variable {n : Nat} {S : Nat → Nat} {B : Nat → Bool} {r0 : Nat → Nat}

/-! ### The LMS substrings -/
def zr : Nat → Nat := fun _ => 0

theorem KL_weak (hr : ∀ p q, LMS n B p → LMS n B q → r0 p = r0 q → p = q) : ∀ m x y, n - x ≤ m → InX n B x → InX n B y → ll (KL n S B r0 x) (KL n S B r0 y) = true → ll (KL n S B zr x) (KL n S B zr y) = true ∨ KL n S B zr x = KL n S B zr y := by
  intro m
  induction m with
  | zero =>
    intro x y hm hx hy h
    have hxn : x = n := by rcases hx with h | h <;> omega
    subst hxn
    rcases hy with rfl | ⟨hy, hy'⟩
    · right; rfl
    · left
      rw [KL_end]
      cases hb : B y
      · rw [KL_l hy hb]; rfl
      · rw [KL_s hy hb]; rfl
  | succ m ih =>
    intro x y hm hx hy h
    rcases hy with rfl | ⟨hy, hy'⟩
    · rw [KL_end, ll_nil_right] at h; cases h
    rcases hx with rfl | ⟨hx, hx'⟩
    · left
      rw [KL_end]
      cases hb : B y
      · rw [KL_l hy hb]; rfl
      · rw [KL_s hy hb]; rfl
    rw [KL_cases hx hy] at h
    rcases h with h | ⟨he, h⟩
    · left; rw [KL_cases hx hy]; exact .inl h
    · rcases h with h | ⟨b1, b2, h3⟩ | ⟨b1, b2, h3⟩
      · left; rw [KL_cases hx hy]; exact .inr ⟨he, .inl h⟩
      · rcases ih (x + 1) (y + 1) (by omega) (inX_succ hx b1) (inX_succ hy b2) h3 with h4 | h4
        · left; rw [KL_cases hx hy]; exact .inr ⟨he, .inr (.inl ⟨b1, b2, h4⟩)⟩
        · right; rw [KL_l hx b1, KL_l hy b2, he, h4]
      · right; rw [KL_s hx b1, KL_s hy b2, he]; rfl

theorem KS_weak (ht : TypeOk n S B) (hr : ∀ p q, LMS n B p → LMS n B q → r0 p = r0 q → p = q) : ∀ m x y, n - x ≤ m → x < n → y < n → ll (KS n S B r0 x) (KS n S B r0 y) = true → ll (KS n S B zr x) (KS n S B zr y) = true ∨ KS n S B zr x = KS n S B zr y := by
  intro m
  induction m with
  | zero => intro x y h1 h2; omega
  | succ m ih =>
    intro x y hm hx hy h
    rw [KS_cases hx hy] at h
    rcases h with h | ⟨he, h⟩
    · left; rw [KS_cases hx hy]; exact .inl h
    · rcases h with h | ⟨b1, b2, h3⟩ | ⟨b1, b2, h3⟩
      · left; rw [KS_cases hx hy]; exact .inr ⟨he, .inl h⟩
      · rcases KL_weak hr _ (x + 1) (y + 1) (Nat.le_refl _) (inX_succ hx b1) (inX_succ hy b2) h3 with h4 | h4
        · left; rw [KS_cases hx hy]; exact .inr ⟨he, .inr (.inl ⟨b1, b2, h4⟩)⟩
        · right; rw [KS_l hx b1, KS_l hy b2, KL_l hx b1, KL_l hy b2, he, h4]
      · rcases ih (x + 1) (y + 1) (by omega) (ht.slt hx b1) (ht.slt hy b2) h3 with h4 | h4
        · left; rw [KS_cases hx hy]; exact .inr ⟨he, .inr (.inr ⟨b1, b2, h4⟩)⟩
        · right; rw [KS_s hx b1, KS_s hy b2, he, h4]

/-- A key that says the order of the suffixes at the LMS ones says it everywhere. -/
theorem KL_suf (ht : TypeOk n S B) (hr : ∀ p q, LMS n B p → LMS n B q → S p = S q → r0 p < r0 q → SufLt n S p q) : ∀ m x y, n - x ≤ m → InX n B x → InX n B y → ll (KL n S B r0 x) (KL n S B r0 y) = true → SufLt n S x y := by
  intro m
  induction m with
  | zero =>
    intro x y hm hx hy h
    have hxn : x = n := by rcases hx with h | h <;> omega
    subst hxn
    rcases hy with rfl | ⟨hy, hy'⟩
    · rw [ll_irrefl] at h; cases h
    · exact suf_end hy
  | succ m ih =>
    intro x y hm hx hy h
    rcases hy with rfl | ⟨hy, hy'⟩
    · rw [KL_end, ll_nil_right] at h; cases h
    rcases hx with rfl | ⟨hx, hx'⟩
    · exact suf_end hy
    rw [KL_cases hx hy] at h
    rcases h with h | ⟨he, h⟩
    · exact suf_lt hx hy h
    · rcases h with ⟨b1, b2⟩ | ⟨b1, b2, h3⟩ | ⟨b1, b2, h3⟩
      · exact suf_type ht _ x y (Nat.le_refl _) hx hy he b1 b2
      · exact (suf_eq hx hy he).2 (ih (x + 1) (y + 1) (by omega) (inX_succ hx b1) (inX_succ hy b2) h3)
      · exact hr x y (lms_of hx' b1) (lms_of hy' b2) he h3
theorem KS_suf (ht : TypeOk n S B) (hr : ∀ p q, LMS n B p → LMS n B q → S p = S q → r0 p < r0 q → SufLt n S p q) : ∀ m x y, n - x ≤ m → x < n → y < n → ll (KS n S B r0 x) (KS n S B r0 y) = true → SufLt n S x y := by
  intro m
  induction m with
  | zero => intro x y h1 h2; omega
  | succ m ih =>
    intro x y hm hx hy h
    rw [KS_cases hx hy] at h
    rcases h with h | ⟨he, h⟩
    · exact suf_lt hx hy h
    · rcases h with ⟨b1, b2⟩ | ⟨b1, b2, h3⟩ | ⟨b1, b2, h3⟩
      · exact suf_type ht _ x y (Nat.le_refl _) hx hy he b1 b2
      · exact (suf_eq hx hy he).2 (KL_suf ht hr _ (x + 1) (y + 1) (Nat.le_refl _) (inX_succ hx b1) (inX_succ hy b2) h3)
      · exact (suf_eq hx hy he).2 (ih (x + 1) (y + 1) (by omega) (ht.slt hx b1) (ht.slt hy b2) h3)
/-- Distinct substrings tell the order. -/
theorem W_suf (ht : TypeOk n S B) {x y : Nat} (hx : x < n) (hy : y < n) (h : ll (KS n S B zr x) (KS n S B zr y) = true) : SufLt n S x y :=
  KS_suf ht (fun p q _ _ _ h => by simp [zr] at h) _ x y (Nat.le_refl _) hx hy h

/-- The same symbols, of the same types, up to an LMS position at the distance d from each. -/
def Same (n : Nat) (S : Nat → Nat) (B : Nat → Bool) (x y d : Nat) : Prop :=
  (∀ e, e ≤ d → x + e < n ∧ y + e < n ∧ S (x + e) = S (y + e) ∧ B (x + e) = B (y + e)) ∧ LMS n B (x + d) ∧ LMS n B (y + d) ∧ ∀ e, 0 < e → e < d → ¬ LMS n B (x + e) ∧ ¬ LMS n B (y + e)

theorem same_succ {x y d : Nat} (hx : x < n) (hy : y < n) (he : S x = S y) (hb : B x = B y) (h : Same n S B (x + 1) (y + 1) d) (h1 : 0 < d → ¬ LMS n B (x + 1) ∧ ¬ LMS n B (y + 1)) : Same n S B x y (d + 1) := by
  obtain ⟨a1, a2, a3, a4⟩ := h
  refine ⟨fun e hed => ?_, by rw [show x + (d + 1) = x + 1 + d by omega]; exact a2, by rw [show y + (d + 1) = y + 1 + d by omega]; exact a3, fun e h0 hed => ?_⟩
  · cases e with
    | zero => exact ⟨hx, hy, he, hb⟩
    | succ e =>
      have := a1 e (by omega)
      rw [show x + (e + 1) = x + 1 + e by omega, show y + (e + 1) = y + 1 + e by omega]
      exact this
  · cases e with
    | zero => omega
    | succ e =>
      rw [show x + (e + 1) = x + 1 + e by omega, show y + (e + 1) = y + 1 + e by omega]
      cases e with
      | zero => exact h1 (by omega)
      | succ e => exact a4 (e + 1) (by omega) (by omega)

theorem not_lms_l {x : Nat} (hb : B x = false) : ¬ LMS n B x := fun h => by rw [h.2.2.1] at hb; cases hb
theorem not_lms_s {x : Nat} (hb : B x = true) : ¬ LMS n B (x + 1) := fun h => by have := h.2.2.2; simp at this; rw [hb] at this; cases this

theorem KL_same : ∀ m x y, n - x ≤ m → InX n B x → InX n B y → x ≠ y → KL n S B zr x = KL n S B zr y → ∃ d, Same n S B x y d ∧ (LMS n B x → d = 0) ∧ (B x = false → 0 < d) := by
  intro m
  induction m with
  | zero =>
    intro x y hm hx hy hne h
    exfalso
    have hxn : x = n := by rcases hx with h | h <;> omega
    rcases hy with hy | ⟨hy, hy'⟩
    · omega
    · rw [hxn, KL_end] at h
      cases hb : B y
      · rw [KL_l hy hb] at h; cases h
      · rw [KL_s hy hb] at h; cases h
  | succ m ih =>
    intro x y hm hx hy hne h
    rcases hx with hx | ⟨hx, hx'⟩
    · exfalso
      rcases hy with hy | ⟨hy, hy'⟩
      · omega
      · rw [hx, KL_end] at h
        cases hb : B y
        · rw [KL_l hy hb] at h; cases h
        · rw [KL_s hy hb] at h; cases h
    · rcases hy with hy | ⟨hy, hy'⟩
      · exfalso
        rw [hy, KL_end] at h
        cases hb : B x
        · rw [KL_l hx hb] at h; cases h
        · rw [KL_s hx hb] at h; cases h
      · cases hbx : B x <;> cases hby : B y
        · rw [KL_l hx hbx, KL_l hy hby] at h
          simp only [List.cons.injEq, true_and] at h
          obtain ⟨d, hd, hd1, hd2⟩ := ih (x + 1) (y + 1) (by omega) (inX_succ hx hbx) (inX_succ hy hby) (by omega) h.2
          refine ⟨d + 1, same_succ hx hy h.1 (by rw [hbx, hby]) hd (fun h0 => ?_), fun hl => absurd hl (not_lms_l hbx), fun _ => by omega⟩
          have hnx : ¬ LMS n B (x + 1) := fun hl => by have := hd1 hl; omega
          refine ⟨hnx, fun hl => ?_⟩
          have := (hd.1 0 (by omega)).2.2.2
          simp only [Nat.add_zero] at this
          have hb1 : B (x + 1) = true := by rw [this]; exact hl.2.2.1
          rcases inX_succ hx hbx with e | ⟨e, e'⟩
          · have := (hd.1 0 (by omega)).1; omega
          · exact hnx (lms_of e' hb1)
        · rw [KL_l hx hbx, KL_s hy hby] at h; simp at h
        · rw [KL_s hx hbx, KL_l hy hby] at h; simp at h
        · rw [KL_s hx hbx, KL_s hy hby] at h
          simp only [List.cons.injEq, true_and, and_true] at h
          refine ⟨0, ⟨fun e he => ?_, by simpa using lms_of hx' hbx, by simpa using lms_of hy' hby, fun e h0 h1 => by omega⟩, fun _ => rfl, fun hb => by cases hb⟩
          obtain rfl : e = 0 := by omega
          exact ⟨hx, hy, h.1, by simp [hbx, hby]⟩

theorem KS_same (ht : TypeOk n S B) : ∀ m x y, n - x ≤ m → x < n → y < n → x ≠ y → KS n S B zr x = KS n S B zr y → ∃ d, 0 < d ∧ Same n S B x y d := by
  intro m
  induction m with
  | zero => intro x y h1 h2; omega
  | succ m ih =>
    intro x y hm hx hy hne h
    cases hbx : B x <;> cases hby : B y
    · rw [KS_l hx hbx, KS_l hy hby] at h
      obtain ⟨d, hd, _, hd2⟩ := KL_same _ x y (Nat.le_refl _) (.inr ⟨hx, .inl hbx⟩) (.inr ⟨hy, .inl hby⟩) hne h
      exact ⟨d, hd2 hbx, hd⟩
    · rw [KS_l hx hbx, KS_s hy hby, KL_l hx hbx] at h; simp at h
    · rw [KS_s hx hbx, KS_l hy hby, KL_l hy hby] at h; simp at h
    · rw [KS_s hx hbx, KS_s hy hby] at h
      simp only [List.cons.injEq, true_and] at h
      obtain ⟨d, hd0, hd⟩ := ih (x + 1) (y + 1) (by omega) (ht.slt hx hbx) (ht.slt hy hby) (by omega) h.2
      exact ⟨d + 1, by omega, same_succ hx hy h.1 (by rw [hbx, hby]) hd (fun _ => ⟨not_lms_s hbx, not_lms_s hby⟩)⟩

/-- Conversely. -/
theorem same_KL : ∀ d x y, Same n S B x y d → (∀ e, e < d → B (x + e) = false) → KL n S B zr x = KL n S B zr y := by
  intro d
  induction d with
  | zero =>
    intro x y h _
    have h0 := h.1 0 (by omega)
    have h1 := h.2.1
    simp only [Nat.add_zero] at h0 h1
    rw [KL_s h0.1 h1.2.2.1, KL_s h0.2.1 (by rw [← h0.2.2.2]; exact h1.2.2.1), h0.2.2.1]
    rfl
  | succ d ih =>
    intro x y h hl
    have h0 := h.1 0 (by omega)
    have hb := hl 0 (by omega)
    simp only [Nat.add_zero] at h0 hb
    have hs : Same n S B (x + 1) (y + 1) d := by
      refine ⟨fun e he => ?_, ?_, ?_, fun e h1 h2 => ?_⟩
      · have := h.1 (e + 1) (by omega)
        rw [show x + (e + 1) = x + 1 + e by omega, show y + (e + 1) = y + 1 + e by omega] at this
        exact this
      · have := h.2.1; rw [show x + (d + 1) = x + 1 + d by omega] at this; exact this
      · have := h.2.2.1; rw [show y + (d + 1) = y + 1 + d by omega] at this; exact this
      · have := h.2.2.2 (e + 1) (by omega) (by omega)
        rw [show x + (e + 1) = x + 1 + e by omega, show y + (e + 1) = y + 1 + e by omega] at this
        exact this
    rw [KL_l h0.1 hb, KL_l h0.2.1 (by rw [← h0.2.2.2]; exact hb), h0.2.2.1, ih (x + 1) (y + 1) hs (fun e he => by
      have := hl (e + 1) (by omega)
      rw [show x + (e + 1) = x + 1 + e by omega] at this
      exact this)]
/-- Between two LMS positions there is one run of S types, then one of L types. -/
theorem run_l {x d : Nat} (hlt : x + d < n) (hno : ∀ e, 0 < e → e ≤ d → ¬ LMS n B (x + e)) (hb : B x = false) : ∀ e, e ≤ d → B (x + e) = false := by
  intro e
  induction e with
  | zero => intro _; exact hb
  | succ e ih =>
    intro he
    cases hb' : B (x + (e + 1)) with
    | false => rfl
    | true =>
      exfalso
      refine hno (e + 1) (by omega) he ⟨by omega, by omega, hb', ?_⟩
      rw [show x + (e + 1) - 1 = x + e by omega]
      exact ih (by omega)
theorem same_KS (ht : TypeOk n S B) : ∀ d x y, 0 < d → Same n S B x y d → KS n S B zr x = KS n S B zr y := by
  intro d
  induction d with
  | zero => intro x y h; omega
  | succ d ih =>
    intro x y _ h
    have h0 := h.1 0 (by omega)
    simp only [Nat.add_zero] at h0
    cases hb : B x with
    | false =>
      rw [KS_l h0.1 hb, KS_l h0.2.1 (by rw [← h0.2.2.2]; exact hb)]
      refine same_KL (d + 1) x y h (fun e he => ?_)
      exact run_l (n := n) (d := d) (by have := (h.1 d (by omega)).1; exact this) (fun e h1 h2 => (h.2.2.2 e h1 (by omega)).1) hb e (by omega)
    | true =>
      rw [KS_s h0.1 hb, KS_s h0.2.1 (by rw [← h0.2.2.2]; exact hb), h0.2.2.1]
      have hd0 : 0 < d := by
        cases d with
        | zero => exact absurd h.2.1 (not_lms_s hb)
        | succ d => omega
      rw [ih (x + 1) (y + 1) hd0 ?_]
      refine ⟨fun e he => ?_, ?_, ?_, fun e h1 h2 => ?_⟩
      · have := h.1 (e + 1) (by omega)
        rw [show x + (e + 1) = x + 1 + e by omega, show y + (e + 1) = y + 1 + e by omega] at this
        exact this
      · have := h.2.1; rw [show x + (d + 1) = x + 1 + d by omega] at this; exact this
      · have := h.2.2.1; rw [show y + (d + 1) = y + 1 + d by omega] at this; exact this
      · have := h.2.2.2 (e + 1) (by omega) (by omega)
        rw [show x + (e + 1) = x + 1 + e by omega, show y + (e + 1) = y + 1 + e by omega] at this
        exact this

/-- The same substring: the order is that of what follows. -/
theorem same_suf : ∀ d x y, Same n S B x y d → (SufLt n S x y ↔ SufLt n S (x + d) (y + d)) := by
  intro d x y h
  have : ∀ e, e ≤ d → (SufLt n S x y ↔ SufLt n S (x + e) (y + e)) := by
    intro e
    induction e with
    | zero => intro _; exact Iff.rfl
    | succ e ih =>
      intro he
      have h1 := h.1 e (by omega)
      rw [ih (by omega), suf_eq h1.1 h1.2.1 h1.2.2.1]
      exact Iff.rfl
  exact this d (Nat.le_refl _)

theorem suf_irrefl : ∀ x, ¬ SufLt n S x x := by
  rintro x ⟨d, h1, h2⟩
  rcases h2 with h2 | h2 <;> omega

/-! ### The shorter string -/
/-- Which of the LMS positions p is. -/
def ix (n : Nat) (B : Nat → Bool) (p : Nat) : Nat := cn p (lmsB n B)
theorem cn_onto (p : Nat → Bool) : ∀ n u, u < cn n p → ∃ x, x < n ∧ p x = true ∧ cn x p = u := by
  intro n
  induction n with
  | zero => intro u h; rw [cn_zero] at h; omega
  | succ n ih =>
    intro u h
    rw [cn_succ] at h
    by_cases h1 : u < cn n p
    · obtain ⟨x, hx, h2, h3⟩ := ih u h1
      exact ⟨x, by omega, h2, h3⟩
    · by_cases hp : p n = true
      · rw [if_pos hp] at h
        exact ⟨n, by omega, hp, by omega⟩
      · rw [if_neg hp] at h; omega
theorem cn_le_of_le (p : Nat → Bool) {a b : Nat} (h : a ≤ b) : cn a p ≤ cn b p := by
  induction b with
  | zero => rw [show a = 0 by omega]; exact Nat.le_refl _
  | succ b ih =>
    by_cases e : a = b + 1
    · rw [e]; exact Nat.le_refl _
    · rw [cn_succ]; have := ih (by omega); omega
theorem cn_lt_of_lt (p : Nat → Bool) {a b : Nat} (h : a < b) (hp : p a = true) : cn a p < cn b p := by
  have h1 := cn_le_of_le p (show a + 1 ≤ b from h)
  rw [cn_succ, if_pos hp] at h1
  omega
theorem ix_next {p d : Nat} (hp : LMS n B p) (hd : 0 < d) (hno : ∀ e, 0 < e → e < d → ¬ LMS n B (p + e)) : ix n B (p + d) = ix n B p + 1 := by
  have : ∀ e, 0 < e → e ≤ d → ix n B (p + e) = ix n B p + 1 := by
    intro e
    induction e with
    | zero => intro h; omega
    | succ e ih =>
      intro _ he
      unfold ix at *
      rw [show p + (e + 1) = p + e + 1 by omega, cn_succ]
      by_cases e0 : e = 0
      · subst e0
        rw [Nat.add_zero, if_pos ((lmsB_iff p).2 hp)]
      · rw [ih (by omega) (by omega), if_neg (fun h => hno e (by omega) (by omega) ((lmsB_iff _).1 h))]
  exact this d hd (Nat.le_refl _)
theorem ix_lt {p : Nat} (hp : LMS n B p) : ix n B p < ix n B n := cn_lt_of_lt _ hp.2.1 ((lmsB_iff p).2 hp)
theorem ix_inj {p q : Nat} (hp : LMS n B p) (hq : LMS n B q) (h : ix n B p = ix n B q) : p = q := by
  rcases Nat.lt_trichotomy p q with h1 | h1 | h1
  · have := cn_lt_of_lt _ h1 ((lmsB_iff p).2 hp); unfold ix at h; omega
  · exact h1
  · have := cn_lt_of_lt _ h1 ((lmsB_iff q).2 hq); unfold ix at h; omega

/-- Names: N p < N q tells the substrings' order; equal names, equal substrings. -/
def NameOk (n : Nat) (S : Nat → Nat) (B : Nat → Bool) (N : Nat → Nat) : Prop :=
  ∀ p q, LMS n B p → LMS n B q → p ≠ q → (N p < N q → ll (KS n S B zr p) (KS n S B zr q) = true) ∧ (N p = N q → KS n S B zr p = KS n S B zr q)

theorem red_suf (ht : TypeOk n S B) {N T : Nat → Nat} (hN : NameOk n S B N) (hT : ∀ p, LMS n B p → T (ix n B p) = N p) :
    ∀ m p q, n - p ≤ m → LMS n B p → LMS n B q → SufLt (ix n B n) T (ix n B p) (ix n B q) → SufLt n S p q := by
  intro m
  induction m with
  | zero => intro p q h1 h2; have := h2.2.1; omega
  | succ m ih =>
    intro p q hm hp hq h
    have hne : p ≠ q := by
      rintro rfl
      exact suf_irrefl _ h
    have h1 := ix_lt hp
    have h2 := ix_lt hq
    have hNN := hN p q hp hq hne
    rcases Nat.lt_trichotomy (T (ix n B p)) (T (ix n B q)) with h3 | h3 | h3
    · rw [hT p hp, hT q hq] at h3
      exact W_suf ht hp.2.1 hq.2.1 (hNN.1 h3)
    · have hW := hNN.2 (by rw [← hT p hp, ← hT q hq]; exact h3)
      obtain ⟨d, hd0, hd⟩ := KS_same ht _ p q (Nat.le_refl _) hp.2.1 hq.2.1 hne hW
      rw [same_suf d p q hd]
      refine ih (p + d) (q + d) (by omega) hd.2.1 hd.2.2.1 ?_
      rw [ix_next hp hd0 (fun e a b => (hd.2.2.2 e a b).1), ix_next hq hd0 (fun e a b => (hd.2.2.2 e a b).2)]
      exact (suf_eq h1 h2 h3).1 h
    · exact absurd h (suf_not_gt h1 h2 h3)

end
end Go.Proofs.Qxb6606046a
