import Derived.Test.Qxb6606046aM1
set_option linter.unusedVariables false
set_option linter.unusedSimpArgs false
namespace Go.Proofs.Qxb6606046a

/-! ### The order of suffixes; the types -/
def SufLt (n : Nat) (S : Nat → Nat) (i j : Nat) : Prop :=
  ∃ d, (∀ e, e < d → i + e < n ∧ j + e < n ∧ S (i + e) = S (j + e)) ∧ ((i + d = n ∧ j + d < n) ∨ (i + d < n ∧ j + d < n ∧ S (i + d) < S (j + d)))

theorem suf_end {n : Nat} {S : Nat → Nat} {j : Nat} (h : j < n) : SufLt n S n j := ⟨0, fun e he => by omega, .inl ⟨rfl, h⟩⟩
theorem suf_lt {n : Nat} {S : Nat → Nat} {i j : Nat} (hi : i < n) (hj : j < n) (h : S i < S j) : SufLt n S i j := ⟨0, fun e he => by omega, .inr ⟨hi, hj, h⟩⟩
theorem suf_eq {n : Nat} {S : Nat → Nat} {i j : Nat} (hi : i < n) (hj : j < n) (h : S i = S j) : SufLt n S i j ↔ SufLt n S (i + 1) (j + 1) := by
  constructor
  · rintro ⟨d, h1, h2⟩
    cases d with
    | zero =>
      rcases h2 with ⟨h2, _⟩ | ⟨_, _, h2⟩
      · omega
      · simp only [Nat.add_zero] at h2; omega
    | succ d =>
      refine ⟨d, fun e he => ?_, ?_⟩
      · have := h1 (e + 1) (by omega)
        rw [show i + (e + 1) = i + 1 + e by omega, show j + (e + 1) = j + 1 + e by omega] at this
        exact this
      · rw [show i + (d + 1) = i + 1 + d by omega, show j + (d + 1) = j + 1 + d by omega] at h2
        exact h2
  · rintro ⟨d, h1, h2⟩
    refine ⟨d + 1, fun e he => ?_, ?_⟩
    · cases e with
      | zero => exact ⟨hi, hj, h⟩
      | succ e =>
        have := h1 e (by omega)
        rw [show i + (e + 1) = i + 1 + e by omega, show j + (e + 1) = j + 1 + e by omega]
        exact this
    · rw [show i + (d + 1) = i + 1 + d by omega, show j + (d + 1) = j + 1 + d by omega]
      exact h2
theorem suf_not_end {n : Nat} {S : Nat → Nat} {i : Nat} : ¬ SufLt n S i n := by
  rintro ⟨d, h1, h2⟩
  rcases h2 with ⟨_, h2⟩ | ⟨_, h2, _⟩ <;> omega
theorem suf_not_gt {n : Nat} {S : Nat → Nat} {i j : Nat} (hi : i < n) (hj : j < n) (h : S j < S i) : ¬ SufLt n S i j := by
  rintro ⟨d, h1, h2⟩
  cases d with
  | zero =>
    rcases h2 with ⟨h2, _⟩ | ⟨_, _, h2⟩
    · omega
    · simp only [Nat.add_zero] at h2; omega
  | succ d =>
    have := (h1 0 (by omega)).2.2
    simp only [Nat.add_zero] at this
    omega

/-- The types: B i says that the suffix at i is S. -/
def TypeOk (n : Nat) (S : Nat → Nat) (B : Nat → Bool) : Prop := B (n - 1) = false ∧ ∀ i, i + 1 < n → (B i = true ↔ (S i < S (i + 1) ∨ (S i = S (i + 1) ∧ B (i + 1) = true)))

section
variable {n : Nat} {S : Nat → Nat} {B : Nat → Bool}

theorem TypeOk.slt (h : TypeOk n S B) {i : Nat} (hi : i < n) (hb : B i = true) : i + 1 < n := by
  by_cases e : i + 1 < n
  · exact e
  · have : i = n - 1 := by omega
    rw [this, h.1] at hb
    cases hb
theorem TypeOk.s_le (h : TypeOk n S B) {i : Nat} (hi : i < n) (hb : B i = true) : S i ≤ S (i + 1) := by
  have h1 := h.slt hi hb
  rcases (h.2 i h1).1 hb with h2 | h2 <;> omega
theorem TypeOk.s_eq (h : TypeOk n S B) {i : Nat} (hi : i < n) (hb : B i = true) (he : S i = S (i + 1)) : B (i + 1) = true := by
  have h1 := h.slt hi hb
  rcases (h.2 i h1).1 hb with h2 | h2
  · omega
  · exact h2.2
theorem TypeOk.l_ge (h : TypeOk n S B) {i : Nat} (hi : i + 1 < n) (hb : B i = false) : S (i + 1) ≤ S i := by
  by_cases e : S i < S (i + 1)
  · have := (h.2 i hi).2 (.inl e); rw [hb] at this; cases this
  · omega
theorem TypeOk.l_eq (h : TypeOk n S B) {i : Nat} (hi : i + 1 < n) (hb : B i = false) (he : S i = S (i + 1)) : B (i + 1) = false := by
  cases hb' : B (i + 1) with
  | false => rfl
  | true => have := (h.2 i hi).2 (.inr ⟨he, hb'⟩); rw [hb] at this; cases this
theorem TypeOk.l_lt (h : TypeOk n S B) {i : Nat} (hi : i + 1 < n) (hb : B i = false) (hb' : B (i + 1) = true) : S (i + 1) < S i := by
  have h1 := h.l_ge hi hb
  by_cases e : S i = S (i + 1)
  · rw [h.l_eq hi hb e] at hb'; cases hb'
  · omega

/-- Of two suffixes with one first symbol an L one comes first. -/
theorem suf_type (h : TypeOk n S B) : ∀ m x y, n - x ≤ m → x < n → y < n → S x = S y → B x = false → B y = true → SufLt n S x y := by
  intro m
  induction m with
  | zero => intro x y h1 h2; omega
  | succ m ih =>
    intro x y hm hx hy he hbx hby
    rw [suf_eq hx hy he]
    have hy1 := h.slt hy hby
    have hy2 := h.s_le hy hby
    by_cases hx1 : x + 1 = n
    · rw [hx1]; exact suf_end hy1
    · have hx2 := h.l_ge (by omega) hbx
      by_cases e : S (x + 1) < S (y + 1)
      · exact suf_lt (by omega) hy1 e
      · exact ih (x + 1) (y + 1) (by omega) (by omega) hy1 (by omega) (h.l_eq (by omega) hbx (by omega)) (h.s_eq hy hby (by omega))

def LMS (n : Nat) (B : Nat → Bool) (x : Nat) : Prop := 0 < x ∧ x < n ∧ B x = true ∧ B (x - 1) = false
def lmsB (n : Nat) (B : Nat → Bool) (x : Nat) : Bool := decide (0 < x) && (decide (x < n) && (B x && !B (x - 1)))
theorem lmsB_iff (x : Nat) : lmsB n B x = true ↔ LMS n B x := by simp [lmsB, LMS]
def InX (n : Nat) (B : Nat → Bool) (x : Nat) : Prop := x = n ∨ (x < n ∧ (B x = false ∨ LMS n B x))
theorem inX_succ {x : Nat} (hx : x < n) (hb : B x = false) : InX n B (x + 1) := by
  by_cases e : x + 1 = n
  · exact .inl e
  · right
    refine ⟨by omega, ?_⟩
    cases hb' : B (x + 1) with
    | false => exact .inl rfl
    | true => exact .inr ⟨by omega, by omega, hb', by simpa using hb⟩

/-! ### Keys -/
def KLf (S : Nat → Nat) (B : Nat → Bool) (r0 : Nat → Nat) : Nat → Nat → List Nat
  | 0, _ => []
  | f + 1, x => if B x = true then [S x, 1, r0 x] else S x :: 0 :: KLf S B r0 f (x + 1)
def KL (n : Nat) (S : Nat → Nat) (B : Nat → Bool) (r0 : Nat → Nat) (x : Nat) : List Nat := KLf S B r0 (n - x) x
def KSf (n : Nat) (S : Nat → Nat) (B : Nat → Bool) (r0 : Nat → Nat) : Nat → Nat → List Nat
  | 0, _ => []
  | f + 1, x => if B x = true then S x :: 1 :: KSf n S B r0 f (x + 1) else KL n S B r0 x
def KS (n : Nat) (S : Nat → Nat) (B : Nat → Bool) (r0 : Nat → Nat) (x : Nat) : List Nat := KSf n S B r0 (n - x) x

variable {r0 : Nat → Nat}
theorem KL_end : KL n S B r0 n = [] := by unfold KL; rw [Nat.sub_self]; rfl
theorem KL_s {x : Nat} (hx : x < n) (hb : B x = true) : KL n S B r0 x = [S x, 1, r0 x] := by
  unfold KL
  rw [show n - x = (n - x - 1) + 1 by omega]
  simp only [KLf]
  rw [if_pos hb]
theorem KL_l {x : Nat} (hx : x < n) (hb : B x = false) : KL n S B r0 x = S x :: 0 :: KL n S B r0 (x + 1) := by
  unfold KL
  rw [show n - x = (n - (x + 1)) + 1 by omega]
  simp only [KLf]
  rw [if_neg (by simp [hb])]
theorem KS_s {x : Nat} (hx : x < n) (hb : B x = true) : KS n S B r0 x = S x :: 1 :: KS n S B r0 (x + 1) := by
  unfold KS
  rw [show n - x = (n - (x + 1)) + 1 by omega]
  simp only [KSf]
  rw [if_pos hb]
theorem KS_l {x : Nat} (hx : x < n) (hb : B x = false) : KS n S B r0 x = KL n S B r0 x := by
  unfold KS
  rw [show n - x = (n - x - 1) + 1 by omega]
  simp only [KSf]
  rw [if_neg (by simp [hb])]

/-- Two keys, two positions: what the first two places say. -/
theorem KL_cases {x y : Nat} (hx : x < n) (hy : y < n) : ll (KL n S B r0 x) (KL n S B r0 y) = true ↔
    S x < S y ∨ (S x = S y ∧ ((B x = false ∧ B y = true) ∨ (B x = false ∧ B y = false ∧ ll (KL n S B r0 (x + 1)) (KL n S B r0 (y + 1)) = true) ∨ (B x = true ∧ B y = true ∧ r0 x < r0 y))) := by
  cases hbx : B x <;> cases hby : B y
  · rw [KL_l hx hbx, KL_l hy hby, ll_cons, ll_cons]; simp
  · rw [KL_l hx hbx, KL_s hy hby, ll_cons, ll_cons]; simp
  · rw [KL_s hx hbx, KL_l hy hby, ll_cons, ll_cons]; simp
  · rw [KL_s hx hbx, KL_s hy hby, ll_cons, ll_cons, ll_cons]; simp [ll]
theorem KS_cases {x y : Nat} (hx : x < n) (hy : y < n) : ll (KS n S B r0 x) (KS n S B r0 y) = true ↔
    S x < S y ∨ (S x = S y ∧ ((B x = false ∧ B y = true) ∨ (B x = false ∧ B y = false ∧ ll (KL n S B r0 (x + 1)) (KL n S B r0 (y + 1)) = true) ∨ (B x = true ∧ B y = true ∧ ll (KS n S B r0 (x + 1)) (KS n S B r0 (y + 1)) = true))) := by
  cases hbx : B x <;> cases hby : B y
  · rw [KS_l hx hbx, KS_l hy hby, KL_l hx hbx, KL_l hy hby, ll_cons, ll_cons]; simp
  · rw [KS_l hx hbx, KS_s hy hby, KL_l hx hbx, ll_cons, ll_cons]; simp
  · rw [KS_s hx hbx, KS_l hy hby, KL_l hy hby, ll_cons, ll_cons]; simp
  · rw [KS_s hx hbx, KS_s hy hby, ll_cons, ll_cons]; simp

theorem KL_inj (hr : ∀ p q, LMS n B p → LMS n B q → r0 p = r0 q → p = q) : ∀ m x y, n - x ≤ m → InX n B x → InX n B y → KL n S B r0 x = KL n S B r0 y → x = y := by
  intro m
  induction m with
  | zero =>
    intro x y hm hx hy h
    have hxn : x = n := by rcases hx with h | h <;> omega
    rcases hy with hy | ⟨hy, hy'⟩
    · omega
    · rw [hxn, KL_end] at h
      cases hb : B y
      · rw [KL_l hy hb] at h; cases h
      · rw [KL_s hy hb] at h; cases h
  | succ m ih =>
    intro x y hm hx hy h
    rcases hx with hx | ⟨hx, hx'⟩
    · rcases hy with hy | ⟨hy, hy'⟩
      · omega
      · rw [hx, KL_end] at h
        cases hb : B y
        · rw [KL_l hy hb] at h; cases h
        · rw [KL_s hy hb] at h; cases h
    · rcases hy with hy | ⟨hy, hy'⟩
      · rw [hy, KL_end] at h
        cases hb : B x
        · rw [KL_l hx hb] at h; cases h
        · rw [KL_s hx hb] at h; cases h
      · cases hbx : B x <;> cases hby : B y
        · rw [KL_l hx hbx, KL_l hy hby] at h
          simp only [List.cons.injEq, true_and] at h
          have := ih (x + 1) (y + 1) (by omega) (inX_succ hx hbx) (inX_succ hy hby) h.2
          omega
        · rw [KL_l hx hbx, KL_s hy hby] at h; simp at h
        · rw [KL_s hx hbx, KL_l hy hby] at h; simp at h
        · rw [KL_s hx hbx, KL_s hy hby] at h
          simp only [List.cons.injEq, true_and, and_true] at h
          have hlx : LMS n B x := by rcases hx' with h' | h'; · rw [hbx] at h'; cases h'
                                     · exact h'
          have hly : LMS n B y := by rcases hy' with h' | h'; · rw [hby] at h'; cases h'
                                     · exact h'
          exact hr x y hlx hly h.2

theorem KS_inj (ht : TypeOk n S B) (hr : ∀ p q, LMS n B p → LMS n B q → r0 p = r0 q → p = q) : ∀ m x y, n - x ≤ m → x < n → y < n → KS n S B r0 x = KS n S B r0 y → x = y := by
  intro m
  induction m with
  | zero => intro x y h1 h2; omega
  | succ m ih =>
    intro x y hm hx hy h
    cases hbx : B x <;> cases hby : B y
    · rw [KS_l hx hbx, KS_l hy hby] at h
      exact KL_inj hr _ x y (Nat.le_refl _) (.inr ⟨hx, .inl hbx⟩) (.inr ⟨hy, .inl hby⟩) h
    · rw [KS_l hx hbx, KS_s hy hby, KL_l hx hbx] at h; simp at h
    · rw [KS_s hx hbx, KS_l hy hby, KL_l hy hby] at h; simp at h
    · rw [KS_s hx hbx, KS_s hy hby] at h
      simp only [List.cons.injEq, true_and] at h
      have := ih (x + 1) (y + 1) (by omega) (ht.slt hx hbx) (ht.slt hy hby) h.2
      omega

/-- What follows an L one comes ahead of it. -/
theorem KL_dec (ht : TypeOk n S B) : ∀ m x, n - x ≤ m → x < n → B x = false → ll (KL n S B r0 (x + 1)) (KL n S B r0 x) = true := by
  intro m
  induction m with
  | zero => intro x h1 h2; omega
  | succ m ih =>
    intro x hm hx hb
    by_cases e : x + 1 = n
    · rw [e, KL_end, KL_l hx hb]; rfl
    · rw [KL_cases (by omega) hx]
      have h1 := ht.l_ge (by omega) hb
      by_cases e2 : S (x + 1) = S x
      · right
        have hb' := ht.l_eq (by omega) hb e2.symm
        exact ⟨e2, .inr (.inl ⟨hb', hb, ih (x + 1) (by omega) (by omega) hb'⟩)⟩
      · left; omega
theorem KS_inc (ht : TypeOk n S B) : ∀ m x, n - x ≤ m → x < n → B x = true → ll (KS n S B r0 x) (KS n S B r0 (x + 1)) = true := by
  intro m
  induction m with
  | zero => intro x h1 h2; omega
  | succ m ih =>
    intro x hm hx hb
    have h1 := ht.slt hx hb
    have h2 := ht.s_le hx hb
    rw [KS_cases hx h1]
    by_cases e2 : S x = S (x + 1)
    · right
      have hb' := ht.s_eq hx hb e2
      exact ⟨e2, .inr (.inr ⟨hb, hb', ih (x + 1) (by omega) h1 hb'⟩)⟩
    · left; omega

end
end Go.Proofs.Qxb6606046a
