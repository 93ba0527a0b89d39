import Derived.Test.Qxb6606046aM2
set_option linter.unusedVariables false
set_option linter.unusedSimpArgs false
namespace Go.Proofs.Qxb6606046a

/-! ### Buckets -/
def hd (n : Nat) (S : Nat → Nat) (c : Nat) : Nat := cn n (fun i => decide (S i < c))
def tl (n : Nat) (S : Nat → Nat) (c : Nat) : Nat := cn n (fun i => decide (S i ≤ c))
def Lc (n : Nat) (S : Nat → Nat) (B : Nat → Bool) (c : Nat) : Nat := cn n (fun i => !B i && decide (S i = c))
def Sc (n : Nat) (S : Nat → Nat) (B : Nat → Bool) (c : Nat) : Nat := cn n (fun i => B i && decide (S i = c))

section
variable {n : Nat} {S : Nat → Nat} {B : Nat → Bool} {r0 : Nat → Nat}

theorem tl_eq (c : Nat) : tl n S c = hd n S c + Lc n S B c + Sc n S B c := by
  unfold tl hd Lc Sc
  rw [Nat.add_assoc, ← cn_or (by intro t _; cases B t <;> simp), ← cn_or (by intro t _; simp; omega)]
  apply cn_congr
  intro t _
  rw [Bool.eq_iff_iff]
  cases B t <;> simp <;> omega
theorem tl_le_hd {c d : Nat} (h : c < d) : tl n S c ≤ hd n S d := by
  unfold tl hd
  apply cn_mono
  intro t _ ht
  simp at ht ⊢
  omega
theorem tl_le_n (c : Nat) : tl n S c ≤ n := cn_le _ _

/-- The slots of the LMS suffixes ahead of 'induce': each in the S part of its bucket, no two the same. -/
def R0Ok (n : Nat) (S : Nat → Nat) (B : Nat → Bool) (r0 : Nat → Nat) : Prop :=
  (∀ p, LMS n B p → hd n S (S p) + Lc n S B (S p) ≤ r0 p ∧ r0 p < tl n S (S p)) ∧ ∀ p q, LMS n B p → LMS n B q → r0 p = r0 q → p = q

/-- Where an L suffix belongs. -/
def tgt (n : Nat) (S : Nat → Nat) (B : Nat → Bool) (r0 : Nat → Nat) (x : Nat) : Nat := hd n S (S x) + cn n (fun y => !B y && decide (S y = S x) && ll (KL n S B r0 y) (KL n S B r0 x))
def px (n : Nat) (S : Nat → Nat) (B : Nat → Bool) (r0 : Nat → Nat) (x : Nat) : Nat := if x < n then (if B x = true then r0 x else tgt n S B r0 x) + 1 else 0

theorem tgt_lt {x : Nat} (hx : x < n) (hb : B x = false) : tgt n S B r0 x < hd n S (S x) + Lc n S B (S x) := by
  unfold tgt Lc
  have := cn_lt (n := n) (p := fun y => !B y && decide (S y = S x) && ll (KL n S B r0 y) (KL n S B r0 x)) (q := fun i => !B i && decide (S i = S x)) (by
    intro t _ h
    simp only [Bool.and_eq_true] at h ⊢
    exact h.1) hx (by simp [hb]) (by simp [ll_irrefl])
  omega
theorem tgt_lt_n {x : Nat} (hx : x < n) (hb : B x = false) : tgt n S B r0 x < n := by
  have h1 := tgt_lt (S := S) (r0 := r0) hx hb
  have h2 := tl_eq (n := n) (S := S) (B := B) (S x)
  have h3 := tl_le_n (n := n) (S := S) (S x)
  omega
theorem px_end : px n S B r0 n = 0 := by unfold px; rw [if_neg (by omega)]
theorem px_s {x : Nat} (hx : x < n) (hb : B x = true) : px n S B r0 x = r0 x + 1 := by unfold px; rw [if_pos hx, if_pos hb]
theorem px_l {x : Nat} (hx : x < n) (hb : B x = false) : px n S B r0 x = tgt n S B r0 x + 1 := by unfold px; rw [if_pos hx, if_neg (by simp [hb])]

theorem lms_of {x : Nat} (h : B x = false ∨ LMS n B x) (hb : B x = true) : LMS n B x := by
  rcases h with h | h
  · rw [hb] at h; cases h
  · exact h

/-- The slot lies in the bucket. -/
theorem px_bucket (hR : R0Ok n S B r0) {x : Nat} (hx : x < n) (hX : B x = false ∨ LMS n B x) : hd n S (S x) + 1 ≤ px n S B r0 x ∧ px n S B r0 x ≤ tl n S (S x) := by
  have h2 := tl_eq (n := n) (S := S) (B := B) (S x)
  cases hb : B x with
  | false =>
    rw [px_l hx hb]
    have := tgt_lt (S := S) (r0 := r0) hx hb
    have h3 : hd n S (S x) ≤ tgt n S B r0 x := by unfold tgt; omega
    omega
  | true =>
    rw [px_s hx hb]
    have := hR.1 x (lms_of hX hb)
    omega

theorem tgt_mono {x y : Nat} (hx : x < n) (hbx : B x = false) (he : S x = S y) (h : ll (KL n S B r0 x) (KL n S B r0 y) = true) : tgt n S B r0 x < tgt n S B r0 y := by
  unfold tgt
  rw [he]
  have := cn_lt (n := n) (p := fun z => !B z && decide (S z = S y) && ll (KL n S B r0 z) (KL n S B r0 x)) (q := fun z => !B z && decide (S z = S y) && ll (KL n S B r0 z) (KL n S B r0 y)) (by
    intro t _ ht
    simp only [Bool.and_eq_true] at ht ⊢
    exact ⟨ht.1, ll_trans ht.2 h⟩) hx (by simp [hbx, he, h]) (by simp [ll_irrefl])
  omega

theorem px_mono (hR : R0Ok n S B r0) {x y : Nat} (hx : InX n B x) (hy : InX n B y) (h : ll (KL n S B r0 x) (KL n S B r0 y) = true) : px n S B r0 x < px n S B r0 y := by
  rcases hy with rfl | ⟨hy, hy'⟩
  · rw [KL_end, ll_nil_right] at h; cases h
  have hby := px_bucket hR hy hy'
  rcases hx with rfl | ⟨hx, hx'⟩
  · rw [px_end]; omega
  have hbx := px_bucket hR hx hx'
  rw [KL_cases hx hy] at h
  rcases h with h | ⟨he, h⟩
  · have := tl_le_hd (n := n) (S := S) h; omega
  · rcases h with ⟨h1, h2⟩ | ⟨h1, h2, h3⟩ | ⟨h1, h2, h3⟩
    · rw [px_l hx h1, px_s hy h2]
      have e1 := tgt_lt (S := S) (r0 := r0) hx h1
      have e2 := hR.1 y (lms_of hy' h2)
      rw [he] at e1
      omega
    · rw [px_l hx h1, px_l hy h2]
      have := tgt_mono (S := S) (r0 := r0) hx h1 he (by rw [KL_cases hx hy]; exact .inr ⟨he, .inr (.inl ⟨h1, h2, h3⟩)⟩)
      omega
    · rw [px_s hx h1, px_s hy h2]; omega

theorem px_iff (hR : R0Ok n S B r0) {x y : Nat} (hx : InX n B x) (hy : InX n B y) : px n S B r0 x < px n S B r0 y ↔ ll (KL n S B r0 x) (KL n S B r0 y) = true := by
  refine ⟨fun h => ?_, px_mono hR hx hy⟩
  by_cases e : x = y
  · subst e; omega
  · rcases ll_total (a := KL n S B r0 x) (b := KL n S B r0 y) (fun e' => e (KL_inj hR.2 _ x y (Nat.le_refl _) hx hy e')) with h' | h'
    · exact h'
    · have := px_mono hR hy hx h'; omega
theorem px_inj (hR : R0Ok n S B r0) {x y : Nat} (hx : InX n B x) (hy : InX n B y) (h : px n S B r0 x = px n S B r0 y) : x = y := by
  by_cases e : x = y
  · exact e
  · rcases ll_total (a := KL n S B r0 x) (b := KL n S B r0 y) (fun e' => e (KL_inj hR.2 _ x y (Nat.le_refl _) hx hy e')) with h' | h'
    · have := px_mono hR hx hy h'; omega
    · have := px_mono hR hy hx h'; omega
theorem px_dec (ht : TypeOk n S B) (hR : R0Ok n S B r0) {x : Nat} (hx : x < n) (hb : B x = false) : px n S B r0 (x + 1) < px n S B r0 x :=
  px_mono hR (inX_succ hx hb) (.inr ⟨hx, .inl hb⟩) (KL_dec ht _ x (Nat.le_refl _) hx hb)
theorem px_le (hR : R0Ok n S B r0) {x : Nat} (hx : InX n B x) : px n S B r0 x ≤ n := by
  rcases hx with rfl | ⟨hx, hx'⟩
  · rw [px_end]; omega
  · have h1 := px_bucket hR hx hx'
    have h3 := tl_le_n (n := n) (S := S) (S x)
    omega

/-! ### The pass forward -/
structure InvL (n : Nat) (S : Nat → Nat) (B : Nat → Bool) (r0 : Nat → Nat) (i : Nat) (sa : Nat → Int) (at_ : Nat → Nat) : Prop where
  hat : ∀ c, at_ c = hd n S c + cn n (fun x => !B x && decide (S x = c) && decide (px n S B r0 (x + 1) ≤ i))
  hl : ∀ x, x < n → B x = false → px n S B r0 (x + 1) ≤ i → sa (tgt n S B r0 x) = x
  hs : ∀ p, LMS n B p → sa (r0 p) = p
  ho : ∀ t, t < n → sa t = -1 ∨ (∃ p, LMS n B p ∧ r0 p = t) ∨ ∃ x, x < n ∧ B x = false ∧ px n S B r0 (x + 1) ≤ i ∧ tgt n S B r0 x = t

def upd {α : Type} (f : Nat → α) (i : Nat) (v : α) : Nat → α := fun t => if t = i then v else f t
theorem upd_same {α : Type} (f : Nat → α) (i : Nat) (v : α) : upd f i v i = v := by simp [upd]
theorem upd_ne {α : Type} (f : Nat → α) {i t : Nat} (v : α) (h : t ≠ i) : upd f i v t = f t := by simp [upd, h]

/-- Who stands at i. -/
theorem invL_at (ht : TypeOk n S B) (hR : R0Ok n S B r0) {i : Nat} {sa : Nat → Int} {at_ : Nat → Nat} (h : InvL n S B r0 i sa at_) (hi : i < n) :
    (sa i = -1 ∧ ∀ y, InX n B y → px n S B r0 y ≠ i + 1) ∨ ∃ q : Nat, sa i = (q : Int) ∧ q < n ∧ (B q = false ∨ LMS n B q) ∧ px n S B r0 q = i + 1 := by
  have hval : ∀ y, y < n → (B y = false ∨ LMS n B y) → px n S B r0 y = i + 1 → sa i = (y : Int) := by
    intro y hy hy' hp
    cases hb : B y with
    | false =>
      rw [px_l hy hb] at hp
      have hd := px_dec ht hR hy hb
      rw [px_l hy hb] at hd
      have := h.hl y hy hb (by omega)
      rw [show tgt n S B r0 y = i by omega] at this
      exact this
    | true =>
      rw [px_s hy hb] at hp
      have := h.hs y (lms_of hy' hb)
      rw [show r0 y = i by omega] at this
      exact this
  rcases h.ho i hi with h1 | ⟨p, hp, he⟩ | ⟨x, hx, hb, _, he⟩
  · by_cases hex : ∃ y, InX n B y ∧ px n S B r0 y = i + 1
    · obtain ⟨y, hy, hpy⟩ := hex
      rcases hy with rfl | ⟨hy, hy'⟩
      · rw [px_end] at hpy; omega
      · have := hval y hy hy' hpy
        rw [h1] at this
        omega
    · exact .inl ⟨h1, fun y hy e => hex ⟨y, hy, e⟩⟩
  · right
    have hpp : px n S B r0 p = i + 1 := by rw [px_s hp.2.1 hp.2.2.1, he]
    exact ⟨p, hval p hp.2.1 (.inr hp) hpp, hp.2.1, .inr hp, hpp⟩
  · right
    have hpp : px n S B r0 x = i + 1 := by rw [px_l hx hb, he]
    exact ⟨x, hval x hx (.inl hb) hpp, hx, .inl hb, hpp⟩

/-- Nothing is induced. -/
theorem invL_skip {i : Nat} {sa : Nat → Int} {at_ : Nat → Nat} (h : InvL n S B r0 i sa at_) (hno : ∀ x, x < n → B x = false → px n S B r0 (x + 1) ≠ i + 1) : InvL n S B r0 (i + 1) sa at_ := by
  have key : ∀ x, x < n → B x = false → (px n S B r0 (x + 1) ≤ i + 1 ↔ px n S B r0 (x + 1) ≤ i) := by
    intro x hx hb
    have := hno x hx hb
    omega
  refine ⟨fun c => ?_, fun x hx hb hp => h.hl x hx hb ((key x hx hb).1 hp), h.hs, fun t htn => ?_⟩
  · rw [h.hat c]
    congr 1
    apply cn_congr
    intro x hx
    cases hb : B x
    · have := key x hx hb
      simp [this]
    · simp
  · rcases h.ho t htn with h1 | h1 | ⟨x, hx, hb, hp, he⟩
    · exact .inl h1
    · exact .inr (.inl h1)
    · exact .inr (.inr ⟨x, hx, hb, by omega, he⟩)

/-- One L suffix is placed. -/
theorem invL_put (ht : TypeOk n S B) (hR : R0Ok n S B r0) {i : Nat} {sa : Nat → Int} {at_ : Nat → Nat} (h : InvL n S B r0 i sa at_) {j : Nat} (hj : j < n) (hb : B j = false) (hp : px n S B r0 (j + 1) = i + 1) :
    at_ (S j) = tgt n S B r0 j ∧ at_ (S j) < n ∧ InvL n S B r0 (i + 1) (upd sa (at_ (S j)) j) (upd at_ (S j) (at_ (S j) + 1)) := by
  have hX := inX_succ hj hb
  have e1 : at_ (S j) = tgt n S B r0 j := by
    rw [h.hat (S j)]
    unfold tgt
    congr 1
    apply cn_congr
    intro x hx
    cases hbx : B x
    · by_cases hs : S x = S j
      · have h1 : px n S B r0 (x + 1) ≤ i ↔ ll (KL n S B r0 x) (KL n S B r0 j) = true := by
          rw [KL_cases hx hj]
          have h2 := px_iff hR (inX_succ hx hbx) hX
          rw [hp] at h2
          constructor
          · intro h3; exact .inr ⟨hs, .inr (.inl ⟨hbx, hb, h2.1 (by omega)⟩)⟩
          · rintro (h3 | ⟨_, h3⟩)
            · omega
            · rcases h3 with ⟨_, h3⟩ | ⟨_, _, h3⟩ | ⟨h3, _⟩
              · rw [hb] at h3; cases h3
              · have := h2.2 h3; omega
              · rw [hbx] at h3; cases h3
        rw [Bool.eq_iff_iff]
        simp [hs, h1]
      · simp [hs]
    · simp
  refine ⟨e1, by rw [e1]; exact tgt_lt_n hj hb, ?_⟩
  have key : ∀ x, x < n → B x = false → (px n S B r0 (x + 1) ≤ i + 1 ↔ px n S B r0 (x + 1) ≤ i ∨ x = j) := by
    intro x hx hbx
    constructor
    · intro h1
      by_cases e : px n S B r0 (x + 1) = i + 1
      · right
        have := px_inj hR (inX_succ hx hbx) hX (e.trans hp.symm)
        omega
      · left; omega
    · rintro (h1 | rfl)
      · omega
      · omega
  refine ⟨fun c => ?_, fun x hx hbx hpx => ?_, fun p hpl => ?_, fun t htn => ?_⟩
  · by_cases e : c = S j
    · subst e
      rw [upd_same, h.hat (S j), Nat.add_assoc]
      congr 1
      symm
      apply cn_add_one hj (by simp [hb]; omega)
      intro x hx
      cases hbx : B x
      · have := key x hx hbx
        rw [Bool.eq_iff_iff]
        simp only [Bool.not_false, Bool.true_and, Bool.and_eq_true, decide_eq_true_eq, Bool.or_eq_true, this]
        constructor
        · rintro ⟨h1, h2 | h2⟩
          · exact .inl ⟨h1, h2⟩
          · exact .inr h2
        · rintro (h1 | rfl)
          · exact ⟨h1.1, .inl h1.2⟩
          · exact ⟨rfl, .inr rfl⟩
      · rw [Bool.eq_iff_iff]
        simp
        intro e; subst e; rw [hb] at hbx; cases hbx
    · rw [upd_ne _ _ e, h.hat c]
      congr 1
      apply cn_congr
      intro x hx
      cases hbx : B x
      · have := key x hx hbx
        rw [Bool.eq_iff_iff]
        simp only [Bool.not_false, Bool.true_and, Bool.and_eq_true, decide_eq_true_eq, this]
        constructor
        · rintro ⟨h1, h2⟩; exact ⟨h1, .inl h2⟩
        · rintro ⟨h1, h2 | h2⟩
          · exact ⟨h1, h2⟩
          · subst h2; exact absurd h1.symm e
      · simp
  · rcases (key x hx hbx).1 hpx with h1 | rfl
    · have hne : tgt n S B r0 x ≠ at_ (S j) := by
        intro e
        rw [e1] at e
        have hX1 : InX n B x := .inr ⟨hx, .inl hbx⟩
        have hX2 : InX n B j := .inr ⟨hj, .inl hb⟩
        have := px_inj hR hX1 hX2 (by rw [px_l hx hbx, px_l hj hb, e])
        subst this
        omega
      rw [upd_ne _ _ hne]
      exact h.hl x hx hbx h1
    · rw [e1, upd_same]
  · have hne : r0 p ≠ at_ (S j) := by
      intro e
      rw [e1] at e
      have hX1 : InX n B p := .inr ⟨hpl.2.1, .inr hpl⟩
      have hX2 : InX n B j := .inr ⟨hj, .inl hb⟩
      have := px_inj hR hX1 hX2 (by rw [px_s hpl.2.1 hpl.2.2.1, px_l hj hb, e])
      subst this
      rw [hpl.2.2.1] at hb
      cases hb
    rw [upd_ne _ _ hne]
    exact h.hs p hpl
  · by_cases e : t = at_ (S j)
    · exact .inr (.inr ⟨j, hj, hb, by omega, by rw [e, e1]⟩)
    · rw [upd_ne _ _ e]
      rcases h.ho t htn with h1 | h1 | ⟨x, hx, hbx, hpx, he⟩
      · exact .inl h1
      · exact .inr (.inl h1)
      · exact .inr (.inr ⟨x, hx, hbx, by omega, he⟩)

/-- Ahead of the pass: the LMS suffixes stand; the last suffix is placed. -/
theorem invL_start (ht : TypeOk n S B) (hR : R0Ok n S B r0) (hn : 0 < n) {sa : Nat → Int} {at_ : Nat → Nat} (hat : ∀ c, at_ c = hd n S c) (hs : ∀ p, LMS n B p → sa (r0 p) = p) (ho : ∀ t, t < n → sa t = -1 ∨ ∃ p, LMS n B p ∧ r0 p = t) :
    at_ (S (n - 1)) < n ∧ InvL n S B r0 0 (upd sa (at_ (S (n - 1))) ((n - 1 : Nat) : Int)) (upd at_ (S (n - 1)) (at_ (S (n - 1)) + 1)) := by
  have hj : n - 1 < n := by omega
  have hb := ht.1
  have key : ∀ x, x < n → B x = false → (px n S B r0 (x + 1) ≤ 0 ↔ x = n - 1) := by
    intro x hx hbx
    constructor
    · intro h
      have := px_inj hR (inX_succ hx hbx) (.inl rfl) (by rw [px_end]; omega)
      omega
    · rintro rfl
      rw [show n - 1 + 1 = n by omega, px_end]; exact Nat.le_refl _
  have e1 : at_ (S (n - 1)) = tgt n S B r0 (n - 1) := by
    rw [hat]
    unfold tgt
    rw [cn_false n (by
      intro y hy
      cases hby : B y
      · by_cases hs : S y = S (n - 1)
        · have : ll (KL n S B r0 y) (KL n S B r0 (n - 1)) = false := by
            rw [KL_l hy hby, KL_l hj hb, show n - 1 + 1 = n by omega, KL_end]
            simp [ll, ll_nil_right]
            omega
          simp [this]
        · simp [hs]
      · simp)]
    rfl
  refine ⟨by rw [e1]; exact tgt_lt_n hj hb, ⟨fun c => ?_, fun x hx hbx hpx => ?_, fun p hpl => ?_, fun t htn => ?_⟩⟩
  · by_cases e : c = S (n - 1)
    · subst e
      rw [upd_same, hat]
      congr 1
      symm
      have h0 : cn n (fun _ => false) = 0 := cn_false n (fun _ _ => rfl)
      have := cn_add_one (n := n) (p := fun _ => false) (q := fun x => !B x && decide (S x = S (n - 1)) && decide (px n S B r0 (x + 1) ≤ 0)) hj rfl (by
        intro x hx
        cases hbx : B x
        · have := key x hx hbx
          rw [Bool.eq_iff_iff]
          simp only [Bool.not_false, Bool.true_and, Bool.and_eq_true, decide_eq_true_eq, this, Bool.false_or]
          constructor
          · rintro ⟨_, h⟩; exact h
          · rintro rfl; exact ⟨rfl, rfl⟩
        · rw [Bool.eq_iff_iff]
          simp
          intro e; subst e; rw [hb] at hbx; cases hbx)
      rw [this, h0]
    · rw [upd_ne _ _ e, hat, cn_false n (by
        intro x hx
        cases hbx : B x
        · have := key x hx hbx
          simp only [Bool.not_false, Bool.true_and, this, Bool.and_eq_false_iff, decide_eq_false_iff_not]
          by_cases e2 : x = n - 1
          · subst e2; exact .inl (fun h => e h.symm)
          · exact .inr e2
        · simp)]
      rfl
  · have := (key x hx hbx).1 hpx
    subst this
    rw [e1, upd_same]
  · have hne : r0 p ≠ at_ (S (n - 1)) := by
      intro e
      rw [e1] at e
      have := px_inj hR (.inr ⟨hpl.2.1, .inr hpl⟩) (.inr ⟨hj, .inl hb⟩) (by rw [px_s hpl.2.1 hpl.2.2.1, px_l hj hb, e])
      subst this
      rw [hpl.2.2.1] at hb
      cases hb
    rw [upd_ne _ _ hne]
    exact hs p hpl
  · by_cases e : t = at_ (S (n - 1))
    · exact .inr (.inr ⟨n - 1, hj, hb, by rw [show n - 1 + 1 = n by omega, px_end]; exact Nat.le_refl _, by rw [e, e1]⟩)
    · rw [upd_ne _ _ e]
      rcases ho t htn with h1 | h1
      · exact .inl h1
      · exact .inr (.inl h1)

end
end Go.Proofs.Qxb6606046a
