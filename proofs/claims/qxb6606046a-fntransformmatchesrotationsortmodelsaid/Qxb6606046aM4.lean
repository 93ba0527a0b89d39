import Derived.Test.Qxb6606046aM3
set_option linter.unusedVariables false
set_option linter.unusedSimpArgs false
namespace Go.Proofs.Qxb6606046a

section
variable {n : Nat} {S : Nat → Nat} {B : Nat → Bool} {r0 : Nat → Nat}

/-! ### The pass backward -/
def sgt (n : Nat) (S : Nat → Nat) (B : Nat → Bool) (r0 : Nat → Nat) (x : Nat) : Nat := cn n (fun y => B y && decide (S y = S x) && ll (KS n S B r0 x) (KS n S B r0 y))
def pf (n : Nat) (S : Nat → Nat) (B : Nat → Bool) (r0 : Nat → Nat) (x : Nat) : Nat := if B x = true then tl n S (S x) - 1 - sgt n S B r0 x else tgt n S B r0 x

theorem pf_s {x : Nat} (hb : B x = true) : pf n S B r0 x = tl n S (S x) - 1 - sgt n S B r0 x := by unfold pf; rw [if_pos hb]
theorem pf_l {x : Nat} (hb : B x = false) : pf n S B r0 x = tgt n S B r0 x := by unfold pf; rw [if_neg (by simp [hb])]
theorem sgt_lt {x : Nat} (hx : x < n) (hb : B x = true) : sgt n S B r0 x < Sc n S B (S x) := by
  unfold sgt Sc
  exact cn_lt (n := n) (p := fun y => B y && decide (S y = S x) && ll (KS n S B r0 x) (KS n S B r0 y)) (q := fun i => B i && decide (S i = S x)) (by
    intro t _ h
    simp only [Bool.and_eq_true] at h ⊢
    exact h.1) hx (by simp [hb]) (by simp [ll_irrefl])
theorem pf_s_range {x : Nat} (hx : x < n) (hb : B x = true) : hd n S (S x) + Lc n S B (S x) ≤ pf n S B r0 x ∧ pf n S B r0 x + 1 + sgt n S B r0 x = tl n S (S x) := by
  have h1 := sgt_lt (S := S) (r0 := r0) hx hb
  have h2 := tl_eq (n := n) (S := S) (B := B) (S x)
  rw [pf_s hb]
  omega
theorem pf_range {x : Nat} (hx : x < n) : hd n S (S x) ≤ pf n S B r0 x ∧ pf n S B r0 x < tl n S (S x) := by
  cases hb : B x with
  | true =>
    have := pf_s_range (S := S) (r0 := r0) hx hb
    omega
  | false =>
    rw [pf_l hb]
    have h1 := tgt_lt (S := S) (r0 := r0) hx hb
    have h2 := tl_eq (n := n) (S := S) (B := B) (S x)
    have h3 : hd n S (S x) ≤ tgt n S B r0 x := by unfold tgt; omega
    omega
theorem pf_lt_n {x : Nat} (hx : x < n) : pf n S B r0 x < n := by
  have h1 := pf_range (S := S) (B := B) (r0 := r0) hx
  have h2 := tl_le_n (n := n) (S := S) (S x)
  omega
theorem pf_mono {x y : Nat} (hx : x < n) (hy : y < n) (h : ll (KS n S B r0 x) (KS n S B r0 y) = true) : pf n S B r0 x < pf n S B r0 y := by
  have h1 := pf_range (S := S) (B := B) (r0 := r0) hx
  have h2 := pf_range (S := S) (B := B) (r0 := r0) hy
  have hk := h
  rw [KS_cases hx hy] at h
  rcases h with h | ⟨he, h⟩
  · have := tl_le_hd (n := n) (S := S) h; omega
  · rcases h with ⟨b1, b2⟩ | ⟨b1, b2, h3⟩ | ⟨b1, b2, h3⟩
    · rw [pf_l b1]
      have e1 := tgt_lt (S := S) (r0 := r0) hx b1
      have e2 := pf_s_range (S := S) (r0 := r0) hy b2
      rw [he] at e1
      omega
    · rw [pf_l b1, pf_l b2]
      exact tgt_mono hx b1 he (by rw [← KS_l hx b1, ← KS_l hy b2]; exact hk)
    · have e1 := pf_s_range (S := S) (r0 := r0) hx b1
      have e2 := pf_s_range (S := S) (r0 := r0) hy b2
      have e3 : sgt n S B r0 y < sgt n S B r0 x := by
        unfold sgt
        rw [he]
        exact cn_lt (n := n) (p := fun z => B z && decide (S z = S y) && ll (KS n S B r0 y) (KS n S B r0 z)) (q := fun z => B z && decide (S z = S y) && ll (KS n S B r0 x) (KS n S B r0 z)) (by
          intro t _ ht
          simp only [Bool.and_eq_true] at ht ⊢
          exact ⟨ht.1, ll_trans hk ht.2⟩) hy (by simp [b2, hk]) (by simp [ll_irrefl])
      rw [he] at e1
      omega
theorem pf_iff (ht : TypeOk n S B) (hR : R0Ok n S B r0) {x y : Nat} (hx : x < n) (hy : y < n) : pf n S B r0 x < pf n S B r0 y ↔ ll (KS n S B r0 x) (KS n S B r0 y) = true := by
  refine ⟨fun h => ?_, pf_mono hx hy⟩
  by_cases e : x = y
  · subst e; omega
  · rcases ll_total (a := KS n S B r0 x) (b := KS n S B r0 y) (fun e' => e (KS_inj ht hR.2 _ x y (Nat.le_refl _) hx hy e')) with h' | h'
    · exact h'
    · have := pf_mono hy hx h'; omega
theorem pf_inj (ht : TypeOk n S B) (hR : R0Ok n S B r0) {x y : Nat} (hx : x < n) (hy : y < n) (h : pf n S B r0 x = pf n S B r0 y) : x = y := by
  by_cases e : x = y
  · exact e
  · rcases ll_total (a := KS n S B r0 x) (b := KS n S B r0 y) (fun e' => e (KS_inj ht hR.2 _ x y (Nat.le_refl _) hx hy e')) with h' | h'
    · have := pf_mono hx hy h'; omega
    · have := pf_mono hy hx h'; omega
theorem pf_onto (ht : TypeOk n S B) (hR : R0Ok n S B r0) : ∀ i, i < n → ∃ x, x < n ∧ pf n S B r0 x = i :=
  inj_onto (fun x hx => pf_lt_n hx) (fun x y hx hy h => pf_inj ht hR hx hy h)
theorem pf_inc (ht : TypeOk n S B) {x : Nat} (hx : x < n) (hb : B x = true) : pf n S B r0 x < pf n S B r0 (x + 1) :=
  pf_mono hx (ht.slt hx hb) (KS_inc ht _ x (Nat.le_refl _) hx hb)

/-- The slots from i on have been scanned. -/
structure InvS (n : Nat) (S : Nat → Nat) (B : Nat → Bool) (r0 : Nat → Nat) (i : Nat) (sa : Nat → Int) (at_ : Nat → Nat) : Prop where
  hat : ∀ c, at_ c + cn n (fun x => B x && decide (S x = c) && decide (i ≤ pf n S B r0 (x + 1))) = tl n S c
  hs : ∀ x, x < n → B x = true → i ≤ pf n S B r0 (x + 1) → sa (pf n S B r0 x) = x
  hl : ∀ x, x < n → B x = false → sa (pf n S B r0 x) = x

theorem invS_start (ht : TypeOk n S B) (hR : R0Ok n S B r0) {sa : Nat → Int} {a0 at_ : Nat → Nat} (h : InvL n S B r0 n sa a0) (hat : ∀ c, at_ c = tl n S c) : InvS n S B r0 n sa at_ := by
  have key : ∀ x, x < n → B x = true → ¬ n ≤ pf n S B r0 (x + 1) := by
    intro x hx hb
    have := pf_lt_n (S := S) (B := B) (r0 := r0) (ht.slt hx hb)
    omega
  refine ⟨fun c => ?_, fun x hx hb hp => absurd hp (key x hx hb), fun x hx hb => ?_⟩
  · rw [hat, cn_false n (by
      intro x hx
      cases hb : B x
      · simp
      · simp [key x hx hb])]
    rfl
  · rw [pf_l hb]
    exact h.hl x hx hb (px_le hR (inX_succ hx hb))

/-- Who stands at i. -/
theorem invS_at (ht : TypeOk n S B) (hR : R0Ok n S B r0) {i : Nat} {sa : Nat → Int} {at_ : Nat → Nat} (h : InvS n S B r0 (i + 1) sa at_) (hi : i < n) : ∃ q : Nat, sa i = (q : Int) ∧ q < n ∧ pf n S B r0 q = i := by
  obtain ⟨q, hq, he⟩ := pf_onto ht hR i hi
  refine ⟨q, ?_, hq, he⟩
  rw [← he]
  cases hb : B q with
  | false => exact h.hl q hq hb
  | true =>
    refine h.hs q hq hb ?_
    have := pf_inc (r0 := r0) ht hq hb
    omega

theorem invS_skip {i : Nat} {sa : Nat → Int} {at_ : Nat → Nat} (h : InvS n S B r0 (i + 1) sa at_) (hno : ∀ x, x < n → B x = true → pf n S B r0 (x + 1) ≠ i) : InvS n S B r0 i sa at_ := by
  have key : ∀ x, x < n → B x = true → (i ≤ pf n S B r0 (x + 1) ↔ i + 1 ≤ pf n S B r0 (x + 1)) := by
    intro x hx hb
    have := hno x hx hb
    omega
  refine ⟨fun c => ?_, fun x hx hb hp => h.hs x hx hb ((key x hx hb).1 hp), h.hl⟩
  rw [← h.hat c]
  congr 1
  apply cn_congr
  intro x hx
  cases hb : B x
  · simp
  · simp [key x hx hb]

theorem invS_put (ht : TypeOk n S B) (hR : R0Ok n S B r0) {i : Nat} {sa : Nat → Int} {at_ : Nat → Nat} (h : InvS n S B r0 (i + 1) sa at_) {j : Nat} (hj : j < n) (hb : B j = true) (hp : pf n S B r0 (j + 1) = i) :
    at_ (S j) = pf n S B r0 j + 1 ∧ pf n S B r0 j < n ∧ InvS n S B r0 i (upd sa (at_ (S j) - 1) j) (upd at_ (S j) (at_ (S j) - 1)) := by
  have hj1 := ht.slt hj hb
  have e0 : cn n (fun x => B x && decide (S x = S j) && decide (i + 1 ≤ pf n S B r0 (x + 1))) = sgt n S B r0 j := by
    unfold sgt
    apply cn_congr
    intro x hx
    cases hbx : B x
    · simp
    · by_cases hs : S x = S j
      · have h1 : i + 1 ≤ pf n S B r0 (x + 1) ↔ ll (KS n S B r0 j) (KS n S B r0 x) = true := by
          rw [KS_cases hj hx]
          have h2 := pf_iff ht hR hj1 (ht.slt hx hbx)
          rw [hp] at h2
          constructor
          · intro h3; exact .inr ⟨hs.symm, .inr (.inr ⟨hb, hbx, h2.1 (by omega)⟩)⟩
          · rintro (h3 | ⟨_, h3⟩)
            · omega
            · rcases h3 with ⟨h3, _⟩ | ⟨h3, _⟩ | ⟨_, _, h3⟩
              · rw [hb] at h3; cases h3
              · rw [hb] at h3; cases h3
              · have := h2.2 h3; omega
        rw [Bool.eq_iff_iff]
        simp [hs, h1]
      · simp [hs]
  have e1 : at_ (S j) = pf n S B r0 j + 1 := by
    have h1 := h.hat (S j)
    rw [e0] at h1
    have h2 := pf_s_range (S := S) (r0 := r0) hj hb
    omega
  refine ⟨e1, pf_lt_n hj, ?_⟩
  have e2 : at_ (S j) - 1 = pf n S B r0 j := by omega
  rw [e2]
  have key : ∀ x, x < n → B x = true → (i ≤ pf n S B r0 (x + 1) ↔ i + 1 ≤ pf n S B r0 (x + 1) ∨ x = j) := by
    intro x hx hbx
    constructor
    · intro h1
      by_cases e : pf n S B r0 (x + 1) = i
      · right
        have := pf_inj ht hR (ht.slt hx hbx) hj1 (e.trans hp.symm)
        omega
      · left; omega
    · rintro (h1 | rfl)
      · omega
      · omega
  refine ⟨fun c => ?_, fun x hx hbx hpx => ?_, fun x hx hbx => ?_⟩
  · by_cases e : c = S j
    · subst e
      rw [upd_same]
      have h1 := h.hat (S j)
      have h2 := cn_add_one (n := n) (p := fun x => B x && decide (S x = S j) && decide (i + 1 ≤ pf n S B r0 (x + 1))) (q := fun x => B x && decide (S x = S j) && decide (i ≤ pf n S B r0 (x + 1))) hj (by simp; omega) (by
        intro x hx
        cases hbx : B x
        · rw [Bool.eq_iff_iff]
          simp
          intro e; subst e; rw [hb] at hbx; cases hbx
        · have := key x hx hbx
          rw [Bool.eq_iff_iff]
          simp only [Bool.true_and, Bool.and_eq_true, decide_eq_true_eq, Bool.or_eq_true, this]
          constructor
          · rintro ⟨h1, h2 | h2⟩
            · exact .inl ⟨h1, h2⟩
            · exact .inr h2
          · rintro (h1 | rfl)
            · exact ⟨h1.1, .inl h1.2⟩
            · exact ⟨rfl, .inr rfl⟩)
      rw [h2]
      omega
    · rw [upd_ne _ _ e, ← h.hat c]
      congr 1
      apply cn_congr
      intro x hx
      cases hbx : B x
      · simp
      · have := key x hx hbx
        rw [Bool.eq_iff_iff]
        simp only [Bool.true_and, Bool.and_eq_true, decide_eq_true_eq, this]
        constructor
        · rintro ⟨h1, h2 | h2⟩
          · exact ⟨h1, h2⟩
          · subst h2; exact absurd h1.symm e
        · rintro ⟨h1, h2⟩; exact ⟨h1, .inl h2⟩
  · rcases (key x hx hbx).1 hpx with h1 | rfl
    · have hne : pf n S B r0 x ≠ pf n S B r0 j := by
        intro e
        have := pf_inj ht hR hx hj e
        subst this
        omega
      rw [upd_ne _ _ hne]
      exact h.hs x hx hbx h1
    · rw [upd_same]
  · have hne : pf n S B r0 x ≠ pf n S B r0 j := by
      intro e
      have := pf_inj ht hR hx hj e
      subst this
      rw [hb] at hbx
      cases hbx
    rw [upd_ne _ _ hne]
    exact h.hl x hx hbx

/-- What 'induce' leaves: every suffix in its place by the keys. -/
def Sorted (n : Nat) (K : Nat → List Nat) (sa : Nat → Int) : Prop :=
  (∀ i, i < n → ∃ x : Nat, x < n ∧ sa i = x) ∧ (∀ x, x < n → ∃ i, i < n ∧ sa i = (x : Int)) ∧ ∀ i j x y, i < j → j < n → sa i = (x : Nat) → sa j = (y : Nat) → ll (K x) (K y) = true

theorem invS_done (ht : TypeOk n S B) (hR : R0Ok n S B r0) {sa : Nat → Int} {at_ : Nat → Nat} (h : InvS n S B r0 0 sa at_) : Sorted n (KS n S B r0) sa := by
  have hv : ∀ x, x < n → sa (pf n S B r0 x) = (x : Int) := by
    intro x hx
    cases hb : B x with
    | false => exact h.hl x hx hb
    | true => exact h.hs x hx hb (Nat.zero_le _)
  have ho := pf_onto ht hR
  refine ⟨fun i hi => ?_, fun x hx => ⟨_, pf_lt_n hx, hv x hx⟩, fun i j x y hij hj hx hy => ?_⟩
  · obtain ⟨x, hx, he⟩ := ho i hi
    exact ⟨x, hx, by rw [← he]; exact hv x hx⟩
  · obtain ⟨x', hx', he⟩ := ho i (by omega)
    obtain ⟨y', hy', he'⟩ := ho j hj
    have e1 := hv x' hx'
    have e2 := hv y' hy'
    rw [he, hx] at e1
    rw [he', hy] at e2
    obtain rfl : x = x' := by omega
    obtain rfl : y = y' := by omega
    exact (pf_iff ht hR hx' hy').1 (by omega)

end
end Go.Proofs.Qxb6606046a
