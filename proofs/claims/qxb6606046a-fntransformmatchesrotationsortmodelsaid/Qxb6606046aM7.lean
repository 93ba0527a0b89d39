import Derived.Test.Qxb6606046aM6
set_option linter.unusedVariables false
set_option linter.unusedSimpArgs false
namespace Go.Proofs.Qxb6606046a

/-- The suffixes of S stand in order. -/
def SA (n : Nat) (S : Nat → Nat) (sa : Nat → Int) : Prop :=
  (∀ i, i < n → ∃ x : Nat, x < n ∧ sa i = x) ∧ (∀ x, x < n → ∃ i, i < n ∧ sa i = (x : Int)) ∧ ∀ i j x y, i < j → j < n → sa i = (x : Nat) → sa j = (y : Nat) → SufLt n S x y

section
variable {n : Nat} {S : Nat → Nat} {B : Nat → Bool}

/-- The LMS positions stand in order at the front. -/
def SL (n : Nat) (B : Nat → Bool) (R : Nat → Nat → Prop) (Q : Nat → Nat) : Prop :=
  (∀ u, u < ix n B n → LMS n B (Q u)) ∧ (∀ p, LMS n B p → ∃ u, u < ix n B n ∧ Q u = p) ∧ ∀ u v, u < v → v < ix n B n → R (Q u) (Q v)

/-! ### The LMS positions moved to the front -/
structure Cmp (n : Nat) (B : Nat → Bool) (P : Nat → Nat) (i : Nat) (sa : Nat → Int) : Prop where
  put : ∀ u, u < i → LMS n B (P u) → sa (cn u (fun u => lmsB n B (P u))) = P u
  rest : ∀ u, i ≤ u → u < n → sa u = P u
theorem cmp_start {P : Nat → Nat} {sa : Nat → Int} (h : ∀ u, u < n → sa u = P u) : Cmp n B P 0 sa := ⟨fun u hu => by omega, fun u _ hu => h u hu⟩
theorem cmp_skip {P : Nat → Nat} {i : Nat} {sa : Nat → Int} (h : Cmp n B P i sa) (hno : ¬ LMS n B (P i)) : Cmp n B P (i + 1) sa := by
  refine ⟨fun u hu hl => ?_, fun u hu hl => h.rest u (by omega) hl⟩
  by_cases e : u = i
  · subst e; exact absurd hl hno
  · exact h.put u (by omega) hl
theorem cmp_put {P : Nat → Nat} {i : Nat} {sa : Nat → Int} (h : Cmp n B P i sa) (hi : LMS n B (P i)) : Cmp n B P (i + 1) (upd sa (cn i (fun u => lmsB n B (P u))) (P i)) := by
  refine ⟨fun u hu hl => ?_, fun u hu hl => ?_⟩
  · by_cases e : u = i
    · subst e; rw [upd_same]
    · have := cn_lt_of_lt (fun u => lmsB n B (P u)) (show u < i by omega) ((lmsB_iff _).2 hl)
      rw [upd_ne _ _ (by omega)]
      exact h.put u (by omega) hl
  · have := cn_le i (fun u => lmsB n B (P u))
    rw [upd_ne _ _ (by omega)]
    exact h.rest u (by omega) hl
theorem cmp_done {P : Nat → Nat} {sa : Nat → Int} {R : Nat → Nat → Prop} (h : Cmp n B P n sa) (hlt : ∀ u, u < n → P u < n) (hinj : ∀ u v, u < n → v < n → P u = P v → u = v) (hR : ∀ u v, u < v → v < n → R (P u) (P v)) :
    cn n (fun u => lmsB n B (P u)) = ix n B n ∧ ∃ Q, SL n B R Q ∧ ∀ u, u < ix n B n → sa u = Q u := by
  have hc := cn_perm hlt hinj (lmsB n B)
  refine ⟨hc, fun u => (sa u).toNat, ⟨fun u hu => ?_, fun p hp => ?_, fun u v huv hv => ?_⟩, fun u hu => ?_⟩
  · obtain ⟨x, hx, hl, he⟩ := cn_onto (fun u => lmsB n B (P u)) n u (by rw [hc]; exact hu)
    have := h.put x hx ((lmsB_iff _).1 hl)
    rw [he] at this
    show LMS n B (sa u).toNat
    rw [this]
    exact (lmsB_iff _).1 hl
  · obtain ⟨u, hu, he⟩ := inj_onto hlt hinj p hp.2.1
    refine ⟨cn u (fun u => lmsB n B (P u)), ?_, ?_⟩
    · rw [show ix n B n = cn n (lmsB n B) from rfl, ← hc]
      exact cn_lt_of_lt _ hu (by rw [he]; exact (lmsB_iff _).2 hp)
    · show (sa _).toNat = p
      rw [h.put u hu (he ▸ hp), he]; simp
  · obtain ⟨x, hx, hl, he⟩ := cn_onto (fun u => lmsB n B (P u)) n u (by rw [hc]; exact Nat.lt_trans huv hv)
    obtain ⟨y, hy, hl2, he2⟩ := cn_onto (fun u => lmsB n B (P u)) n v (by rw [hc]; exact hv)
    have a1 := h.put x hx ((lmsB_iff _).1 hl)
    have a2 := h.put y hy ((lmsB_iff _).1 hl2)
    rw [he] at a1
    rw [he2] at a2
    show R (sa u).toNat (sa v).toNat
    rw [a1, a2]
    refine hR x y ?_ hy
    rcases Nat.lt_or_ge x y with h3 | h3
    · exact h3
    · have := cn_le_of_le (fun u => lmsB n B (P u)) h3; omega
  · obtain ⟨x, hx, hl, he⟩ := cn_onto (fun u => lmsB n B (P u)) n u (by rw [hc]; exact hu)
    have := h.put x hx ((lmsB_iff _).1 hl)
    rw [he] at this
    show sa u = ((sa u).toNat : Int)
    rw [this]
    simp

theorem SL.inj {R : Nat → Nat → Prop} {Q : Nat → Nat} (h : SL n B R Q) (hirr : ∀ x, ¬ R x x) {u v : Nat} (hu : u < ix n B n) (hv : v < ix n B n) (he : Q u = Q v) : u = v := by
  rcases Nat.lt_trichotomy u v with h1 | h1 | h1
  · have := h.2.2 u v h1 hv; rw [he] at this; exact absurd this (hirr _)
  · exact h1
  · have := h.2.2 v u h1 hu; rw [he] at this; exact absurd this (hirr _)
theorem SL.od {R : Nat → Nat → Prop} {Q : Nat → Nat} (h : SL n B R Q) (hirr : ∀ x, ¬ R x x) : ∃ od : Nat → Nat, ∀ u, u < ix n B n → od (Q u) = u := by
  classical
  refine ⟨fun p => if hp : ∃ u, u < ix n B n ∧ Q u = p then hp.choose else 0, fun u hu => ?_⟩
  have hp : ∃ v, v < ix n B n ∧ Q v = Q u := ⟨u, hu, rfl⟩
  simp only [dif_pos hp]
  exact h.inj hirr hp.choose_spec.1 hu hp.choose_spec.2

/-! ### Names -/
def nw (n : Nat) (S : Nat → Nat) (B : Nat → Bool) (Q : Nat → Nat) (j : Nat) : Bool := decide (j = 0) || decide (KS n S B zr (Q (j - 1)) ≠ KS n S B zr (Q j))
def nm (n : Nat) (S : Nat → Nat) (B : Nat → Bool) (Q : Nat → Nat) (i : Nat) : Nat := cn i (nw n S B Q)
theorem nm_succ (Q : Nat → Nat) (i : Nat) : nm n S B Q (i + 1) = nm n S B Q i + if nw n S B Q i = true then 1 else 0 := cn_succ _ _
theorem nm_pos (Q : Nat → Nat) (i : Nat) : 0 < nm n S B Q (i + 1) := by
  have h1 : nm n S B Q 1 = 1 := by rw [nm_succ]; simp [nm, cn_zero, nw]
  have := cn_le_of_le (nw n S B Q) (show 1 ≤ i + 1 by omega)
  unfold nm at h1 ⊢
  omega

variable {r0 : Nat → Nat}
def RK (n : Nat) (S : Nat → Nat) (B : Nat → Bool) (r0 : Nat → Nat) : Nat → Nat → Prop := fun x y => ll (KS n S B r0 x) (KS n S B r0 y) = true
theorem RK_irr (x : Nat) : ¬ RK n S B r0 x x := by unfold RK; rw [ll_irrefl]; simp

theorem W_le (ht : TypeOk n S B) (hR : R0Ok n S B r0) {Q : Nat → Nat} (h : SL n B (RK n S B r0) Q) {u v : Nat} (huv : u ≤ v) (hv : v < ix n B n) : ll (KS n S B zr (Q u)) (KS n S B zr (Q v)) = true ∨ KS n S B zr (Q u) = KS n S B zr (Q v) := by
  by_cases e : u = v
  · subst e; exact .inr rfl
  · exact KS_weak ht hR.2 _ (Q u) (Q v) (Nat.le_refl _) (h.1 u (by omega)).2.1 (h.1 v hv).2.1 (h.2.2 u v (by omega) hv)
theorem nm_eq (ht : TypeOk n S B) (hR : R0Ok n S B r0) {Q : Nat → Nat} (h : SL n B (RK n S B r0) Q) {u : Nat} : ∀ v, u ≤ v → v < ix n B n → (nm n S B Q (u + 1) = nm n S B Q (v + 1) ↔ KS n S B zr (Q u) = KS n S B zr (Q v)) := by
  intro v
  induction v with
  | zero => intro h1 h2; obtain rfl : u = 0 := by omega
            simp
  | succ v ih =>
    intro h1 h2
    by_cases e : u = v + 1
    · subst e; simp
    · have h3 := ih (by omega) (by omega)
      have h4 := nm_succ (n := n) (S := S) (B := B) Q (v + 1)
      have h5 := cn_le_of_le (nw n S B Q) (show u + 1 ≤ v + 1 by omega)
      have h5' : nm n S B Q (u + 1) ≤ nm n S B Q (v + 1) := h5
      have h6 := W_le ht hR h (show u ≤ v by omega) (by omega)
      have h7 := W_le ht hR h (show v ≤ v + 1 by omega) h2
      constructor
      · intro h8
        have h9 : nw n S B Q (v + 1) = false := by
          cases hw : nw n S B Q (v + 1) with
          | false => rfl
          | true => rw [hw] at h4; simp at h4; omega
        rw [h9] at h4
        simp at h4
        have h10 := h3.1 (by omega)
        unfold nw at h9
        simp at h9
        rw [h10, h9]
      · intro h8
        have h9 : KS n S B zr (Q v) = KS n S B zr (Q (v + 1)) := by
          rcases h7 with h7 | h7
          · exfalso
            rw [← h8] at h7
            rcases h6 with h6 | h6
            · rw [ll_asymm h6] at h7; cases h7
            · rw [h6, ll_irrefl] at h7; cases h7
          · exact h7
        have h10 : nw n S B Q (v + 1) = false := by unfold nw; simp [h9]
        rw [h10] at h4
        simp at h4
        rw [h4]
        exact h3.2 (h8.trans h9.symm)
theorem nm_name (ht : TypeOk n S B) (hR : R0Ok n S B r0) {Q N : Nat → Nat} (h : SL n B (RK n S B r0) Q) (hN : ∀ u, u < ix n B n → N (Q u) + 1 = nm n S B Q (u + 1)) : NameOk n S B N := by
  intro p q hp hq hne
  obtain ⟨u, hu, rfl⟩ := h.2.1 p hp
  obtain ⟨v, hv, rfl⟩ := h.2.1 q hq
  have h1 := hN u hu
  have h2 := hN v hv
  have hm : ∀ {a b : Nat}, a ≤ b → nm n S B Q (a + 1) ≤ nm n S B Q (b + 1) := fun hab => cn_le_of_le (nw n S B Q) (by omega)
  refine ⟨fun h3 => ?_, fun h3 => ?_⟩
  · have huv : u < v := by
      rcases Nat.lt_or_ge u v with h4 | h4
      · exact h4
      · have := hm h4; omega
    rcases W_le ht hR h (Nat.le_of_lt huv) hv with h5 | h5
    · exact h5
    · have := (nm_eq ht hR h v (Nat.le_of_lt huv) hv).2 h5; omega
  · rcases Nat.le_total u v with h4 | h4
    · exact (nm_eq ht hR h v h4 hv).1 (by omega)
    · exact ((nm_eq ht hR h u h4 hu).1 (by omega)).symm
theorem same_W (ht : TypeOk n S B) {x y : Nat} (hx : x < n) (hy : y < n) (hne : x ≠ y) : (∃ d, 0 < d ∧ Same n S B x y d) ↔ KS n S B zr x = KS n S B zr y :=
  ⟨fun ⟨d, h1, h2⟩ => same_KS ht d x y h1 h2, fun h => KS_same ht _ x y (Nat.le_refl _) hx hy hne h⟩
theorem nw_succ (ht : TypeOk n S B) {R : Nat → Nat → Prop} {Q : Nat → Nat} (h : SL n B R Q) (hirr : ∀ x, ¬ R x x) {i : Nat} (hi : i + 1 < ix n B n) : nw n S B Q (i + 1) = true ↔ ¬ ∃ d, 0 < d ∧ Same n S B (Q i) (Q (i + 1)) d := by
  rw [same_W ht (h.1 i (by omega)).2.1 (h.1 (i + 1) hi).2.1 (fun e => by have := h.inj hirr (by omega) hi e; omega)]
  unfold nw
  simp

/-- The ranks laid down by half positions, those of the first i. -/
structure Rnk (n : Nat) (S : Nat → Nat) (B : Nat → Bool) (Q : Nat → Nat) (i : Nat) (sa : Nat → Int) : Prop where
  frt : ∀ u, u < ix n B n → sa u = Q u
  put : ∀ u, u < i → sa (ix n B n + Q u / 2) = (nm n S B Q (u + 1) : Int) - 1
  rest : ∀ v, ix n B n + v < n → (∀ u, u < i → Q u / 2 ≠ v) → sa (ix n B n + v) = -1
theorem rnk_put {R : Nat → Nat → Prop} {Q : Nat → Nat} (hS : SL n B R Q) (hirr : ∀ x, ¬ R x x) {i : Nat} {sa : Nat → Int} (h : Rnk n S B Q i sa) (hi : i < ix n B n) : Rnk n S B Q (i + 1) (upd sa (ix n B n + Q i / 2) ((nm n S B Q (i + 1) : Int) - 1)) := by
  refine ⟨fun u hu => by rw [upd_ne _ _ (by omega)]; exact h.frt u hu, fun u hu => ?_, fun v hv hno => ?_⟩
  · by_cases e : u = i
    · subst e; rw [upd_same]
    · rw [upd_ne _ _ (fun e2 => e (hS.inj hirr (by omega) hi (half_inj (hS.1 u (by omega)) (hS.1 i hi) (by omega))))]
      exact h.put u (by omega)
  · have := hno i (by omega)
    rw [upd_ne _ _ (by omega)]
    exact h.rest v hv (fun u hu => hno u (by omega))

/-- The ranks moved to the end, those of the half positions from t on. -/
structure Mov (n : Nat) (B : Nat → Bool) (R : Nat → Int) (t : Nat) (sa : Nat → Int) : Prop where
  rest : ∀ u, u < t → sa (ix n B n + u) = R u
  put : ∀ u, t ≤ u → ix n B n + u < n → hb2 n B u = true → sa (n - ix n B n + cn u (hb2 n B)) = R u
theorem cn_sub_le (p : Nat → Bool) {a b : Nat} (h : a ≤ b) : cn b p ≤ cn a p + (b - a) := by
  induction b with
  | zero => obtain rfl : a = 0 := by omega
            omega
  | succ b ih =>
    by_cases e : a = b + 1
    · subst e; omega
    · have := ih (by omega)
      rw [cn_succ]
      split <;> omega
theorem mov_skip {R : Nat → Int} {t : Nat} {sa : Nat → Int} (h : Mov n B R (t + 1) sa) (hno : hb2 n B t = false) : Mov n B R t sa := by
  refine ⟨fun u hu => h.rest u (by omega), fun u hu hn hb => ?_⟩
  by_cases e : u = t
  · subst e; rw [hno] at hb; cases hb
  · exact h.put u (by omega) hn hb
theorem mov_put (ht : TypeOk n S B) (hn : 0 < n) {R : Nat → Int} {t : Nat} {sa : Nat → Int} (h : Mov n B R (t + 1) sa) (hb : hb2 n B t = true) (htn : ix n B n + t < n) :
    cn (t + 1) (hb2 n B) = cn t (hb2 n B) + 1 ∧ cn t (hb2 n B) < ix n B n ∧ Mov n B R t (upd sa (n - ix n B n + cn t (hb2 n B)) (R t)) := by
  have h1 := cn_hb2_all ht hn
  have h2 := cn_sub_le (hb2 n B) (show t ≤ n - ix n B n by omega)
  have h3 := ix_le ht hn
  have h4 : cn t (hb2 n B) < ix n B n := by
    have := cn_lt_of_lt (hb2 n B) (show t < n - ix n B n by omega) hb
    omega
  refine ⟨by rw [cn_succ, hb]; rfl, h4, fun u hu => ?_, fun u hu hun hbu => ?_⟩
  · rw [upd_ne _ _ (by omega)]
    exact h.rest u (by omega)
  · by_cases e : u = t
    · subst e; rw [upd_same]
    · have := cn_lt_of_lt (hb2 n B) (show t < u by omega) hb
      rw [upd_ne _ _ (by omega)]
      exact h.put u (by omega) hun hbu

/-- The ranks by position, as they stand at the end: the shorter string. -/
theorem rnk_done {R : Nat → Nat → Prop} {Q : Nat → Nat} (hS : SL n B R Q) {sa : Nat → Int} (h : Rnk n S B Q (ix n B n) sa) {v : Nat} (hv : ix n B n + v < n) : (hb2 n B v = true → 0 ≤ sa (ix n B n + v)) ∧ (hb2 n B v = false → sa (ix n B n + v) = -1) := by
  constructor
  · intro hb
    obtain ⟨p, hp, rfl⟩ := (hb2_iff v).1 hb
    obtain ⟨u, hu, rfl⟩ := hS.2.1 p hp
    rw [h.put u hu]
    have := nm_pos (n := n) (S := S) (B := B) Q u
    omega
  · intro hb
    refine h.rest v hv (fun u hu e => ?_)
    have := (hb2_iff (n := n) (B := B) v).2 ⟨Q u, hS.1 u hu, e⟩
    rw [hb] at this; cases this
theorem mov_done (ht : TypeOk n S B) {R : Nat → Nat → Prop} {Q : Nat → Nat} (hS : SL n B R Q) {sa sa' : Nat → Int} (h : Rnk n S B Q (ix n B n) sa) (hm : Mov n B (fun u => sa (ix n B n + u)) 0 sa') {u : Nat} (hu : u < ix n B n) : sa' (n - ix n B n + ix n B (Q u)) = (nm n S B Q (u + 1) : Int) - 1 := by
  have hp := hS.1 u hu
  have h1 := hm.put (Q u / 2) (Nat.zero_le _) (half_lt ht hp) ((hb2_iff _).2 ⟨_, hp, rfl⟩)
  rw [cn_hb2 hp] at h1
  rw [h1, h.put u hu]

/-- The shorter string T: its symbols are the names. -/
structure Short (n : Nat) (S : Nat → Nat) (B : Nat → Bool) (Q T : Nat → Nat) : Prop where
  eq : ∀ u, u < ix n B n → T (ix n B (Q u)) + 1 = nm n S B Q (u + 1)
theorem Short.lt {R : Nat → Nat → Prop} {Q T : Nat → Nat} (hS : SL n B R Q) (h : Short n S B Q T) {v : Nat} (hv : v < ix n B n) : T v < nm n S B Q (ix n B n) := by
  obtain ⟨p, hp, hl, rfl⟩ := cn_onto (lmsB n B) n v hv
  obtain ⟨u, hu, rfl⟩ := hS.2.1 p ((lmsB_iff p).1 hl)
  have h1 := h.eq u hu
  have h2 : nm n S B Q (u + 1) ≤ nm n S B Q (ix n B n) := cn_le_of_le (nw n S B Q) (show u + 1 ≤ ix n B n by omega)
  have h3 : T (ix n B (Q u)) < nm n S B Q (ix n B n) := by omega
  exact h3
theorem short_of (ht : TypeOk n S B) {R : Nat → Nat → Prop} {Q : Nat → Nat} (hS : SL n B R Q) {sa sa' : Nat → Int} (h : Rnk n S B Q (ix n B n) sa) (hm : Mov n B (fun u => sa (ix n B n + u)) 0 sa') : ∃ T, Short n S B Q T ∧ ∀ v, v < ix n B n → sa' (n - ix n B n + v) = T v := by
  refine ⟨fun v => (sa' (n - ix n B n + v)).toNat, ⟨fun u hu => ?_⟩, fun v hv => ?_⟩
  · have h1 := mov_done ht hS h hm hu
    have h2 := nm_pos (n := n) (S := S) (B := B) Q u
    show (sa' _).toNat + 1 = _
    omega
  · obtain ⟨p, hp, hl, rfl⟩ := cn_onto (lmsB n B) n v hv
    obtain ⟨u, hu, rfl⟩ := hS.2.1 p ((lmsB_iff p).1 hl)
    have h1 := mov_done ht hS h hm hu
    have h2 := nm_pos (n := n) (S := S) (B := B) Q u
    have h3 : ix n B (Q u) = cn (Q u) (lmsB n B) := rfl
    rw [h3] at h1
    show sa' _ = (((sa' _).toNat : Nat) : Int)
    omega
/-- Where no two names are the same. -/
theorem short_perm {R : Nat → Nat → Prop} {Q T : Nat → Nat} (hS : SL n B R Q) (h : Short n S B Q T) (hall : nm n S B Q (ix n B n) = ix n B n) : ∀ u, u < ix n B n → T (ix n B (Q u)) = u := by
  intro u hu
  have h1 := h.eq u hu
  have h2 : ∀ i, i ≤ ix n B n → nm n S B Q i = i := by
    intro i hi
    have h3 := cn_sub_le (nw n S B Q) hi
    have h4 : nm n S B Q (ix n B n) ≤ nm n S B Q i + (ix n B n - i) := h3
    have h5 : nm n S B Q i ≤ i := cn_le _ _
    omega
  rw [h2 (u + 1) (by omega)] at h1
  omega
theorem short_sa {R : Nat → Nat → Prop} {Q T : Nat → Nat} (hS : SL n B R Q) (h : Short n S B Q T) (hall : nm n S B Q (ix n B n) = ix n B n) {sa : Nat → Int} (hsa : ∀ u, u < ix n B n → sa (T u) = u) : SA (ix n B n) T sa := by
  have hp := short_perm hS h hall
  have hv : ∀ u, u < ix n B n → sa u = (ix n B (Q u) : Int) := by
    intro u hu
    have := hsa (ix n B (Q u)) (ix_lt (hS.1 u hu))
    rw [hp u hu] at this
    exact this
  refine ⟨fun i hi => ⟨_, ix_lt (hS.1 i hi), hv i hi⟩, fun x hx => ?_, fun i j x y hij hj hx hy => ?_⟩
  · obtain ⟨p, hp', hl, rfl⟩ := cn_onto (lmsB n B) n x hx
    obtain ⟨u, hu, rfl⟩ := hS.2.1 p ((lmsB_iff p).1 hl)
    exact ⟨u, hu, hv u hu⟩
  · rw [hv i (by omega)] at hx
    rw [hv j hj] at hy
    obtain rfl : ix n B (Q i) = x := by omega
    obtain rfl : ix n B (Q j) = y := by omega
    refine suf_lt (ix_lt (hS.1 i (by omega))) (ix_lt (hS.1 j hj)) ?_
    rw [hp i (by omega), hp j hj]
    exact hij
/-- From the order of the shorter string's suffixes to that of the LMS suffixes. -/
theorem order_sl (ht : TypeOk n S B) {Q T : Nat → Nat} (hR : R0Ok n S B r0) (hS : SL n B (RK n S B r0) Q) (h : Short n S B Q T) {o : Nat → Int} (ho : SA (ix n B n) T o) {q : Nat → Nat} (hq : ∀ u, u < ix n B n → LMS n B (q u) ∧ (ix n B (q u) : Int) = o u) : SL n B (SufLt n S) q := by
  obtain ⟨od, hod⟩ := hS.od RK_irr
  have hN : NameOk n S B (fun p => T (ix n B p)) := nm_name ht hR hS (fun u hu => h.eq u hu)
  refine ⟨fun u hu => (hq u hu).1, fun p hp => ?_, fun u v huv hv => ?_⟩
  · obtain ⟨i, hi, he⟩ := ho.2.1 (ix n B p) (ix_lt hp)
    refine ⟨i, hi, ix_inj (hq i hi).1 hp ?_⟩
    have := (hq i hi).2
    omega
  · have h1 := hq u (by omega)
    have h2 := hq v hv
    exact red_suf ht hN (fun p _ => rfl) _ (q u) (q v) (Nat.le_refl _) h1.1 h2.1 (ho.2.2 u v _ _ huv hv h1.2.symm h2.2.symm)
/-- The slot of a sorted LMS suffix is no lower than its place among them. -/
theorem rr_ge {q od : Nat → Nat} (hS : SL n B (SufLt n S) q) (hod : ∀ u, u < ix n B n → od (q u) = u) {u : Nat} (hu : u < ix n B n) : u ≤ rr n S B od (q u) := by
  have hp := hS.1 u hu
  have h1 := rr_eq (S := S) (od := od) hp
  rw [hod u hu] at h1
  -- those of the first u + 1 and those of the bucket after them all lie below the bucket's end
  have h2 : cn n (fun x => lmsB n B x && decide (od x ≤ u)) = u + 1 := by
    have h3 := nodup_cn (n := n) ((List.range (u + 1)).map q) (by
      rw [List.Nodup, List.pairwise_map]
      refine List.Pairwise.imp_of_mem (R := (· ≠ ·)) ?_ List.nodup_range
      intro a b ha hb hab h
      simp at ha hb
      exact hab (hS.inj suf_irrefl (by omega) (by omega) h)) (by
      intro x hx
      simp at hx
      obtain ⟨a, ha, rfl⟩ := hx
      exact (hS.1 a (by omega)).2.1)
    simp only [List.length_map, List.length_range] at h3
    rw [h3]
    apply cn_congr
    intro x hx
    rw [Bool.eq_iff_iff]
    simp
    constructor
    · rintro ⟨h4, h5⟩
      obtain ⟨a, ha, rfl⟩ := hS.2.1 x ((lmsB_iff x).1 h4)
      rw [hod a ha] at h5
      exact ⟨a, by omega, rfl⟩
    · rintro ⟨a, ha, rfl⟩
      refine ⟨(lmsB_iff _).2 (hS.1 a (by omega)), ?_⟩
      rw [hod a (by omega)]
      omega
  have h3 : cn n (fun x => lmsB n B x && decide (od x ≤ u)) + cn n (fun x => lmsB n B x && decide (S x = S (q u)) && decide (u < od x)) ≤ tl n S (S (q u)) := by
    rw [← cn_or (by intro t _; simp; intros; omega)]
    refine cn_mono (fun x hx h4 => ?_)
    simp at h4 ⊢
    rcases h4 with ⟨h4, h5⟩ | ⟨⟨h4, h5⟩, h6⟩
    · obtain ⟨a, ha, rfl⟩ := hS.2.1 x ((lmsB_iff x).1 h4)
      rw [hod a ha] at h5
      by_cases e : a = u
      · subst e; omega
      · have h7 := hS.2.2 a u (by omega) hu
        rcases Nat.lt_or_ge (S (q u)) (S (q a)) with h8 | h8
        · exact absurd h7 (suf_not_gt (hS.1 a ha).2.1 hp.2.1 h8)
        · exact h8
    · omega
  omega
theorem od_inj {q od : Nat → Nat} {R : Nat → Nat → Prop} (hS : SL n B R q) (hod : ∀ u, u < ix n B n → od (q u) = u) : ∀ p r, LMS n B p → LMS n B r → od p = od r → p = r := by
  intro p r hp hr h
  obtain ⟨a, ha, rfl⟩ := hS.2.1 p hp
  obtain ⟨b, hb, rfl⟩ := hS.2.1 r hr
  rw [hod a ha, hod b hb] at h
  rw [h]
theorem sorted_sa (ht : TypeOk n S B) {q od : Nat → Nat} (hS : SL n B (SufLt n S) q) (hod : ∀ u, u < ix n B n → od (q u) = u) {sa : Nat → Int} (h : Sorted n (KS n S B (rr n S B od)) sa) : SA n S sa := by
  refine ⟨h.1, h.2.1, fun i j x y hij hj hx hy => ?_⟩
  have hk := h.2.2 i j x y hij hj hx hy
  obtain ⟨x', hx', e1⟩ := h.1 i (by omega)
  obtain ⟨y', hy', e2⟩ := h.1 j hj
  rw [hx] at e1
  rw [hy] at e2
  obtain rfl : x = x' := by omega
  obtain rfl : y = y' := by omega
  refine KS_suf ht (fun p r hp hr he hlt => ?_) _ x y (Nat.le_refl _) hx' hy' hk
  have h1 := rr_lt (od_inj hS hod) hp hr he hlt
  obtain ⟨a, ha, rfl⟩ := hS.2.1 p hp
  obtain ⟨b, hb, rfl⟩ := hS.2.1 r hr
  rw [hod a ha, hod b hb] at h1
  exact hS.2.2 a b h1 hb
end
end Go.Proofs.Qxb6606046a
