import Derived.Test.Qxb6606046aV2
import Derived.Test.Qxb6606046aM7
set_option linter.unusedVariables false
set_option linter.unusedSimpArgs false
namespace Go.Proofs.Qxb6606046a
open Go.RowKit

set_option maxHeartbeats 1000000 in
theorem is_lms (n i : Nat) (hn : n ≤ 65536) (hi : i < n) (B : Nat → Bool) (mb mo mcap : Nat) (w : World) (hm : RdB w mb mo B n) :
    Calls Try.prog 21 #[.slice (some ⟨mb, mo, none⟩) n mcap, .int .i64 i] w fun e w' => e = .returned (.bool (lmsB n B i)) ∧ w' = w := by
  by_cases h0 : i = 0
  · subst h0
    go_enter Try.func21, Try.ntmps21
    go_wp2_with fail
    go_ret
    exact ⟨by rw [lms_zero]; rfl, rfl⟩
  · obtain ⟨j, rfl⟩ : ∃ j, i = j + 1 := ⟨i - 1, by omega⟩
    have c1 := hm (j + 1) hi
    have c0 := hm j (by omega)
    have hi0 : ¬ (((j + 1 : Nat)) : Int) ≤ 0 := by omega
    have he : lmsB n B (j + 1) = (B (j + 1) && !B j) := by simp [lmsB, hi]
    rw [he]
    cases hb1 : B (j + 1) <;> cases hb0 : B j <;> rw [hb1] at c1 <;> rw [hb0] at c0 <;> clear he hb1 hb0
    all_goals
      go_enter Try.func21, Try.ntmps21
      go_wp2_with fail
      go_ret
      exact ⟨rfl, rfl⟩

def XN : Nat → Nat → Prop := fun _ _ => False
def SamePost (n : Nat) (S : Nat → Nat) (B : Nat → Bool) (a b : Nat) (w w' : World) (e : Ending) : Prop := ∃ sm : Bool, e = .returned (.bool sm) ∧ (sm = true ↔ ∃ d, 0 < d ∧ Same n S B a b d) ∧ Fr w w' XN
/-- As far as the two were found the same. -/
structure Smd (n : Nat) (S : Nat → Nat) (B : Nat → Bool) (a b d : Nat) : Prop where
  eq : ∀ e, e < d → a + e < n ∧ b + e < n ∧ S (a + e) = S (b + e) ∧ B (a + e) = B (b + e)
  no : ∀ e, 0 < e → e < d → ¬ LMS n B (a + e) ∧ ¬ LMS n B (b + e)
theorem smd_ge {n : Nat} {S : Nat → Nat} {B : Nat → Bool} {a b d d' : Nat} (h : Smd n S B a b d) (h0 : 0 < d') (hs : Same n S B a b d') : d ≤ d' := by
  rcases Nat.lt_or_ge d' d with h1 | h1
  · exact absurd hs.2.1 (h.no d' h0 h1).1
  · exact h1
theorem smd_not {n : Nat} {S : Nat → Nat} {B : Nat → Bool} {a b d : Nat} (h : Smd n S B a b d) (hno : ¬ (a + d < n ∧ b + d < n ∧ S (a + d) = S (b + d) ∧ B (a + d) = B (b + d))) : ¬ ∃ d', 0 < d' ∧ Same n S B a b d' := by
  rintro ⟨d', h0, hs⟩
  exact hno (hs.1 d (smd_ge h h0 hs))
theorem smd_end {n : Nat} {S : Nat → Nat} {B : Nat → Bool} {a b d : Nat} (h : Smd n S B a b d) (h0 : 0 < d) (hq : a + d < n ∧ b + d < n ∧ S (a + d) = S (b + d) ∧ B (a + d) = B (b + d)) (hl : LMS n B (a + d) ∨ LMS n B (b + d)) : (∃ d', 0 < d' ∧ Same n S B a b d') ↔ LMS n B (a + d) ∧ LMS n B (b + d) := by
  constructor
  · rintro ⟨d', h1, hs⟩
    have h2 := smd_ge h h1 hs
    by_cases e : d = d'
    · subst e; exact ⟨hs.2.1, hs.2.2.1⟩
    · have := hs.2.2.2 d h0 (by omega)
      rcases hl with h3 | h3
      · exact absurd h3 this.1
      · exact absurd h3 this.2
  · rintro ⟨h1, h2⟩
    refine ⟨d, h0, fun e he => ?_, h1, h2, h.no⟩
    by_cases e' : e = d
    · subst e'; exact hq
    · exact h.eq e (by omega)
theorem smd_next {n : Nat} {S : Nat → Nat} {B : Nat → Bool} {a b d : Nat} (h : Smd n S B a b d) (hq : a + d < n ∧ b + d < n ∧ S (a + d) = S (b + d) ∧ B (a + d) = B (b + d)) (hl : d = 0 ∨ (¬ LMS n B (a + d) ∧ ¬ LMS n B (b + d))) : Smd n S B a b (d + 1) := by
  refine ⟨fun e he => ?_, fun e h0 he => ?_⟩
  · by_cases e' : e = d
    · subst e'; exact hq
    · exact h.eq e (by omega)
  · by_cases e' : e = d
    · subst e'
      rcases hl with hl | hl
      · omega
      · exact hl
    · exact h.no e h0 (by omega)


set_option maxHeartbeats 4000000 in
set_option maxRecDepth 20000 in
theorem same_b (n a b : Nat) (hn : n ≤ 65536) (ha : a < n) (hb : b < n) (S : Nat → Nat) (B : Nat → Bool) (sb so scap mb mo mcap : Nat) (w : World) (hs : RdI w sb so .u8 (fun i => (S i : Int)) n) (hm : RdB w mb mo B n) :
    Calls Try.prog 22 #[.slice (some ⟨sb, so, none⟩) n scap, .slice (some ⟨mb, mo, none⟩) n mcap, .int .i64 a, .int .i64 b] w fun e w' => SamePost n S B a b w w' e := by
  go_enter Try.func22, Try.ntmps22
  go_wp2_with fail
  go_loopw [9] (fun dv wr => ∃ (d : Nat), a + d ≤ n ∧ b + d ≤ n ∧ dv = .int .i64 d ∧ Hid (Smd n S B a b d) ∧ Fr w wr XN) (fun d _ => n - (intOf d).toNat)
  case atStart => exact ⟨0, by omega, by omega, rfl, ⟨fun e he => by omega, fun e _ he => by omega⟩, Fr.refl _ _⟩
  case round =>
    obtain ⟨d, had, hbd, rfl, HS, hX⟩ := hrel
    have hs1 := hs.fr hX (fun _ _ h => h)
    have hm1 := hm.fr hX (fun _ _ h => h)
    obtain ⟨x, hx⟩ : ∃ x, a + d = x := ⟨_, rfl⟩
    obtain ⟨y, hy⟩ : ∃ y, b + d = y := ⟨_, rfl⟩
    have wa : IntKind.i64.wrap ((a : Int) + (d : Int)) = (x : Int) := by rw [IntKind.wrap_i64]; omega
    have wb : IntKind.i64.wrap ((b : Int) + (d : Int)) = (y : Int) := by rw [IntKind.wrap_i64]; omega
    by_cases h1 : x = n
    · have i1 : (x : Int) = (n : Int) := by omega
      have HP : Hid (¬ ∃ d', 0 < d' ∧ Same n S B a b d') := smd_not HS.out (by omega)
      go_wp2_with fail
      go_quiet (fail)
      go_wp2_with fail
      go_ret
      exact ⟨false, rfl, by simpa using HP.out, hX.drewN _⟩
    have n1 : ((x : Int) == (n : Int)) = false := by simp; omega
    have l1 : (x : Int) < (n : Int) := by omega
    by_cases h2 : y = n
    · have i1 : (y : Int) = (n : Int) := by omega
      have HP : Hid (¬ ∃ d', 0 < d' ∧ Same n S B a b d') := smd_not HS.out (by omega)
      go_wp2_with fail
      go_quiet (fail)
      go_wp2_with fail
      go_ret
      exact ⟨false, rfl, by simpa using HP.out, hX.drewN _⟩
    have n2 : ((y : Int) == (n : Int)) = false := by simp; omega
    have l2 : (y : Int) < (n : Int) := by omega
    have c1 := hs1 x (by omega)
    have c2 := hs1 y (by omega)
    have m1 := hm1 x (by omega)
    have m2 := hm1 y (by omega)
    simp only [] at c1 c2
    by_cases h3 : S x = S y
    case neg =>
      have HP : Hid (¬ ∃ d', 0 < d' ∧ Same n S B a b d') := smd_not HS.out (fun h => h3 (by rw [← hx, ← hy]; exact h.2.2.1))
      have i1 : ((S x : Nat) : Int) ≠ ((S y : Nat) : Int) := by omega
      have i2 : (((S x : Nat) : Int) != ((S y : Nat) : Int)) = true := by simp; omega
      clear h3
      generalize S x = x1 at *
      generalize S y = x2 at *
      go_wp2_with fail
      go_quiet (fail)
      go_wp2_with fail
      go_ret
      exact ⟨false, rfl, by simpa using HP.out, hX.drewN _⟩
    have i3 : (((S y : Nat) : Int) != ((S y : Nat) : Int)) = false := by simp
    rw [h3] at c1
    by_cases h4 : B x = B y
    case neg =>
      have HP : Hid (¬ ∃ d', 0 < d' ∧ Same n S B a b d') := smd_not HS.out (fun h => h4 (by rw [← hx, ← hy]; exact h.2.2.2))
      clear h3
      generalize S y = x2 at *
      have hbb : (B x = true ∧ B y = false) ∨ (B x = false ∧ B y = true) := by
        cases hb1 : B x <;> cases hb2 : B y <;> simp [hb1, hb2] at h4 ⊢
      rcases hbb with ⟨hb1, hb2⟩ | ⟨hb1, hb2⟩
      all_goals
        rw [hb1] at m1
        rw [hb2] at m2
        clear hb1 hb2 h4
        go_wp2_with fail
        go_quiet (fail)
        go_wp2_with fail
        go_ret
        exact ⟨false, rfl, by simpa using HP.out, hX.drewN _⟩
    have HQ : Hid (a + d < n ∧ b + d < n ∧ S (a + d) = S (b + d) ∧ B (a + d) = B (b + d)) := by
      show _ ∧ _
      rw [hx, hy]; exact ⟨by omega, by omega, h3, h4⟩
    rw [h4] at m1
    clear h3 h4
    generalize S y = x2 at *
    obtain ⟨by_, hby⟩ : ∃ z, B y = z := ⟨_, rfl⟩
    rw [hby] at m1 m2
    have i4 : (by_ != by_) = false := by simp
    clear hby
    have hlx := is_lms n x hn (by omega) B mb mo mcap
    have hly := is_lms n y hn (by omega) B mb mo mcap
    go_wp2_with fail
    go_quiet (fail)
    have hX2 := hX.drewN nq
    have hm2 := hm1.fr (Fr.drewN (Fr.refl _ XN) nq) (fun _ _ h => h)
    clear hX hs1 hm1 c1 c2 m1 m2 i3 i4 n1 n2
    generalize wr.drewN nq = w2 at *
    by_cases hd0 : d = 0
    · have HN := hide (smd_next HS.out HQ.out (.inl hd0))
      have hdI : ¬ (0 : Int) < (d : Int) := by omega
      clear hd0
      go_wp2_with fail
      go_roundw
      case rel => exact ⟨d + 1, by omega, by omega, by go_num, HN.out, hX2⟩
      case measure => simp [intOf]; omega
    have hdI : (0 : Int) < (d : Int) := by omega
    have hd1 : 0 < d := by omega
    clear hd0
    go_wp2_with fail
    refine (is_lms n x hn (by omega) B mb mo mcap _ hm2).mono ?_
    rintro e w3 ⟨rfl, hw3⟩
    subst hw3
    have lx := lmsB_iff (n := n) (B := B) x
    have ly := lmsB_iff (n := n) (B := B) y
    have HE := hide (smd_end HS.out hd1 HQ.out)
    have HN := hide (fun hq => smd_next HS.out HQ.out (.inr hq))
    rw [hx, hy] at HE HN
    rw [← lx, ← ly] at HE HN
    clear lx ly HS HQ
    cases hlx : lmsB n B x with
    | true =>
      rw [hlx] at HE
      clear HN
      go_wp2_with fail
      refine (is_lms n x hn (by omega) B mb mo mcap _ hm2).mono ?_
      rintro e w3 ⟨rfl, hw3⟩
      subst hw3
      rw [hlx]
      go_wp2_with fail
      refine (is_lms n y hn (by omega) B mb mo mcap _ hm2).mono ?_
      rintro e w3 ⟨rfl, hw3⟩
      subst hw3
      cases hly : lmsB n B y with
      | true =>
        rw [hly] at HE
        go_wp2_with fail
        go_ret
        exact ⟨true, rfl, by have := HE.out (by simp); simpa using this, hX2⟩
      | false =>
        rw [hly] at HE
        go_wp2_with fail
        go_ret
        exact ⟨false, rfl, by have := HE.out (by simp); simpa using this, hX2⟩
    | false =>
      rw [hlx] at HE HN
      go_wp2_with fail
      refine (is_lms n y hn (by omega) B mb mo mcap _ hm2).mono ?_
      rintro e w3 ⟨rfl, hw3⟩
      subst hw3
      cases hly : lmsB n B y with
      | true =>
        rw [hly] at HE HN
        go_wp2_with fail
        refine (is_lms n x hn (by omega) B mb mo mcap _ hm2).mono ?_
        rintro e w3 ⟨rfl, hw3⟩
        subst hw3
        rw [hlx]
        go_wp2_with fail
        go_ret
        exact ⟨false, rfl, by have := HE.out (by simp); simpa using this, hX2⟩
      | false =>
        rw [hly] at HE HN
        go_wp2_with fail
        go_roundw
        case rel => exact ⟨d + 1, by omega, by omega, by go_num, HN.out (by simp), hX2⟩
        case measure => simp [intOf]; omega

set_option maxHeartbeats 4000000 in
set_option maxRecDepth 20000 in
theorem same_i (n a b : Nat) (hn : n ≤ 65536) (ha : a < n) (hb : b < n) (S : Nat → Nat) (B : Nat → Bool) (sb so scap mb mo mcap : Nat) (w : World) (hs : RdI w sb so .i32 (fun i => (S i : Int)) n) (hm : RdB w mb mo B n) :
    Calls Try.prog 27 #[.slice (some ⟨sb, so, none⟩) n scap, .slice (some ⟨mb, mo, none⟩) n mcap, .int .i64 a, .int .i64 b] w fun e w' => SamePost n S B a b w w' e := by
  go_enter Try.func27, Try.ntmps27
  go_wp2_with fail
  go_loopw [9] (fun dv wr => ∃ (d : Nat), a + d ≤ n ∧ b + d ≤ n ∧ dv = .int .i64 d ∧ Hid (Smd n S B a b d) ∧ Fr w wr XN) (fun d _ => n - (intOf d).toNat)
  case atStart => exact ⟨0, by omega, by omega, rfl, ⟨fun e he => by omega, fun e _ he => by omega⟩, Fr.refl _ _⟩
  case round =>
    obtain ⟨d, had, hbd, rfl, HS, hX⟩ := hrel
    have hs1 := hs.fr hX (fun _ _ h => h)
    have hm1 := hm.fr hX (fun _ _ h => h)
    obtain ⟨x, hx⟩ : ∃ x, a + d = x := ⟨_, rfl⟩
    obtain ⟨y, hy⟩ : ∃ y, b + d = y := ⟨_, rfl⟩
    have wa : IntKind.i64.wrap ((a : Int) + (d : Int)) = (x : Int) := by rw [IntKind.wrap_i64]; omega
    have wb : IntKind.i64.wrap ((b : Int) + (d : Int)) = (y : Int) := by rw [IntKind.wrap_i64]; omega
    by_cases h1 : x = n
    · have i1 : (x : Int) = (n : Int) := by omega
      have HP : Hid (¬ ∃ d', 0 < d' ∧ Same n S B a b d') := smd_not HS.out (by omega)
      go_wp2_with fail
      go_quiet (fail)
      go_wp2_with fail
      go_ret
      exact ⟨false, rfl, by simpa using HP.out, hX.drewN _⟩
    have n1 : ((x : Int) == (n : Int)) = false := by simp; omega
    have l1 : (x : Int) < (n : Int) := by omega
    by_cases h2 : y = n
    · have i1 : (y : Int) = (n : Int) := by omega
      have HP : Hid (¬ ∃ d', 0 < d' ∧ Same n S B a b d') := smd_not HS.out (by omega)
      go_wp2_with fail
      go_quiet (fail)
      go_wp2_with fail
      go_ret
      exact ⟨false, rfl, by simpa using HP.out, hX.drewN _⟩
    have n2 : ((y : Int) == (n : Int)) = false := by simp; omega
    have l2 : (y : Int) < (n : Int) := by omega
    have c1 := hs1 x (by omega)
    have c2 := hs1 y (by omega)
    have m1 := hm1 x (by omega)
    have m2 := hm1 y (by omega)
    simp only [] at c1 c2
    by_cases h3 : S x = S y
    case neg =>
      have HP : Hid (¬ ∃ d', 0 < d' ∧ Same n S B a b d') := smd_not HS.out (fun h => h3 (by rw [← hx, ← hy]; exact h.2.2.1))
      have i1 : ((S x : Nat) : Int) ≠ ((S y : Nat) : Int) := by omega
      have i2 : (((S x : Nat) : Int) != ((S y : Nat) : Int)) = true := by simp; omega
      clear h3
      generalize S x = x1 at *
      generalize S y = x2 at *
      go_wp2_with fail
      go_quiet (fail)
      go_wp2_with fail
      go_ret
      exact ⟨false, rfl, by simpa using HP.out, hX.drewN _⟩
    have i3 : (((S y : Nat) : Int) != ((S y : Nat) : Int)) = false := by simp
    rw [h3] at c1
    by_cases h4 : B x = B y
    case neg =>
      have HP : Hid (¬ ∃ d', 0 < d' ∧ Same n S B a b d') := smd_not HS.out (fun h => h4 (by rw [← hx, ← hy]; exact h.2.2.2))
      clear h3
      generalize S y = x2 at *
      have hbb : (B x = true ∧ B y = false) ∨ (B x = false ∧ B y = true) := by
        cases hb1 : B x <;> cases hb2 : B y <;> simp [hb1, hb2] at h4 ⊢
      rcases hbb with ⟨hb1, hb2⟩ | ⟨hb1, hb2⟩
      all_goals
        rw [hb1] at m1
        rw [hb2] at m2
        clear hb1 hb2 h4
        go_wp2_with fail
        go_quiet (fail)
        go_wp2_with fail
        go_ret
        exact ⟨false, rfl, by simpa using HP.out, hX.drewN _⟩
    have HQ : Hid (a + d < n ∧ b + d < n ∧ S (a + d) = S (b + d) ∧ B (a + d) = B (b + d)) := by
      show _ ∧ _
      rw [hx, hy]; exact ⟨by omega, by omega, h3, h4⟩
    rw [h4] at m1
    clear h3 h4
    generalize S y = x2 at *
    obtain ⟨by_, hby⟩ : ∃ z, B y = z := ⟨_, rfl⟩
    rw [hby] at m1 m2
    have i4 : (by_ != by_) = false := by simp
    clear hby
    have hlx := is_lms n x hn (by omega) B mb mo mcap
    have hly := is_lms n y hn (by omega) B mb mo mcap
    go_wp2_with fail
    go_quiet (fail)
    have hX2 := hX.drewN nq
    have hm2 := hm1.fr (Fr.drewN (Fr.refl _ XN) nq) (fun _ _ h => h)
    clear hX hs1 hm1 c1 c2 m1 m2 i3 i4 n1 n2
    generalize wr.drewN nq = w2 at *
    by_cases hd0 : d = 0
    · have HN := hide (smd_next HS.out HQ.out (.inl hd0))
      have hdI : ¬ (0 : Int) < (d : Int) := by omega
      clear hd0
      go_wp2_with fail
      go_roundw
      case rel => exact ⟨d + 1, by omega, by omega, by go_num, HN.out, hX2⟩
      case measure => simp [intOf]; omega
    have hdI : (0 : Int) < (d : Int) := by omega
    have hd1 : 0 < d := by omega
    clear hd0
    go_wp2_with fail
    refine (is_lms n x hn (by omega) B mb mo mcap _ hm2).mono ?_
    rintro e w3 ⟨rfl, hw3⟩
    subst hw3
    have lx := lmsB_iff (n := n) (B := B) x
    have ly := lmsB_iff (n := n) (B := B) y
    have HE := hide (smd_end HS.out hd1 HQ.out)
    have HN := hide (fun hq => smd_next HS.out HQ.out (.inr hq))
    rw [hx, hy] at HE HN
    rw [← lx, ← ly] at HE HN
    clear lx ly HS HQ
    cases hlx : lmsB n B x with
    | true =>
      rw [hlx] at HE
      clear HN
      go_wp2_with fail
      refine (is_lms n x hn (by omega) B mb mo mcap _ hm2).mono ?_
      rintro e w3 ⟨rfl, hw3⟩
      subst hw3
      rw [hlx]
      go_wp2_with fail
      refine (is_lms n y hn (by omega) B mb mo mcap _ hm2).mono ?_
      rintro e w3 ⟨rfl, hw3⟩
      subst hw3
      cases hly : lmsB n B y with
      | true =>
        rw [hly] at HE
        go_wp2_with fail
        go_ret
        exact ⟨true, rfl, by have := HE.out (by simp); simpa using this, hX2⟩
      | false =>
        rw [hly] at HE
        go_wp2_with fail
        go_ret
        exact ⟨false, rfl, by have := HE.out (by simp); simpa using this, hX2⟩
    | false =>
      rw [hlx] at HE HN
      go_wp2_with fail
      refine (is_lms n y hn (by omega) B mb mo mcap _ hm2).mono ?_
      rintro e w3 ⟨rfl, hw3⟩
      subst hw3
      cases hly : lmsB n B y with
      | true =>
        rw [hly] at HE HN
        go_wp2_with fail
        refine (is_lms n x hn (by omega) B mb mo mcap _ hm2).mono ?_
        rintro e w3 ⟨rfl, hw3⟩
        subst hw3
        rw [hlx]
        go_wp2_with fail
        go_ret
        exact ⟨false, rfl, by have := HE.out (by simp); simpa using this, hX2⟩
      | false =>
        rw [hly] at HE HN
        go_wp2_with fail
        go_roundw
        case rel => exact ⟨d + 1, by omega, by omega, by go_num, HN.out (by simp), hX2⟩
        case measure => simp [intOf]; omega
end Go.Proofs.Qxb6606046a
