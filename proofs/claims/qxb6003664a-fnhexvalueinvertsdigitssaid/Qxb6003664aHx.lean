import Derived.Test.Qxb6003664aRows
import Derived.WalkKit
import Derived.ProofKit
import Derived.Below
import Derived.WalkSpells
set_option linter.unusedVariables false
set_option linter.unusedSimpArgs false
namespace Go.Proofs.Qxb6003664a
open Go.RowKit

theorem hide {p : Prop} (h : p) : Hid p := h

/-- The value of a hex digit. -/
def hx (c : Nat) : Int := if 48 ≤ c ∧ c ≤ 57 then (c : Int) - 48 else if 97 ≤ c ∧ c ≤ 102 then (c : Int) - 87 else if 65 ≤ c ∧ c ≤ 70 then (c : Int) - 55 else -1
def lw (k : Nat) : Nat := if k < 10 then 48 + k else 87 + k
def up (k : Nat) : Nat := if k < 10 then 48 + k else 55 + k
def wt (c : Nat) : Nat → Int
  | 0 => -1
  | k + 1 => if lw k = c ∨ up k = c then (k : Int) else wt c k
theorem hx_lw (k : Nat) (h : k < 16) : hx (lw k) = k := by
  unfold hx lw
  by_cases h1 : k < 10
  · rw [if_pos h1, if_pos (by omega)]; omega
  · rw [if_neg h1, if_neg (by omega), if_pos (by omega)]; omega
theorem hx_up (k : Nat) (h : k < 16) : hx (up k) = k := by
  unfold hx up
  by_cases h1 : k < 10
  · rw [if_pos h1, if_pos (by omega)]; omega
  · rw [if_neg h1, if_neg (by omega), if_neg (by omega), if_pos (by omega)]; omega
theorem wt_all : ∀ c, c < 256 → wt c 16 = hx c := by decide +kernel
theorem lw_lt (k : Nat) (h : k < 16) : lw k < 256 := by unfold lw; split <;> omega
theorem up_lt (k : Nat) (h : k < 16) : up k < 256 := by unfold up; split <;> omega
theorem hx_bd (c : Nat) (h : c < 256) : -1 ≤ hx c ∧ hx c ≤ 15 := by unfold hx; split <;> (try split) <;> (try split) <;> omega

set_option maxHeartbeats 400000 in
theorem hexv (c : Nat) (hc : c < 256) (w : World) : Calls Try.prog 15 #[.int .u8 c] w fun e w' => e = .returned (.int .i64 (hx c)) ∧ w' = w := by
  by_cases h1 : 48 ≤ c ∧ c ≤ 57
  · have e : hx c = (c : Int) - 48 := by unfold hx; rw [if_pos h1]
    obtain ⟨h1, h2⟩ := h1
    rw [e]
    clear e
    go_enter Try.func15, Try.ntmps15
    go_wp2
    go_ret
    exact ⟨rfl, rfl⟩
  · by_cases h2 : 97 ≤ c ∧ c ≤ 102
    · have e : hx c = (c : Int) - 97 + 10 := by unfold hx; rw [if_neg h1, if_pos h2]; omega
      obtain ⟨h2, h3⟩ := h2
      rw [e]
      clear e h1
      go_enter Try.func15, Try.ntmps15
      go_wp2
      go_ret
      exact ⟨rfl, rfl⟩
    · by_cases h3 : 65 ≤ c ∧ c ≤ 70
      · have e : hx c = (c : Int) - 65 + 10 := by unfold hx; rw [if_neg h1, if_neg h2, if_pos h3]; omega
        obtain ⟨h3, h4⟩ := h3
        rw [e]
        clear e h1 h2
        go_enter Try.func15, Try.ntmps15
        go_wp2
        go_ret
        exact ⟨rfl, rfl⟩
      · have e : hx c = -1 := by unfold hx; rw [if_neg h1, if_neg h2, if_neg h3]
        rw [e]
        clear e
        have hcs : c < 48 ∨ (57 < c ∧ c < 65) ∨ (70 < c ∧ c < 97) ∨ 102 < c := by omega
        clear h1 h2 h3
        rcases hcs with h | ⟨h, h'⟩ | ⟨h, h'⟩ | h
        all_goals
          go_enter Try.func15, Try.ntmps15
          go_wp2
          go_ret
          exact ⟨rfl, rfl⟩

theorem k16 {k : Nat} (h : k < 16) : k = 0 ∨ k = 1 ∨ k = 2 ∨ k = 3 ∨ k = 4 ∨ k = 5 ∨ k = 6 ∨ k = 7 ∨ k = 8 ∨ k = 9 ∨ k = 10 ∨ k = 11 ∨ k = 12 ∨ k = 13 ∨ k = 14 ∨ k = 15 := by omega

theorem idx_lw (k : Nat) (h : k < 16) (w : World) : (Instr.index 9 (.string { data := #[48, 49, 50, 51, 52, 53, 54, 55, 56, 57, 97, 98, 99, 100, 101, 102] }) (.int .i64 (k : Int))).run Try.prog w = .ok (.int .u8 (lw k : Nat)) w := by
  rcases k16 h with rfl | rfl | rfl | rfl | rfl | rfl | rfl | rfl | rfl | rfl | rfl | rfl | rfl | rfl | rfl | rfl <;> kernel_rfl
theorem idx_up (k : Nat) (h : k < 16) (w : World) : (Instr.index 9 (.string { data := #[48, 49, 50, 51, 52, 53, 54, 55, 56, 57, 65, 66, 67, 68, 69, 70] }) (.int .i64 (k : Int))).run Try.prog w = .ok (.int .u8 (up k : Nat)) w := by
  rcases k16 h with rfl | rfl | rfl | rfl | rfl | rfl | rfl | rfl | rfl | rfl | rfl | rfl | rfl | rfl | rfl | rfl <;> kernel_rfl

set_option maxHeartbeats 1000000 in
theorem hex_core (c : Nat) (hc : c < 256) (w : World) : Calls Try.prog 5 #[.int .u8 c] w fun e w' => e = .returned (.bool true) ∧ w' = w := by
  go_enter Try.func5, Try.ntmps5
  go_wp2_with fail
  go_loop [3, 4] (fun wv kv => ∃ k : Nat, k ≤ 16 ∧ kv = .int .i64 k ∧ wv = .int .i64 (wt c k)) (fun _ k => 16 - (intOf k).toNat)
  case atStart => exact ⟨0, by omega, rfl, rfl⟩
  case round =>
    obtain ⟨k, hk, rfl, rfl⟩ := hrel
    by_cases hlt : k < 16
    · have i1 := idx_lw k hlt
      have i2 := idx_up k hlt
      have HL := hide (hx_lw k hlt)
      have HU := hide (hx_up k hlt)
      have ll := lw_lt k hlt
      have lu := up_lt k hlt
      have HW : Hid (wt c (k + 1) = if lw k = c ∨ up k = c then (k : Int) else wt c k) := rfl
      generalize lw k = a at *
      generalize up k = b at *
      generalize wt c k = wv at *
      have hkk : ((k : Int) != (k : Int)) = false := by simp
      by_cases h1 : a = c
      · have h1' : ((a : Int) == (c : Int)) = true := beq_iff_eq.2 (by omega)
        have HW2 : Hid (wt c (k + 1) = k) := by show _ = _; rw [HW.out, if_pos (.inl h1)]
        clear h1 HW
        go_wp2_with fail
        refine (hexv a ll w).mono ?_
        rintro e w' ⟨rfl, rfl⟩
        rw [HL.out]
        go_wp2_with fail
        refine (hexv b lu w').mono ?_
        rintro e w'' ⟨rfl, rfl⟩
        rw [HU.out]
        go_wp2_with fail
        go_round
        case rel => exact ⟨k + 1, by omega, by go_num, by rw [HW2.out]⟩
        case measure => simp [intOf]; omega
      · have h1' : ((a : Int) == (c : Int)) = false := beq_eq_false_iff_ne.2 (by omega)
        by_cases h2 : b = c
        · have h2' : ((b : Int) == (c : Int)) = true := beq_iff_eq.2 (by omega)
          have HW2 : Hid (wt c (k + 1) = k) := by show _ = _; rw [HW.out, if_pos (.inr h2)]
          clear h1 h2 HW
          go_wp2_with fail
          refine (hexv a ll w).mono ?_
          rintro e w' ⟨rfl, rfl⟩
          rw [HL.out]
          go_wp2_with fail
          refine (hexv b lu w').mono ?_
          rintro e w'' ⟨rfl, rfl⟩
          rw [HU.out]
          go_wp2_with fail
          go_round
          case rel => exact ⟨k + 1, by omega, by go_num, by rw [HW2.out]⟩
          case measure => simp [intOf]; omega
        · have h2' : ((b : Int) == (c : Int)) = false := beq_eq_false_iff_ne.2 (by omega)
          have HW2 : Hid (wt c (k + 1) = wv) := by show _ = _; rw [HW.out, if_neg (fun h => h.elim h1 h2)]
          clear h1 h2 HW
          go_wp2_with fail
          refine (hexv a ll w).mono ?_
          rintro e w' ⟨rfl, rfl⟩
          rw [HL.out]
          go_wp2_with fail
          refine (hexv b lu w').mono ?_
          rintro e w'' ⟨rfl, rfl⟩
          rw [HU.out]
          go_wp2_with fail
          go_round
          case rel => exact ⟨k + 1, by omega, by go_num, by rw [HW2.out]⟩
          case measure => simp [intOf]; omega
    · obtain rfl : k = 16 := by omega
      rw [wt_all c hc]
      go_wp2_with fail
      refine (hexv c hc w).mono ?_
      rintro e w' ⟨rfl, rfl⟩
      generalize hx c = v
      go_wp2_with fail
      go_ret
      exact ⟨by simp, rfl⟩
end Go.Proofs.Qxb6003664a
