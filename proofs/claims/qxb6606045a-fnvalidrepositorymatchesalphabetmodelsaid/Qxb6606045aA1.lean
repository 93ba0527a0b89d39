import Derived.Test.Qxb6606045aRows
import Derived.WalkKit
import Derived.ProofKit
import Derived.Below
import Derived.WalkSpells
set_option linter.unusedVariables false
set_option linter.unusedSimpArgs false
namespace Go.Proofs.Qxb6606045a
open Go.RowKit

theorem hide {p : Prop} (h : p) : Hid p := h

/-- The byte at i of a string, as a number. -/
def byt (s : ByteArray) (i : Nat) : Nat := (s.data.toList.getD i 0).toNat
theorem byt_eq (s : ByteArray) (i : Nat) (h : i < s.size) : (s[i]'h).toNat = byt s i := by
  have h' : i < s.data.toList.length := by simpa using h
  unfold byt
  rw [List.getD_eq_getElem?_getD, List.getElem?_eq_getElem h']
  rfl
theorem byt_lt (s : ByteArray) (i : Nat) : byt s i < 256 := by unfold byt; exact UInt8.toNat_lt _

/-- What a repository's name may hold. -/
def okc (c : Nat) : Prop := (97 ≤ c ∧ c ≤ 122) ∨ (48 ≤ c ∧ c ≤ 57) ∨ c = 45
def RepoOk (s : ByteArray) : Prop := 3 ≤ s.size ∧ s.size ≤ 63 ∧ byt s 0 ≠ 45 ∧ byt s (s.size - 1) ≠ 45 ∧ ∀ i, i < s.size → okc (byt s i)

/-- It returns a bool, which is true just where p holds. -/
def RetB (p : Prop) (e : Ending) : Prop := ∃ b, e = .returned (.bool b) ∧ (b = true ↔ p)
theorem retB_yes {p : Prop} (h : p) : RetB p (.returned (.bool true)) := ⟨true, rfl, ⟨fun _ => h, fun _ => rfl⟩⟩
theorem retB_no {p : Prop} (h : ¬ p) : RetB p (.returned (.bool false)) := ⟨false, rfl, ⟨fun e => (by cases e), fun hp => absurd hp h⟩⟩

set_option maxHeartbeats 1000000 in
theorem valid_repo (s : ByteArray) (hs : s.size ≤ maxLen) (w : World) :
    Calls Try.prog 13 #[.string s] w fun e w' => RetB (RepoOk s) e ∧ w' = w := by
  unfold maxLen at hs
  by_cases h1 : 3 ≤ s.size
  · by_cases h2 : s.size ≤ 63
    · have e0 := byt_eq s 0 (by omega)
      have e1 := byt_eq s (s.size - 1) (by omega)
      have HR : Hid (RepoOk s ↔ byt s 0 ≠ 45 ∧ byt s (s.size - 1) ≠ 45 ∧ ∀ i, i < s.size → okc (byt s i)) := ⟨fun h => h.2.2, fun h => ⟨h1, h2, h⟩⟩
      obtain ⟨c0, hc0⟩ : ∃ c, byt s 0 = c := ⟨_, rfl⟩
      obtain ⟨c1, hc1⟩ : ∃ c, byt s (s.size - 1) = c := ⟨_, rfl⟩
      rw [hc0] at e0 HR
      rw [hc1] at e1 HR
      clear hc0 hc1
      by_cases k0 : c0 = 45
      · have hR := hide (fun h : RepoOk s => (HR.out.1 h).1 k0)
        have k0' : ((c0 : Int) == 45) = true := beq_iff_eq.2 (by omega)
        clear HR k0
        go_enter Try.func13, Try.ntmps13
        go_wp2_with fail
        go_ret
        exact ⟨retB_no hR.out, rfl⟩
      · have k0' : ((c0 : Int) == 45) = false := beq_eq_false_iff_ne.2 (by omega)
        by_cases k1 : c1 = 45
        · have hR := hide (fun h : RepoOk s => (HR.out.1 h).2.1 k1)
          have k1' : ((c1 : Int) == 45) = true := beq_iff_eq.2 (by omega)
          clear HR k0 k1
          go_enter Try.func13, Try.ntmps13
          go_wp2_with fail
          go_ret
          exact ⟨retB_no hR.out, rfl⟩
        · have k1' : ((c1 : Int) == 45) = false := beq_eq_false_iff_ne.2 (by omega)
          have HR2 : Hid (RepoOk s ↔ ∀ i, i < s.size → okc (byt s i)) := ⟨fun h => (HR.out.1 h).2.2, fun h => HR.out.2 ⟨k0, k1, h⟩⟩
          clear HR k0 k1
          go_enter Try.func13, Try.ntmps13
          go_wp2_with fail
          clear e0 e1 k0' k1'
          go_loop [26] (fun iv => ∃ i : Nat, i ≤ s.size ∧ iv = .int .i64 i ∧ Hid (∀ j, j < i → okc (byt s j))) (fun i => s.size - (intOf i).toNat)
          case atStart => exact ⟨0, Nat.zero_le _, rfl, fun j hj => by omega⟩
          case round =>
            obtain ⟨i, hi, rfl, HI⟩ := hrel
            by_cases hlt : i < s.size
            · have ei := byt_eq s i hlt
              have hb := byt_lt s i
              obtain ⟨c, hc⟩ : ∃ c, byt s i = c := ⟨_, rfl⟩
              rw [hc] at ei hb
              have HC := hide hc
              clear hc
              by_cases hok : okc c
              · have HS : Hid (∀ j, j < i + 1 → okc (byt s j)) := by
                  intro j hj
                  by_cases e : j = i
                  · rw [e, HC.out]; exact hok
                  · exact HI.out j (by omega)
                rcases hok with ⟨k1, k2⟩ | ⟨k1, k2⟩ | k1
                · go_wp2_with fail
                  go_round
                  case rel => exact ⟨i + 1, by omega, by go_num, HS⟩
                  case measure => simp [intOf]; omega
                · go_wp2_with fail
                  go_round
                  case rel => exact ⟨i + 1, by omega, by go_num, HS⟩
                  case measure => simp [intOf]; omega
                · subst k1
                  go_wp2_with fail
                  go_round
                  case rel => exact ⟨i + 1, by omega, by go_num, HS⟩
                  case measure => simp [intOf]; omega
              · have hno : ¬ RepoOk s := fun h => hok (by rw [← HC.out]; exact HR2.out.1 h i hlt)
                have HNO := hide hno
                have hcs : (c < 48 ∧ c ≠ 45) ∨ (57 < c ∧ c < 97) ∨ 122 < c := by unfold okc at hok; omega
                clear hok hno
                rcases hcs with ⟨k1, k2⟩ | ⟨k1, k2⟩ | k1
                · have k2' : ((c : Int) != 45) = true := by rw [bne_iff_ne]; omega
                  clear k2
                  go_wp2_with fail
                  go_ret
                  exact ⟨retB_no HNO.out, rfl⟩
                · have k2' : ((c : Int) != 45) = true := by rw [bne_iff_ne]; omega
                  go_wp2_with fail
                  go_ret
                  exact ⟨retB_no HNO.out, rfl⟩
                · have k2' : ((c : Int) != 45) = true := by rw [bne_iff_ne]; omega
                  go_wp2_with fail
                  go_ret
                  exact ⟨retB_no HNO.out, rfl⟩
            · obtain rfl : i = s.size := by omega
              have HY := hide (HR2.out.2 HI.out)
              go_wp2_with fail
              go_ret
              exact ⟨retB_yes HY.out, rfl⟩
    · go_enter Try.func13, Try.ntmps13
      go_wp2_with fail
      go_ret
      exact ⟨retB_no (fun h => absurd h.2.1 (by omega)), rfl⟩
  · go_enter Try.func13, Try.ntmps13
    go_wp2_with fail
    go_ret
    exact ⟨retB_no (fun h => absurd h.1 (by omega)), rfl⟩

set_option maxHeartbeats 400000 in
theorem zzvalid_repo (s : ByteArray) (hs : s.size ≤ maxLen) (w : World) :
    Calls Try.prog 7 #[.string s] w fun e w' => RetB (RepoOk s) e ∧ w' = w := by
  go_enter Try.func7, Try.ntmps7
  go_wp2_with fail
  refine (valid_repo s hs w).mono ?_
  rintro e w' ⟨⟨b, rfl, hb⟩, rfl⟩
  have HB := hide hb
  clear hb
  go_wp2_with fail
  go_ret
  exact ⟨⟨b, rfl, HB.out⟩, rfl⟩

/-- What a reference's name may hold. -/
def okr (c : Nat) : Prop := (97 ≤ c ∧ c ≤ 122) ∨ (65 ≤ c ∧ c ≤ 90) ∨ (48 ≤ c ∧ c ≤ 57) ∨ c = 45 ∨ c = 95 ∨ c = 46 ∨ c = 58
def RefOk (s : ByteArray) : Prop := 1 ≤ s.size ∧ s.size ≤ 255 ∧ byt s 0 ≠ 45 ∧ byt s 0 ≠ 46 ∧ ∀ i, i < s.size → okr (byt s i)

theorem ref_of_repo {s : ByteArray} (h : RepoOk s) : RefOk s := by
  obtain ⟨h1, h2, h3, h4, h5⟩ := h
  refine ⟨by omega, by omega, h3, ?_, fun i hi => ?_⟩
  · have := h5 0 (by omega)
    unfold okc at this
    omega
  · have := h5 i hi
    unfold okc at this
    unfold okr
    omega

set_option maxHeartbeats 1000000 in
theorem valid_ref (s : ByteArray) (hR : RefOk s) (w : World) :
    Calls Try.prog 15 #[.string s] w fun e w' => e = .returned (.bool true) ∧ w' = w := by
  obtain ⟨h1, h2, h3, h4, h5⟩ := hR
  have e0 := byt_eq s 0 (by omega)
  obtain ⟨c0, hc0⟩ : ∃ c, byt s 0 = c := ⟨_, rfl⟩
  rw [hc0] at e0 h3 h4
  clear hc0
  have k0 : ((c0 : Int) == 45) = false := beq_eq_false_iff_ne.2 (by omega)
  have k1 : ((c0 : Int) == 46) = false := beq_eq_false_iff_ne.2 (by omega)
  have hne : s.toList.isEmpty = false := by
    rw [List.isEmpty_eq_false_iff]
    intro e
    have h0 : s.toList.length = 0 := by rw [e]; rfl
    rw [ByteArray.toList_eq] at h0
    have h1' : s.data.toList.length = s.size := by simp
    omega
  have hdd : decide ((255 : Int) < (s.size : Int)) = false := by simp; omega
  have H5 := hide h5
  clear h3 h4 h5
  go_enter Try.func15, Try.ntmps15
  go_wp2_with fail
  clear hdd hne k0 k1 e0
  go_loop [24] (fun iv => ∃ i : Nat, i ≤ s.size ∧ iv = .int .i64 i) (fun i => s.size - (intOf i).toNat)
  case atStart => exact ⟨0, Nat.zero_le _, rfl⟩
  case round =>
    obtain ⟨i, hi, rfl⟩ := hrel
    by_cases hlt : i < s.size
    · have ei := byt_eq s i hlt
      have hok := H5.out i hlt
      have hb := byt_lt s i
      generalize byt s i = c at ei hok hb
      unfold okr at hok
      rcases hok with ⟨k1, k2⟩ | ⟨k1, k2⟩ | ⟨k1, k2⟩ | k1 | k1 | k1 | k1
      · go_wp2_with fail
        go_round
        case rel => exact ⟨i + 1, by omega, by go_num⟩
        case measure => simp [intOf]; omega
      · go_wp2_with fail
        go_round
        case rel => exact ⟨i + 1, by omega, by go_num⟩
        case measure => simp [intOf]; omega
      · go_wp2_with fail
        go_round
        case rel => exact ⟨i + 1, by omega, by go_num⟩
        case measure => simp [intOf]; omega
      all_goals
        subst k1
        go_wp2_with fail
        go_round
        case rel => exact ⟨i + 1, by omega, by go_num⟩
        case measure => simp [intOf]; omega
    · go_wp2_with fail
      go_ret
      exact ⟨rfl, rfl⟩

set_option maxHeartbeats 400000 in
theorem zzvalid_ref (s : ByteArray) (hR : RefOk s) (w : World) :
    Calls Try.prog 12 #[.string s] w fun e w' => e = .returned (.bool true) ∧ w' = w := by
  go_enter Try.func12, Try.ntmps12
  go_wp2_with fail
  refine (valid_ref s hR w).mono ?_
  rintro e w' ⟨rfl, rfl⟩
  go_wp2_with fail
  go_ret
  exact ⟨rfl, rfl⟩

set_option maxHeartbeats 400000 in
theorem bytes11 (s : ByteArray) (hs : s.size ≤ maxLen) (w : World) :
    Calls Try.prog 11 #[.string s] w fun e w' => e = .returned (.bool (decide (s.size ≤ 1048576))) ∧ w' = w := by
  unfold maxLen at hs
  by_cases h : s.size ≤ 1048576
  · go_enter Try.func11, Try.ntmps11
    go_wp2
    go_ret
    exact ⟨by simp [h], rfl⟩
  · go_enter Try.func11, Try.ntmps11
    go_wp2
    go_ret
    exact ⟨by simp; omega, rfl⟩

set_option maxHeartbeats 400000 in
theorem bytes6 (s : ByteArray) (hs : s.size ≤ maxLen) (w : World) :
    Calls Try.prog 6 #[.string s] w fun e w' => e = .returned (.bool (decide (s.size ≤ 1048576))) ∧ w' = w := by
  unfold maxLen at hs
  by_cases h : s.size ≤ 1048576
  · go_enter Try.func6, Try.ntmps6
    go_wp2
    go_ret
    exact ⟨by simp [h], rfl⟩
  · go_enter Try.func6, Try.ntmps6
    go_wp2
    go_ret
    exact ⟨by simp; omega, rfl⟩
end Go.Proofs.Qxb6606045a
