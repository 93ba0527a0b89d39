import Derived.Test.Qxb6606045aA1
set_option linter.unusedVariables false
set_option linter.unusedSimpArgs false
namespace Go.Proofs.Qxb6606045a
open Go.RowKit

/-- Does the byte c stand in the string? -/
def InS (s : ByteArray) (c : Nat) : Prop := ∃ i, i < s.size ∧ byt s i = c
def RetIdx (s : ByteArray) (c : Nat) (e : Ending) : Prop := (∃ r : Nat, e = .returned (.int .i64 (r : Int)) ∧ InS s c ∧ r < s.size) ∨ (e = .returned (.int .i64 (-1)) ∧ ¬ InS s c)

set_option maxHeartbeats 1000000 in
theorem index_byte (s : ByteArray) (hs : s.size ≤ 1048576) (c : Nat) (w : World) :
    Calls Try.prog 16 #[.string s, .int .u8 c] w fun e w' => RetIdx s c e ∧ w' = w := by
  go_enter Try.func16, Try.ntmps16
  go_wp2_with fail
  go_loop [5] (fun iv => ∃ i : Nat, i ≤ s.size ∧ iv = .int .i64 i ∧ Hid (∀ j, j < i → byt s j ≠ c)) (fun i => s.size - (intOf i).toNat)
  case atStart => exact ⟨0, Nat.zero_le _, rfl, fun j hj => by omega⟩
  case round =>
    obtain ⟨i, hi, rfl, HI⟩ := hrel
    by_cases hlt : i < s.size
    · have ei := byt_eq s i hlt
      obtain ⟨d, hd⟩ : ∃ d, byt s i = d := ⟨_, rfl⟩
      rw [hd] at ei
      by_cases he : d = c
      · have hb : ((d : Int) == (c : Int)) = true := beq_iff_eq.2 (by omega)
        have HIN : Hid (InS s c) := ⟨i, hlt, hd.trans he⟩
        clear he hd
        go_wp2_with fail
        go_ret
        exact ⟨.inl ⟨i, rfl, HIN.out, hlt⟩, rfl⟩
      · have hb : ((d : Int) == (c : Int)) = false := beq_eq_false_iff_ne.2 (by omega)
        have HN : Hid (byt s i ≠ c) := by show _ ≠ _; rw [hd]; exact he
        clear he hd
        go_wp2_with fail
        go_round
        case rel =>
          refine ⟨i + 1, by omega, by go_num, fun j hj => ?_⟩
          by_cases e : j = i
          · rw [e]; exact HN.out
          · exact HI.out j (by omega)
        case measure => simp [intOf]; omega
    · obtain rfl : i = s.size := by omega
      go_wp2_with fail
      go_ret
      exact ⟨.inr ⟨rfl, fun ⟨j, hj, he⟩ => HI.out j hj he⟩, rfl⟩

set_option maxHeartbeats 1000000 in
theorem all_in (s al : ByteArray) (hs : s.size ≤ 1048576) (ha : al.size ≤ 1048576) (w : World) :
    Calls Try.prog 14 #[.string s, .string al] w fun e w' => RetB (∀ i, i < s.size → InS al (byt s i)) e ∧ w' = w := by
  go_enter Try.func14, Try.ntmps14
  go_wp2_with fail
  go_loop [5] (fun iv => ∃ i : Nat, i ≤ s.size ∧ iv = .int .i64 i ∧ Hid (∀ j, j < i → InS al (byt s j))) (fun i => s.size - (intOf i).toNat)
  case atStart => exact ⟨0, Nat.zero_le _, rfl, fun j hj => by omega⟩
  case round =>
    obtain ⟨i, hi, rfl, HI⟩ := hrel
    by_cases hlt : i < s.size
    · have ei := byt_eq s i hlt
      obtain ⟨d, hd⟩ : ∃ d, byt s i = d := ⟨_, rfl⟩
      rw [hd] at ei
      have HD := hide hd
      clear hd
      go_wp2_with fail
      refine (index_byte al ha d w).mono ?_
      rintro e w' ⟨hr, rfl⟩
      rcases hr with ⟨r, rfl, hin, hrl⟩ | ⟨rfl, hno⟩
      · have HIN := hide hin
        clear hin
        go_wp2_with fail
        go_round
        case rel =>
          refine ⟨i + 1, by omega, by go_num, fun j hj => ?_⟩
          by_cases e : j = i
          · rw [e, HD.out]; exact HIN.out
          · exact HI.out j (by omega)
        case measure => simp [intOf]; omega
      · have HNO : Hid (¬ ∀ i, i < s.size → InS al (byt s i)) := fun h => hno (by rw [← HD.out]; exact h i hlt)
        clear hno
        go_wp2_with fail
        go_ret
        exact ⟨retB_no HNO.out, rfl⟩
    · obtain rfl : i = s.size := by omega
      go_wp2_with fail
      go_ret
      exact ⟨retB_yes HI.out, rfl⟩

/-- The alphabet of the model. -/
def alpha : ByteArray := { data := #[97, 98, 99, 100, 101, 102, 103, 104, 105, 106, 107, 108, 109, 110, 111, 112, 113, 114, 115, 116, 117, 118, 119, 120, 121, 122, 48, 49, 50, 51, 52, 53, 54, 55, 56, 57, 45] }
def okcB (c : Nat) : Bool := (decide (97 ≤ c) && decide (c ≤ 122)) || (decide (48 ≤ c) && decide (c ≤ 57)) || decide (c = 45)
theorem okcB_iff (c : Nat) : okcB c = true ↔ okc c := by simp [okcB, okc, or_assoc]
theorem alpha_ok : ∀ i, i < 37 → okcB (byt alpha i) = true := by decide +kernel
theorem alpha_all : ∀ c, c < 256 → okcB c = true → ((List.range 37).any fun i => byt alpha i == c) = true := by decide +kernel
theorem in_alpha (c : Nat) (hc : c < 256) : InS alpha c ↔ okc c := by
  constructor
  · rintro ⟨i, hi, rfl⟩
    exact (okcB_iff _).1 (alpha_ok i hi)
  · intro h
    have := alpha_all c hc ((okcB_iff c).2 h)
    rw [List.any_eq_true] at this
    obtain ⟨i, hi, he⟩ := this
    exact ⟨i, List.mem_range.1 hi, by simpa using he⟩

theorem trim_iff {s : ByteArray} {lo hi : Nat} (h3 : 3 ≤ s.size) (hlh : lo ≤ hi) (hh : hi ≤ s.size) (HL : ∀ j, j < lo → byt s j = 45) (hex : lo = s.size ∨ (lo < s.size ∧ byt s lo ≠ 45)) (HH : ∀ j, hi ≤ j → j < s.size → byt s j = 45)
    (hex2 : hi = lo ∨ byt s (hi - 1) ≠ 45) : (lo = 0 ∧ hi = s.size) ↔ (byt s 0 ≠ 45 ∧ byt s (s.size - 1) ≠ 45) := by
  constructor
  · rintro ⟨rfl, rfl⟩
    refine ⟨?_, ?_⟩
    · rcases hex with h | h
      · omega
      · exact h.2
    · rcases hex2 with h | h
      · omega
      · exact h
  · rintro ⟨h0, h1⟩
    refine ⟨?_, ?_⟩
    · by_cases e : lo = 0
      · exact e
      · exact absurd (HL 0 (by omega)) h0
    · by_cases e : hi = s.size
      · exact e
      · exact absurd (HH (s.size - 1) (by omega) (by omega)) h1

set_option maxHeartbeats 2000000 in
theorem repo_model (s : ByteArray) (hs : s.size ≤ maxLen) (w : World) :
    Calls Try.prog 8 #[.string s] w fun e w' => RetB (RepoOk s) e ∧ w' = w := by
  unfold maxLen at hs
  by_cases h1 : 3 ≤ s.size
  · by_cases h2 : s.size ≤ 63
    · have HR : Hid (RepoOk s ↔ byt s 0 ≠ 45 ∧ byt s (s.size - 1) ≠ 45 ∧ ∀ i, i < s.size → okc (byt s i)) := ⟨fun h => h.2.2, fun h => ⟨h1, h2, h⟩⟩
      go_enter Try.func8, Try.ntmps8
      go_wp2_with fail
      refine (all_in s alpha (by omega) (by decide) w).mono ?_
      rintro e w ⟨⟨b, rfl, hb⟩, rfl⟩
      cases b with
      | false =>
        have hno : ¬ RepoOk s := by
          intro h
          have : ∀ i, i < s.size → InS alpha (byt s i) := fun i hi => (in_alpha _ (byt_lt s i)).2 ((HR.out.1 h).2.2 i hi)
          have := hb.2 this
          cases this
        have HNO := hide hno
        clear hb hno
        go_wp2_with fail
        go_ret
        exact ⟨retB_no HNO.out, rfl⟩
      | true =>
        have HR2 : Hid (RepoOk s ↔ byt s 0 ≠ 45 ∧ byt s (s.size - 1) ≠ 45) := by
          refine ⟨fun h => ⟨(HR.out.1 h).1, (HR.out.1 h).2.1⟩, fun h => HR.out.2 ⟨h.1, h.2, fun i hi => (in_alpha _ (byt_lt s i)).1 (hb.1 rfl i hi)⟩⟩
        clear hb HR
        go_wp2_with fail
        go_loop [4] (fun lv => ∃ lo : Nat, lo ≤ s.size ∧ lv = .int .i64 lo ∧ Hid (∀ j, j < lo → byt s j = 45)) (fun l => s.size - (intOf l).toNat)
        case atStart => exact ⟨0, Nat.zero_le _, rfl, fun j hj => by omega⟩
        case round =>
          obtain ⟨lo, hlo, rfl, HL⟩ := hrel
          by_cases hlt : lo < s.size ∧ byt s lo = 45
          · obtain ⟨hlt, h45⟩ := hlt
            have ei := byt_eq s lo hlt
            rw [h45] at ei
            have H45 := hide h45
            clear h45
            go_wp2_with fail
            go_round
            case rel =>
              refine ⟨lo + 1, by omega, by go_num, fun j hj => ?_⟩
              by_cases e : j = lo
              · rw [e]; exact H45.out
              · exact HL.out j (by omega)
            case measure => simp [intOf]; omega
          · have hex : Hid (lo = s.size ∨ (lo < s.size ∧ byt s lo ≠ 45)) := by
              show _ ∨ _
              by_cases e : lo = s.size
              · exact .inl e
              · exact .inr ⟨by omega, fun h => hlt ⟨by omega, h⟩⟩
            clear hlt
            by_cases hl2 : lo < s.size
            · have ei := byt_eq s lo hl2
              have hne : byt s lo ≠ 45 := by
                rcases hex.out with h | h
                · omega
                · exact h.2
              obtain ⟨c, hc⟩ : ∃ c, byt s lo = c := ⟨_, rfl⟩
              rw [hc] at ei hne
              have hb2 : ((c : Int) == 45) = false := beq_eq_false_iff_ne.2 (by omega)
              clear hne hc
              go_wp2_with fail
              go_loop [5] (fun hv => ∃ hi : Nat, lo ≤ hi ∧ hi ≤ s.size ∧ hv = .int .i64 hi ∧ Hid (∀ j, hi ≤ j → j < s.size → byt s j = 45)) (fun h => (intOf h).toNat)
              case atStart => exact ⟨s.size, by omega, Nat.le_refl _, rfl, fun j hj hj2 => by omega⟩
              case round =>
                obtain ⟨hi, hlh, hhs, rfl, HH⟩ := hrel
                by_cases hgo : lo < hi ∧ byt s (hi - 1) = 45
                · obtain ⟨hgo, h45⟩ := hgo
                  have ei := byt_eq s (hi - 1) (by omega)
                  rw [h45] at ei
                  have H45 := hide h45
                  clear h45
                  go_wp2_with fail
                  go_round
                  case rel =>
                    refine ⟨hi - 1, by omega, by omega, by go_num, fun j hj hj2 => ?_⟩
                    by_cases e : j = hi - 1
                    · rw [e]; exact H45.out
                    · exact HH.out j (by omega) hj2
                  case measure => simp [intOf]; omega
                · have hex2 : hi = lo ∨ byt s (hi - 1) ≠ 45 := by
                    by_cases e : hi = lo
                    · exact .inl e
                    · exact .inr (fun h => hgo ⟨by omega, h⟩)
                  have HT := hide (trim_iff h1 hlh hhs HL.out hex.out HH.out hex2)
                  have hne2 : lo < hi → byt s (hi - 1) ≠ 45 := fun hl h => hgo ⟨hl, h⟩
                  clear hgo hex2
                  by_cases hl3 : lo < hi
                  · have ei := byt_eq s (hi - 1) (by omega)
                    have hne3 := hne2 hl3
                    clear hne2
                    generalize byt s (hi - 1) = c2 at ei hne3
                    have hb3 : ((c2 : Int) == 45) = false := beq_eq_false_iff_ne.2 (by omega)
                    clear hne3
                    by_cases hz : lo = 0
                    · by_cases hy : hi = s.size
                      · have HY := hide (HR2.out.2 (HT.out.1 ⟨hz, hy⟩))
                        have hz' : ((lo : Int) == 0) = true := beq_iff_eq.2 (by omega)
                        have hy' : ((hi : Int) == (s.size : Int)) = true := beq_iff_eq.2 (by omega)
                        have HZ := hide hz
                        have HHY := hide hy
                        clear hz hy
                        go_wp2_with fail
                        go_ret
                        exact ⟨retB_yes HY.out, rfl⟩
                      · have HY := hide (fun h : RepoOk s => hy (HT.out.2 (HR2.out.1 h)).2)
                        have hz' : ((lo : Int) == 0) = true := beq_iff_eq.2 (by omega)
                        have hy' : ((hi : Int) == (s.size : Int)) = false := beq_eq_false_iff_ne.2 (by omega)
                        have HZ := hide hz
                        clear hz hy
                        go_wp2_with fail
                        go_ret
                        exact ⟨retB_no HY.out, rfl⟩
                    · have HY := hide (fun h : RepoOk s => hz (HT.out.2 (HR2.out.1 h)).1)
                      have hz' : ((lo : Int) == 0) = false := beq_eq_false_iff_ne.2 (by omega)
                      clear hz
                      go_wp2_with fail
                      go_ret
                      exact ⟨retB_no HY.out, rfl⟩
                  · clear hne2
                    by_cases hz : lo = 0
                    · have hy : ¬ hi = s.size := by omega
                      have HY := hide (fun h : RepoOk s => hy (HT.out.2 (HR2.out.1 h)).2)
                      have hz' : ((lo : Int) == 0) = true := beq_iff_eq.2 (by omega)
                      have hy' : ((hi : Int) == (s.size : Int)) = false := beq_eq_false_iff_ne.2 (by omega)
                      have HZ := hide hz
                      clear hz hy
                      go_wp2_with fail
                      go_ret
                      exact ⟨retB_no HY.out, rfl⟩
                    · have HY := hide (fun h : RepoOk s => hz (HT.out.2 (HR2.out.1 h)).1)
                      have hz' : ((lo : Int) == 0) = false := beq_eq_false_iff_ne.2 (by omega)
                      clear hz
                      go_wp2_with fail
                      go_ret
                      exact ⟨retB_no HY.out, rfl⟩
            · have hge : s.size ≤ lo := by omega
              clear hl2
              go_wp2_with fail
              go_loop [5] (fun hv => ∃ hi : Nat, lo ≤ hi ∧ hi ≤ s.size ∧ hv = .int .i64 hi ∧ Hid (∀ j, hi ≤ j → j < s.size → byt s j = 45)) (fun h => (intOf h).toNat)
              case atStart => exact ⟨s.size, by omega, Nat.le_refl _, rfl, fun j hj hj2 => by omega⟩
              case round =>
                obtain ⟨hi, hlh, hhs, rfl, HH⟩ := hrel
                by_cases hgo : lo < hi ∧ byt s (hi - 1) = 45
                · obtain ⟨hgo, h45⟩ := hgo
                  have ei := byt_eq s (hi - 1) (by omega)
                  rw [h45] at ei
                  have H45 := hide h45
                  clear h45
                  go_wp2_with fail
                  go_round
                  case rel =>
                    refine ⟨hi - 1, by omega, by omega, by go_num, fun j hj hj2 => ?_⟩
                    by_cases e : j = hi - 1
                    · rw [e]; exact H45.out
                    · exact HH.out j (by omega) hj2
                  case measure => simp [intOf]; omega
                · have hex2 : hi = lo ∨ byt s (hi - 1) ≠ 45 := by
                    by_cases e : hi = lo
                    · exact .inl e
                    · exact .inr (fun h => hgo ⟨by omega, h⟩)
                  have HT := hide (trim_iff h1 hlh hhs HL.out hex.out HH.out hex2)
                  have hne2 : lo < hi → byt s (hi - 1) ≠ 45 := fun hl h => hgo ⟨hl, h⟩
                  clear hgo hex2
                  by_cases hl3 : lo < hi
                  · have ei := byt_eq s (hi - 1) (by omega)
                    have hne3 := hne2 hl3
                    clear hne2
                    generalize byt s (hi - 1) = c2 at ei hne3
                    have hb3 : ((c2 : Int) == 45) = false := beq_eq_false_iff_ne.2 (by omega)
                    clear hne3
                    by_cases hz : lo = 0
                    · by_cases hy : hi = s.size
                      · have HY := hide (HR2.out.2 (HT.out.1 ⟨hz, hy⟩))
                        have hz' : ((lo : Int) == 0) = true := beq_iff_eq.2 (by omega)
                        have hy' : ((hi : Int) == (s.size : Int)) = true := beq_iff_eq.2 (by omega)
                        have HZ := hide hz
                        have HHY := hide hy
                        clear hz hy
                        go_wp2_with fail
                        go_ret
                        exact ⟨retB_yes HY.out, rfl⟩
                      · have HY := hide (fun h : RepoOk s => hy (HT.out.2 (HR2.out.1 h)).2)
                        have hz' : ((lo : Int) == 0) = true := beq_iff_eq.2 (by omega)
                        have hy' : ((hi : Int) == (s.size : Int)) = false := beq_eq_false_iff_ne.2 (by omega)
                        have HZ := hide hz
                        clear hz hy
                        go_wp2_with fail
                        go_ret
                        exact ⟨retB_no HY.out, rfl⟩
                    · have HY := hide (fun h : RepoOk s => hz (HT.out.2 (HR2.out.1 h)).1)
                      have hz' : ((lo : Int) == 0) = false := beq_eq_false_iff_ne.2 (by omega)
                      clear hz
                      go_wp2_with fail
                      go_ret
                      exact ⟨retB_no HY.out, rfl⟩
                  · clear hne2
                    by_cases hz : lo = 0
                    · have hy : ¬ hi = s.size := by omega
                      have HY := hide (fun h : RepoOk s => hy (HT.out.2 (HR2.out.1 h)).2)
                      have hz' : ((lo : Int) == 0) = true := beq_iff_eq.2 (by omega)
                      have hy' : ((hi : Int) == (s.size : Int)) = false := beq_eq_false_iff_ne.2 (by omega)
                      have HZ := hide hz
                      clear hz hy
                      go_wp2_with fail
                      go_ret
                      exact ⟨retB_no HY.out, rfl⟩
                    · have HY := hide (fun h : RepoOk s => hz (HT.out.2 (HR2.out.1 h)).1)
                      have hz' : ((lo : Int) == 0) = false := beq_eq_false_iff_ne.2 (by omega)
                      clear hz
                      go_wp2_with fail
                      go_ret
                      exact ⟨retB_no HY.out, rfl⟩
    · go_enter Try.func8, Try.ntmps8
      go_wp2_with fail
      go_ret
      exact ⟨retB_no (fun h => absurd h.2.1 (by omega)), rfl⟩
  · go_enter Try.func8, Try.ntmps8
    go_wp2_with fail
    go_ret
    exact ⟨retB_no (fun h => absurd h.1 (by omega)), rfl⟩
end Go.Proofs.Qxb6606045a
