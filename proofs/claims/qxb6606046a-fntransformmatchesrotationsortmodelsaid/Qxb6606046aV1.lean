import Derived.Test.Qxb6606046aRows
import Derived.Test.Qxb6606046aB2
set_option linter.unusedVariables false
set_option linter.unusedSimpArgs false
namespace Go.Proofs.Qxb6606046a
open Go.RowKit

theorem info21 : (Try.prog.info? 21).map (fun i => (i.zero, i.size, i.bytes)) = some (some (.int .i32 0), 1, 4) := by kernel_rfl
theorem info4 : (Try.prog.info? 4).map (fun i => (i.zero, i.size, i.bytes)) = some (some (.bool false), 1, 1) := by kernel_rfl
theorem info5 : (Try.prog.info? 5).map (fun i => (i.zero, i.size, i.bytes)) = some (some (.int .u8 0), 1, 1) := by kernel_rfl

def ct (n : Nat) (S : Nat → Nat) (c : Nat) : Nat := cn n (fun i => decide (S i = c))
theorem hd_zero (n : Nat) (S : Nat → Nat) : hd n S 0 = 0 := cn_false n (by intro t _; simp)
theorem hd_succ (n : Nat) (S : Nat → Nat) (c : Nat) : hd n S (c + 1) = hd n S c + ct n S c := by
  unfold hd ct
  rw [← cn_or (by intro t _; simp; omega)]
  apply cn_congr
  intro t _
  rw [Bool.eq_iff_iff]
  simp
  omega
theorem tl_hd (n : Nat) (S : Nat → Nat) (c : Nat) : tl n S c = hd n S (c + 1) := by
  unfold hd tl
  apply cn_congr
  intro t _
  rw [Bool.eq_iff_iff]
  simp
  omega
theorem hd_le (n : Nat) (S : Nat → Nat) (c : Nat) : hd n S c ≤ n := cn_le _ _
theorem ct_le (n : Nat) (S : Nat → Nat) (c : Nat) : ct n S c ≤ n := cn_le _ _

/-- A 'buckets' in memory: its two slices. -/
structure Bk (w : World) (lv lo cb tb k : Nat) : Prop where
  c : w.cell? ⟨lv, lo, none⟩ = some (.slice (some ⟨cb, 0, none⟩) k k)
  t : w.cell? ⟨lv, lo + 1, none⟩ = some (.slice (some ⟨tb, 0, none⟩) k k)
theorem Bk.fr {w w' : World} {lv lo cb tb k : Nat} {X : Nat → Nat → Prop} (h : Bk w lv lo cb tb k) (hf : Fr w w' X) (h1 : ¬ X lv lo) (h2 : ¬ X lv (lo + 1)) : Bk w' lv lo cb tb k := ⟨cell_fr h.c hf h1, cell_fr h.t hf h2⟩

def OnlyB (tb : Nat) : Nat → Nat → Prop := fun k _ => k = tb

set_option maxHeartbeats 1000000 in
theorem set_tails (n k : Nat) (hn : n ≤ 65536) (hk : k ≤ 65536) (S : Nat → Nat) (lv lo cb tb : Nat) (g : Nat → Int) (w : World) (hB : Bk w lv lo cb tb k) (hC : RdI w cb 0 .i32 (fun c => (ct n S c : Nat)) k) (hT : RdI w tb 0 .i32 g k) (hF : Fz w tb) (h1 : lv ≠ tb) (h2 : cb ≠ tb) :
    Calls Try.prog 19 #[.pointer (some ⟨lv, lo, none⟩)] w fun e w' => e = .returned (.tuple #[]) ∧ RdI w' tb 0 .i32 (fun c => (tl n S c : Nat)) k ∧ Fz w' tb ∧ Fr w w' (OnlyB tb) := by
  have b1 := hB.c
  go_enter Try.func19, Try.ntmps19
  go_wp2_with fail
  clear b1
  go_loopw [2, 10] (fun sv cv wr => ∃ (c : Nat) (g : Nat → Int), c ≤ k ∧ cv = .int .i64 c ∧ sv = .int .i32 (hd n S c : Nat) ∧ RdI wr tb 0 .i32 g k ∧ Hid (∀ d, d < c → g d = (tl n S d : Nat)) ∧ Fz wr tb ∧ Fr w wr (OnlyB tb)) (fun _ c _ => k - (intOf c).toNat)
  case atStart => exact ⟨0, g, Nat.zero_le _, rfl, by rw [hd_zero]; rfl, hT, fun d hd => by omega, hF, Fr.refl _ _⟩
  case round =>
    clear hT hF
    obtain ⟨c, g, hc, rfl, rfl, hT, HG, hF, hFr⟩ := hrel
    by_cases hlt : c < k
    · have c1 := (hC.fr hFr (fun i _ h => h2 h)).at0 hlt
      have c2 := (hB.fr hFr h1 h1).t
      have c3 := hT.at0 hlt
      have f3 := hF c
      have hs := hd_succ n S c
      have hl1 := hd_le n S c
      have hl2 := ct_le n S c
      have HT : Hid (tl n S c = hd n S c + ct n S c) := by show _ = _; rw [tl_hd, hs]
      have HS := hide hs
      clear hs
      have HH : Hid (∀ x, hd n S c = x → hd n S c = x) := fun _ h => h
      obtain ⟨h0, hh0⟩ : ∃ h0, hd n S c = h0 := ⟨_, rfl⟩
      rw [hh0] at HS hl1 ⊢
      have HH0 := hide hh0
      clear HH hh0
      generalize ct n S c = q0 at *
      go_wp2_with fail
      go_roundw
      case rel =>
        refine ⟨c + 1, upd g c ((h0 : Int) + (q0 : Int)), by omega, by go_num, by rw [HS.out]; go_num, hT.set0 hlt _, fun d hd => ?_, hF.set _ _, hFr.setCell _ (fun _ => rfl)⟩
        by_cases e : d = c
        · subst e
          rw [upd_same]
          first | (rw [HT.out, HH0.out]; omega) | rw [HH0.out]
        · rw [upd_ne _ _ e]; exact HG.out d (by omega)
      case measure => simp [intOf]; omega
    · obtain rfl : c = k := by omega
      go_wp2_with fail
      go_end0
      exact ⟨rfl, hT.congr HG.out, hF, hFr⟩

set_option maxHeartbeats 1000000 in
theorem set_heads (n k : Nat) (hn : n ≤ 65536) (hk : k ≤ 65536) (S : Nat → Nat) (lv lo cb tb : Nat) (g : Nat → Int) (w : World) (hB : Bk w lv lo cb tb k) (hC : RdI w cb 0 .i32 (fun c => (ct n S c : Nat)) k) (hT : RdI w tb 0 .i32 g k) (hF : Fz w tb) (h1 : lv ≠ tb) (h2 : cb ≠ tb) :
    Calls Try.prog 24 #[.pointer (some ⟨lv, lo, none⟩)] w fun e w' => e = .returned (.tuple #[]) ∧ RdI w' tb 0 .i32 (fun c => (hd n S c : Nat)) k ∧ Fz w' tb ∧ Fr w w' (OnlyB tb) := by
  have b1 := hB.c
  go_enter Try.func24, Try.ntmps24
  go_wp2_with fail
  clear b1
  go_loopw [2, 10] (fun sv cv wr => ∃ (c : Nat) (g : Nat → Int), c ≤ k ∧ cv = .int .i64 c ∧ sv = .int .i32 (hd n S c : Nat) ∧ RdI wr tb 0 .i32 g k ∧ Hid (∀ d, d < c → g d = (hd n S d : Nat)) ∧ Fz wr tb ∧ Fr w wr (OnlyB tb)) (fun _ c _ => k - (intOf c).toNat)
  case atStart => exact ⟨0, g, Nat.zero_le _, rfl, by rw [hd_zero]; rfl, hT, fun d hd => by omega, hF, Fr.refl _ _⟩
  case round =>
    clear hT hF
    obtain ⟨c, g, hc, rfl, rfl, hT, HG, hF, hFr⟩ := hrel
    by_cases hlt : c < k
    · have c1 := (hC.fr hFr (fun i _ h => h2 h)).at0 hlt
      have c2 := (hB.fr hFr h1 h1).t
      have c3 := hT.at0 hlt
      have f3 := hF c
      have hs := hd_succ n S c
      have hl1 := hd_le n S c
      have hl2 := ct_le n S c
      have HT : Hid (hd n S c = hd n S c) := by show _ = _; rfl
      have HS := hide hs
      clear hs
      have HH : Hid (∀ x, hd n S c = x → hd n S c = x) := fun _ h => h
      obtain ⟨h0, hh0⟩ : ∃ h0, hd n S c = h0 := ⟨_, rfl⟩
      rw [hh0] at HS hl1 ⊢
      have HH0 := hide hh0
      clear HH hh0
      generalize ct n S c = q0 at *
      go_wp2_with fail
      go_roundw
      case rel =>
        refine ⟨c + 1, upd g c ((h0 : Int)), by omega, by go_num, by rw [HS.out]; go_num, hT.set0 hlt _, fun d hd => ?_, hF.set _ _, hFr.setCell _ (fun _ => rfl)⟩
        by_cases e : d = c
        · subst e
          rw [upd_same]
          first | (rw [HT.out, HH0.out]; omega) | rw [HH0.out]
        · rw [upd_ne _ _ e]; exact HG.out d (by omega)
      case measure => simp [intOf]; omega
    · obtain rfl : c = k := by omega
      go_wp2_with fail
      go_end0
      exact ⟨rfl, hT.congr HG.out, hF, hFr⟩

end Go.Proofs.Qxb6606046a
