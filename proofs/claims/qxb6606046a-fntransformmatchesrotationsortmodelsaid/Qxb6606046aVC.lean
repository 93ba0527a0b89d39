import Derived.Test.Qxb6606046aVB
set_option linter.unusedVariables false
set_option linter.unusedSimpArgs false
namespace Go.Proofs.Qxb6606046a
open Go.RowKit

theorem Ps.inv {n : Nat} {S P : Nat → Nat} (h : Ps n S P) : ∃ rk : Nat → Nat, ∀ x, x < n → rk x < n ∧ P (rk x) = x := by
  have h1 : ∀ x, ∃ u, x < n → u < n ∧ P u = x := fun x => by
    by_cases hx : x < n
    · obtain ⟨u, hu⟩ := h.on x hx; exact ⟨u, fun _ => hu⟩
    · exact ⟨0, fun e => (hx e).elim⟩
  exact ⟨fun x => Classical.choose (h1 x), fun x hx => Classical.choose_spec (h1 x) hx⟩
theorem bool_of (p : Nat → Prop) : ∃ F : Nat → Bool, ∀ t, F t = true ↔ p t := ⟨fun t => @decide (p t) (Classical.propDecidable _), fun t => by simp⟩
def RotPost (n : Nat) (S P : Nat → Nat) (i0 : Nat) (w w' : World) (e : Ending) : Prop := ∃ yb, e = .returned (.tuple #[.slice (some ⟨yb, 0, none⟩) n n, .int .i64 ((i0 : Int) + 1)]) ∧ RdI w' yb 0 .u8 (fun j => (S (lastM n P i0 j) : Int)) n ∧ Fr w w' XN
set_option maxHeartbeats 8000000 in
set_option maxRecDepth 20000 in
theorem rotation (n : Nat) (n1 : 1 ≤ n) (hn : n ≤ 65536) (S P : Nat → Nat) (i0 : Nat) (hPs : Ps n S P) (hi0 : i0 < n) (hi0P : P i0 = 0) (xb xc : Nat) (w : World) (hx : RdI w xb 0 .u8 (fun i => (S i : Int)) n) :
    Calls Try.prog 9 #[.slice (some ⟨xb, 0, none⟩) n xc] w fun e w' => RotPost n S P i0 w w' e := by
  obtain ⟨rk, hrk⟩ := hPs.inv
  have hxl := World.block_lt_of_cell? _ _ (hx 0 n1)
  simp only [] at hxl
  go_enter Try.func9, Try.ntmps9
  go_wp2_with (at_make; refine wpList_make_at _ rfl _ _ 36 rfl 3 (.int .i64 0) 8 Try.underlying36 info3 rfl _ _ _ _ n n rfl rfl rfl rfl (Nat.le_refl _) (by omega) (by omega) ?_)
  intro rb w1 hg hsz hA hB
  have hr := hA.rdI
  have hfz := hA.fz
  have hF := Fr.of_below hB XN
  have hrb : w.heap.size ≤ rb := Nat.le_of_eq hg.out.symm
  clear hA hB hg hsz
  go_wp2_with fail
  go_loopw [6] (fun pv wr => ∃ (p : Nat) (f : Nat → Int), p ≤ n ∧ pv = .int .i64 p ∧ RdI wr rb 0 .i64 f n ∧ Fz wr rb ∧ Fr w wr XN ∧ Hid (∀ a, a < p → f a = (rk a : Nat))) (fun p _ => n - (intOf p).toNat)
  case atStart => exact ⟨0, _, Nat.zero_le _, rfl, hr, hfz, hF, fun a ha => by omega⟩
  case round =>
    clear hr hfz hF
    obtain ⟨p, f, hp, rfl, hr, hfz, hF, HR⟩ := hrel
    by_cases hlt : p < n
    · have i1 : (p : Int) < (n : Int) := by omega
      obtain ⟨B, hB⟩ := bool_of (fun t => t ≠ p ∧ SufLt n S t p)
      have HB := hide hB
      have HK := hide (hPs.rank (hrk p hlt).1 (f := B) (fun q hq => by rw [(hrk p hlt).2]; exact hB q))
      clear hB
      go_wp2_with fail
      go_loopw [7, 8] (fun cv qv wr2 => ∃ (q c : Nat), q ≤ n ∧ c ≤ q ∧ cv = .int .i64 c ∧ qv = .int .i64 q ∧ Fr wr wr2 XN ∧ Hid (c = cn q B)) (fun _ q _ => n - (intOf q).toNat)
      case atStart => exact ⟨0, 0, Nat.zero_le _, Nat.le_refl _, rfl, rfl, Fr.refl _ _, rfl⟩
      case round =>
        obtain ⟨q, c, hq, hc, rfl, rfl, hF2, HC⟩ := hrel
        by_cases hlt2 : q < n
        · have i2 : (q : Int) < (n : Int) := by omega
          have HS := hide (cn_succ q B)
          have HBq := hide (HB.out q)
          by_cases hqp : q = p
          · subst hqp
            have HC' : Hid (c = cn (q + 1) B) := by
              show c = _
              rw [HS.out, if_neg, HC.out]
              · rfl
              · rw [HBq.out]; exact fun e => e.1 rfl
            clear HC HS HBq
            have i3 : ((q : Int) != (q : Int)) = false := by simp
            go_wp2_with fail
            go_roundw
            case rel => exact ⟨q + 1, c, by omega, by omega, rfl, rfl, hF2, HC'⟩
            case measure => first | (simp [intOf]; done) | (simp [intOf]; omega)
          · have i3 : ((q : Int) != (p : Int)) = true := by simp; omega
            have i4 : ((q : Int) == (p : Int)) = false := by simp; omega
            have i5 : ¬ (q : Int) = (p : Int) := by omega
            have i6 : (q == p) = false := by simp; omega
            have hx2 := (hx.fr hF (fun _ _ e => e)).fr hF2 (fun _ _ e => e)
            go_wp2_with fail
            refine (suffix_less n q p hn hlt2 hlt hqp S xb 0 xc _ hx2).mono ?_
            rintro e w5 ⟨r, rfl, hr5, hf5⟩
            have hF5 := hF2.trans hf5
            clear hf5 hx2
            cases r with
            | true =>
              have HC' : Hid (c + 1 = cn (q + 1) B) := by
                show c + 1 = _
                rw [HS.out, if_pos, HC.out]
                rw [HBq.out]; exact ⟨hqp, hr5.1 rfl⟩
              clear HC HS HBq hr5
              go_wp2_with fail
              go_roundw
              case rel => exact ⟨q + 1, c + 1, by omega, by omega, rfl, rfl, hF5, HC'⟩
              case measure => first | (simp [intOf]; done) | (simp [intOf]; omega)
            | false =>
              have HC' : Hid (c = cn (q + 1) B) := by
                show c = _
                rw [HS.out, if_neg, HC.out]
                · rfl
                · rw [HBq.out]; exact fun e => by have := hr5.2 e.2; cases this
              clear HC HS HBq hr5
              go_wp2_with fail
              go_roundw
              case rel => exact ⟨q + 1, c, by omega, by omega, rfl, rfl, hF5, HC'⟩
              case measure => first | (simp [intOf]; done) | (simp [intOf]; omega)
        · have hin : n = q := by omega
          subst hin
          have hck : c = rk p := HC.out.trans HK.out
          have hr2 := hr.fr hF2 (fun _ _ e => e)
          have hfz2 := hfz.fr (World.block_lt_of_cell? _ _ (hr 0 n1)) hF2
          have c1 := hr2.at0 hlt
          have f1 := hfz2 p
          have hr3 := hr2.set0 hlt (c : Int)
          have hfz3 := hfz2.set ⟨rb, p, none⟩ (.int .i64 (c : Int))
          have hF3 : Fr w (wr.setCell ⟨rb, p, none⟩ (.int .i64 (c : Int))) XN := (hF.trans hF2).setCell _ (fun e => by omega)
          have HR' : Hid (∀ a, a < p + 1 → upd f p (c : Int) a = (rk a : Nat)) := by
            intro a ha
            by_cases e : a = p
            · rw [e, upd_same, hck]
            · rw [upd_ne _ _ e]; exact HR.out a (by omega)
          clear HC HK HB HR hck hr2 hfz2 hF2 hr hfz hF
          go_wp2_with fail
          go_roundw
          case rel => exact ⟨p + 1, _, by omega, rfl, hr3, hfz3, hF3, HR'⟩
          case measure => first | (simp [intOf]; done) | (simp [intOf]; omega)
    · have hin : n = p := by omega
      subst hin
      have hrk0 : rk 0 = i0 := hPs.inj _ _ (hrk 0 (by omega)).1 hi0 (by rw [(hrk 0 (by omega)).2, hi0P])
      have c0 := hr.at0 (i := 0) (by omega)
      rw [HR.out 0 (by omega), hrk0] at c0
      have cx := (hx.fr hF (fun _ _ e => e)).at0 (i := n - 1) (by omega)
      have rl := World.block_lt_of_cell? _ _ (hr 0 n1)
      simp only [] at rl
      obtain ⟨v0, hv0⟩ : ∃ v0, S (n - 1) = v0 := ⟨_, rfl⟩
      simp only [hv0] at cx
      clear hlt hp
      go_wp2_with (at_make; refine wpList_make_at _ rfl _ _ 22 rfl 5 (.int .u8 0) 1 Try.underlying22 info5 rfl _ _ _ _ n n rfl rfl rfl rfl (Nat.le_refl _) (by omega) (by omega) ?_)
      intro yb w3 hg hsz hA hB
      have hG := Fr.of_below hB XN
      have hyb : wr.heap.size ≤ yb := Nat.le_of_eq hg.out.symm
      have hzz := hF.size
      have hcy := hA.rdI.at0 (i := 0) (by omega)
      have hfy := hA.fz 0
      have hxc := cell_fr cx hG (fun e => e)
      have hr3 := hr.fr hG (fun _ _ e => e)
      have hy4 := hA.rdI.set0 (i := 0) (by omega) (v0 : Int)
      have hz4 := hA.fz.set ⟨yb, 0, none⟩ (.int .u8 (v0 : Int))
      have hF3 : Fr w w3 XN := hF.trans hG
      have hF4 : Fr w3 (w3.setCell ⟨yb, 0, none⟩ (.int .u8 (v0 : Int))) (OnlyB yb) := (Fr.refl _ _).setCell _ (fun _ => rfl)
      have hry : rb ≠ yb := by omega
      have hxy : xb ≠ yb := by omega
      have hyw : w.heap.size ≤ yb := by omega
      clear hA hB hg hsz hr hfz hF hG cx c0 rl hyb hzz
      have wn : IntKind.i64.wrap ((n : Int) - 1) = ((n - 1 : Nat) : Int) := by rw [IntKind.wrap_i64]; omega
      have in1 : ((n - 1 : Nat) : Int) < (n : Int) := by omega
      go_wp2_with fail
      generalize w3.setCell ⟨yb, 0, none⟩ (.int .u8 (v0 : Int)) = w4 at *
      clear hcy hfy hxc wn in1
      go_loopw [11] (fun pv wr => ∃ (p : Nat) (g : Nat → Int), 1 ≤ p ∧ p ≤ n ∧ pv = .int .i64 p ∧ RdI wr yb 0 .u8 g n ∧ Fz wr yb ∧ Fr w3 wr (OnlyB yb) ∧ Hid (g 0 = v0 ∧ ∀ a, 1 ≤ a → a < p → g (ps i0 (rk a)) = S (a - 1))) (fun p _ => n - (intOf p).toNat)
      case atStart => exact ⟨1, _, Nat.le_refl _, n1, rfl, hy4, hz4, hF4, by rw [upd_same], fun a h1 h2 => by omega⟩
      case round =>
        clear hy4 hz4 hF4
        obtain ⟨p, g, hp1, hp, rfl, hy, hz, hF4, HG⟩ := hrel
        by_cases hlt : p < n
        · have hrp := hrk p hlt
          have hne : rk p ≠ i0 := fun e => by have := hrp.2; rw [e, hi0P] at this; omega
          have hpl := ps_lt hi0 hrp.1 hne
          have c1 := (hr3.fr hF4 (fun _ _ e => hry e)).at0 hlt
          rw [HR.out p hlt] at c1
          have hx4 := (hx.fr hF3 (fun _ _ e => e)).fr hF4 (fun _ _ e => hxy e)
          have c2 := hx4.at0 (i := p - 1) (by omega)
          have c3 := hy.at0 hpl.1
          have f3 := hz (ps i0 (rk p))
          have hy2 := hy.set0 hpl.1 (S (p - 1) : Int)
          have hz2 := hz.set ⟨yb, ps i0 (rk p), none⟩ (.int .u8 (S (p - 1) : Int))
          have hF5 : Fr w3 (wr.setCell ⟨yb, ps i0 (rk p), none⟩ (.int .u8 (S (p - 1) : Int))) (OnlyB yb) := hF4.setCell _ (fun _ => rfl)
          have HG' : Hid (upd g (ps i0 (rk p)) (S (p - 1) : Int) 0 = v0 ∧ ∀ a, 1 ≤ a → a < p + 1 → upd g (ps i0 (rk p)) (S (p - 1) : Int) (ps i0 (rk a)) = S (a - 1)) := by
            refine ⟨?_, fun a h1 h2 => ?_⟩
            · rw [upd_ne _ _ hpl.2.symm]; exact HG.out.1
            · by_cases e : a = p
              · subst e; rw [upd_same]
              · have hra := hrk a (by omega)
                have hne2 : rk a ≠ i0 := fun e => by have := hra.2; rw [e, hi0P] at this; omega
                rw [upd_ne _ _ (fun e2 => e (by have := ps_inj hne2 hne e2; rw [← hra.2, ← hrp.2, this]))]
                exact HG.out.2 a h1 (by omega)
          have wp1 : IntKind.i64.wrap ((p : Int) - 1) = ((p - 1 : Nat) : Int) := by rw [IntKind.wrap_i64]; omega
          have i1 : (p : Int) < (n : Int) := by omega
          have i2 : ((p - 1 : Nat) : Int) < (n : Int) := by omega
          try simp only [] at c2
          have hR1 := hrp.1
          clear HG hx4 hrp hy hz hF4
          generalize S (p - 1) = x at *
          by_cases hgt : i0 < rk p
          · have eps : ps i0 (rk p) = rk p := by unfold ps; rw [if_neg (by omega)]
            rw [eps] at c3 f3 hy2 hz2 hF5 HG'
            clear eps hpl hne
            generalize rk p = y at *
            have j1 : (i0 : Int) + 1 < (y : Int) + 1 := by omega
            have j2 : (y : Int) < (n : Int) := by omega
            have j3 : (i0 : Int) < (y : Int) := by omega
            have wy : IntKind.i64.wrap ((y : Int) + 1 - 1) = (y : Int) := by rw [IntKind.wrap_i64]; omega
            go_wp2_with fail
            go_roundw
            case rel => exact ⟨p + 1, _, by omega, by omega, rfl, hy2, hz2, hF5, HG'⟩
            case measure => first | (simp [intOf]; done) | (simp [intOf]; omega)
          · have eps : ps i0 (rk p) = rk p + 1 := by unfold ps; rw [if_pos (by omega)]
            rw [eps] at c3 f3 hy2 hz2 hF5 HG' hpl
            have hpl1 := hpl.1
            clear eps hpl
            generalize rk p = y at *
            have j1 : ¬ (i0 : Int) + 1 < (y : Int) + 1 := by omega
            have j2 : (y : Int) + 1 < (n : Int) := by omega
            have j3 : ¬ (i0 : Int) < (y : Int) := by omega
            go_wp2_with fail
            go_roundw
            case rel => exact ⟨p + 1, _, by omega, by omega, rfl, hy2, hz2, hF5, HG'⟩
            case measure => first | (simp [intOf]; done) | (simp [intOf]; omega)
        · have hin : n = p := by omega
          subst hin
          have hfin : RotPost n S P i0 w wr (.returned (.tuple #[.slice (some ⟨yb, 0, none⟩) n n, .int .i64 ((i0 : Int) + 1)])) := by
            refine ⟨yb, rfl, hy.congr (fun j hj => ?_), hF3.then hF4 (fun k o hk e => by have : k = yb := e; omega)⟩
            by_cases e : j = 0
            · rw [e, HG.out.1, ← hv0]; simp [lastM]
            · obtain ⟨a, ha1, ha2, rfl⟩ := ps_on hi0 hj e
              have hPa := hPs.lt a ha1
              have hra := hrk (P a) hPa
              have e1 : rk (P a) = a := hPs.inj _ _ hra.1 ha1 hra.2
              have e2 : P a ≠ 0 := fun e => ha2 (hPs.inj _ _ ha1 hi0 (by rw [e, hi0P]))
              have := HG.out.2 (P a) (by omega) hPa
              rw [e1] at this
              rw [this]
              show _ = ((S (lastM n P i0 (ps i0 a)) : Nat) : Int)
              rw [lastM_ps ha2]
          clear HG hy hz hF4
          go_wp2_with fail
          go_ret2
          exact hfin
end Go.Proofs.Qxb6606046a
