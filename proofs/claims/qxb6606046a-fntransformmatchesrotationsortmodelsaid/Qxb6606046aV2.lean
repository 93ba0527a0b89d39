import Derived.Test.Qxb6606046aV1
set_option linter.unusedVariables false
set_option linter.unusedSimpArgs false
namespace Go.Proofs.Qxb6606046a
open Go.RowKit

/-- The memory that 'induce' works on. -/
structure Mi (n k : Nat) (S : Nat → Nat) (B : Nat → Bool) (sb so : Nat) (ks : IntKind) (ab ao mb lv lo cb tb : Nat) (w : World) (sa : Nat → Int) (at_ : Nat → Nat) : Prop where
  s : RdI w sb so ks (fun i => (S i : Int)) n
  a : RdI w ab ao .i32 sa n
  m : RdB w mb 0 B n
  b : Bk w lv lo cb tb k
  c : RdI w cb 0 .i32 (fun c => (ct n S c : Nat)) k
  t : RdI w tb 0 .i32 (fun c => (at_ c : Nat)) k
  fa : Fz w ab
  ft : Fz w tb
/-- No two of them lie in one place. -/
structure Dj (n sb so ab ao mb lv cb tb : Nat) : Prop where
  ta : tb ≠ ab
  ts : tb ≠ sb
  tm : tb ≠ mb
  tc : tb ≠ cb
  tl : tb ≠ lv
  am : ab ≠ mb
  ac : ab ≠ cb
  al : ab ≠ lv
  sa : sb = ab → so + n ≤ ao ∨ ao + n ≤ so

section
variable {n k : Nat} {S : Nat → Nat} {B : Nat → Bool} {sb so : Nat} {ks : IntKind} {ab ao mb lv lo cb tb : Nat} {w : World} {sa : Nat → Int} {at_ : Nat → Nat}
theorem Mi.sAt (h : Mi n k S B sb so ks ab ao mb lv lo cb tb w sa at_) {i : Nat} (hi : i < n) : w.cell? ⟨sb, so + i, none⟩ = some (.int ks (S i : Int)) := h.s i hi
theorem Mi.aAt (h : Mi n k S B sb so ks ab ao mb lv lo cb tb w sa at_) {i : Nat} (hi : i < n) : w.cell? ⟨ab, ao + i, none⟩ = some (.int .i32 (sa i)) := h.a i hi
theorem Mi.tAt (h : Mi n k S B sb so ks ab ao mb lv lo cb tb w sa at_) {i : Nat} (hi : i < k) : w.cell? ⟨tb, i, none⟩ = some (.int .i32 (at_ i : Nat)) := h.t.at0 hi
theorem Mi.mAt (h : Mi n k S B sb so ks ab ao mb lv lo cb tb w sa at_) {i : Nat} (hi : i < n) : w.cell? ⟨mb, i, none⟩ = some (.bool (B i)) := h.m.at0 hi
theorem Mi.setA (h : Mi n k S B sb so ks ab ao mb lv lo cb tb w sa at_) (d : Dj n sb so ab ao mb lv cb tb) {i : Nat} (hi : i < n) (v : Int) : Mi n k S B sb so ks ab ao mb lv lo cb tb (w.setCell ⟨ab, ao + i, none⟩ (.int .i32 v)) (upd sa i v) at_ := by
  refine ⟨h.s.ne _ _ (fun t ht e => ?_), h.a.set hi v, h.m.neb _ _ d.am, ⟨cell_neb h.b.c d.al, cell_neb h.b.t d.al⟩, h.c.neb _ _ d.ac, h.t.neb _ _ (Ne.symm d.ta), h.fa.set _ _, h.ft.set _ _⟩
  simp only [Addr.mk.injEq, and_true] at e
  rcases d.sa e.1.symm with h1 | h1 <;> omega
theorem upd_cast (f : Nat → Nat) (i v : Nat) : (fun c => ((upd f i v c : Nat) : Int)) = upd (fun c => ((f c : Nat) : Int)) i (v : Int) := by
  funext t
  unfold upd
  split <;> rfl
theorem Mi.setT (h : Mi n k S B sb so ks ab ao mb lv lo cb tb w sa at_) (d : Dj n sb so ab ao mb lv cb tb) {i : Nat} (hi : i < k) (v : Nat) : Mi n k S B sb so ks ab ao mb lv lo cb tb (w.setCell ⟨tb, i, none⟩ (.int .i32 (v : Int))) sa (upd at_ i v) := by
  refine ⟨h.s.neb _ _ d.ts, h.a.neb _ _ d.ta, h.m.neb _ _ d.tm, ⟨cell_neb h.b.c d.tl, cell_neb h.b.t d.tl⟩, h.c.neb _ _ d.tc, ?_, h.fa.set _ _, h.ft.set _ _⟩
  rw [upd_cast]
  exact h.t.set0 hi v
theorem Mi.drewN (h : Mi n k S B sb so ks ab ao mb lv lo cb tb w sa at_) (m : Nat) : Mi n k S B sb so ks ab ao mb lv lo cb tb (w.drewN m) sa at_ := ⟨h.s, h.a, h.m, ⟨h.b.c, h.b.t⟩, h.c, h.t, h.fa, h.ft⟩
theorem Mi.drew (h : Mi n k S B sb so ks ab ao mb lv lo cb tb w sa at_) : Mi n k S B sb so ks ab ao mb lv lo cb tb w.drew sa at_ := ⟨h.s, h.a, h.m, ⟨h.b.c, h.b.t⟩, h.c, h.t, h.fa, h.ft⟩
/-- Only the buckets' fill is turned. -/
theorem Mi.frT {w' : World} {g : Nat → Nat} (h : Mi n k S B sb so ks ab ao mb lv lo cb tb w sa at_) (d : Dj n sb so ab ao mb lv cb tb) (hn : 0 < n) (hf : Fr w w' (OnlyB tb)) (ht : RdI w' tb 0 .i32 (fun c => (g c : Nat)) k) (hz : Fz w' tb) : Mi n k S B sb so ks ab ao mb lv lo cb tb w' sa g :=
  ⟨h.s.fr hf (fun i _ e => d.ts e.symm), h.a.fr hf (fun i _ e => d.ta e.symm), h.m.fr hf (fun i _ e => d.tm e.symm), h.b.fr hf (fun e => d.tl e.symm) (fun e => d.tl e.symm), h.c.fr hf (fun i _ e => d.tc e.symm), ht, h.fa.fr (World.block_lt_of_cell? _ _ (h.a 0 hn)) hf, hz⟩
end

/-- What 'induce' may turn. -/
def XI (n ab ao tb : Nat) : Nat → Nat → Prop := fun k o => (k = ab ∧ ao ≤ o ∧ o < ao + n) ∨ k = tb


set_option maxHeartbeats 4000000 in
set_option maxRecDepth 20000 in
theorem induce_b (n k : Nat) (hn0 : 0 < n) (hn : n ≤ 65536) (hk : k ≤ 65536) (S : Nat → Nat) (B : Nat → Bool) (r0 : Nat → Nat) (hSk : ∀ i, i < n → S i < k) (sb so scap ab ao acap mb lv lo cb tb : Nat) (w : World) (sa : Nat → Int) (a0 : Nat → Nat)
    (hM : Mi n k S B sb so .u8 ab ao mb lv lo cb tb w sa a0) (d : Dj n sb so ab ao mb lv cb tb) (hty : TypeOk n S B) (hR : R0Ok n S B r0) (hs0 : ∀ p, LMS n B p → sa (r0 p) = p) (ho : ∀ t, t < n → sa t = -1 ∨ ∃ p, LMS n B p ∧ r0 p = t) :
    Calls Try.prog 20 #[.slice (some ⟨sb, so, none⟩) n scap, .slice (some ⟨ab, ao, none⟩) n acap, .slice (some ⟨mb, 0, none⟩) n n, .pointer (some ⟨lv, lo, none⟩)] w fun e w' =>
      e = .returned (.tuple #[]) ∧ ∃ sa' a', Mi n k S B sb so .u8 ab ao mb lv lo cb tb w' sa' a' ∧ Sorted n (KS n S B r0) sa' ∧ Fr w w' (XI n ab ao tb) := by
  go_enter Try.func20, Try.ntmps20
  go_wp2_with fail
  refine (set_heads n k hn hk S lv lo cb tb _ w hM.b hM.c hM.t hM.ft (Ne.symm d.tl) (Ne.symm d.tc)).mono ?_
  rintro e w1 ⟨rfl, hT1, hF1, hFr1⟩
  have hM1 := hM.frT d hn0 hFr1 hT1 hF1
  have X1 : Fr w w1 (XI n ab ao tb) := hFr1.mono (fun _ _ _ h => .inr h)
  obtain ⟨hb0, hI0⟩ := invL_start hty hR hn0 (at_ := hd n S) (fun _ => rfl) hs0 ho
  have hc0 := hM1.sAt (i := n - 1) (by omega)
  have hSl := hSk (n - 1) (by omega)
  clear hM hT1 hF1 hFr1 hs0 ho
  obtain ⟨cl, hcl⟩ : ∃ cl, S (n - 1) = cl := ⟨_, rfl⟩
  rw [hcl] at hc0 hSl hI0 hb0
  have HCL := hide hcl
  clear hcl
  have hB1 := hM1.b.t
  have hT1 := hM1.tAt hSl
  have hA1 := hM1.aAt hb0
  obtain ⟨h0, hh0⟩ : ∃ h0, hd n S cl = h0 := ⟨_, rfl⟩
  rw [hh0] at hT1 hA1 hb0 hI0
  have HH0 := hide hh0
  clear hh0
  have f1 := hM1.fa (ao + h0)
  have f2 := hM1.ft cl
  have dta := d.ta
  have dal := d.al
  have dtl := d.tl
  have hM2 := (hM1.setA d hb0 ((n - 1 : Nat) : Int)).setT d hSl (h0 + 1)
  have X2 : Fr w ((w1.setCell ⟨ab, ao + h0, none⟩ (.int .i32 ((n - 1 : Nat) : Int))).setCell ⟨tb, cl, none⟩ (.int .i32 ((h0 + 1 : Nat) : Int))) (XI n ab ao tb) := (X1.setCell _ (fun _ => .inl ⟨rfl, by omega, by omega⟩)).setCell _ (fun _ => .inr rfl)
  have ec1 : (((n - 1 : Nat) : Int)) = (n : Int) - 1 := by omega
  have ec2 : (((h0 + 1 : Nat) : Int)) = (h0 : Int) + 1 := by omega
  rw [ec1, ec2] at hM2 X2
  rw [ec1] at hI0
  clear ec1 ec2
  go_wp2_with fail
  clear hc0 hB1 hT1 hA1 f1 f2
  generalize (w1.setCell ⟨ab, ao + h0, none⟩ (.int .i32 ((n : Int) - 1))).setCell ⟨tb, cl, none⟩ (.int .i32 ((h0 : Int) + 1)) = w2 at *
  go_loopw [45] (fun iv wr => ∃ (i : Nat) (sa : Nat → Int) (at_ : Nat → Nat), i ≤ n ∧ iv = .int .i64 i ∧ Mi n k S B sb so .u8 ab ao mb lv lo cb tb wr sa at_ ∧ InvL n S B r0 i sa at_ ∧ Fr w wr (XI n ab ao tb)) (fun i _ => n - (intOf i).toNat)
  case atStart => exact ⟨0, _, _, Nat.zero_le _, rfl, hM2, hI0, X2⟩
  case round =>
    clear hM2 hI0 X2 hM1 X1 hb0
    obtain ⟨i, sa, at_, hi, rfl, hM, hI, hX⟩ := hrel
    by_cases hlt : i < n
    · have c1 := hM.aAt hlt
      rcases invL_at hty hR hI hlt with ⟨hv, hno⟩ | ⟨q, hv, hq, hqX, hpq⟩
      · rw [hv] at c1
        have HI' := hide (invL_skip hI (fun x hx hb => hno (x + 1) (inX_succ hx hb)))
        clear hI hno hv
        go_wp2_with fail
        go_roundw
        case rel => exact ⟨i + 1, sa, at_, by omega, by go_num, hM, HI'.out, hX⟩
        case measure => simp [intOf]; omega
      · rw [hv] at c1
        have hqX' : InX n B q := .inr ⟨hq, hqX⟩
        by_cases hq0 : q = 0
        · have HI' := hide (invL_skip hI (fun x hx hb e => by
            have := px_inj hR (inX_succ hx hb) hqX' (e.trans hpq.symm)
            omega))
          have hj : ((q : Int) - 1) < 0 := by omega
          clear hI hv hqX hpq hqX' hq0
          go_wp2_with fail
          go_roundw
          case rel => exact ⟨i + 1, sa, at_, by omega, by go_num, hM, HI'.out, hX⟩
          case measure => simp [intOf]; omega
        · obtain ⟨j, rfl⟩ : ∃ j, q = j + 1 := ⟨q - 1, by omega⟩
          have ej : (((j + 1 : Nat)) : Int) = (j : Int) + 1 := by omega
          rw [ej] at c1
          have cm := hM.mAt (i := j) (by omega)
          cases hbj : B j with
          | true =>
            rw [hbj] at cm
            have HI' := hide (invL_skip hI (fun x hx hb e => by
              have := px_inj hR (inX_succ hx hb) hqX' (e.trans hpq.symm)
              obtain rfl : x = j := by omega
              rw [hbj] at hb; cases hb))
            clear hI hv hqX hpq hqX' hq0 hbj
            go_wp2_with fail
            go_roundw
            case rel => exact ⟨i + 1, sa, at_, by omega, by go_num, hM, HI'.out, hX⟩
            case measure => simp [intOf]; omega
          | false =>
            rw [hbj] at cm
            obtain ⟨_, hat, hI'⟩ := invL_put hty hR hI (show j < n by omega) hbj hpq
            have hSj := hSk j (by omega)
            have cs := hM.sAt (i := j) (by omega)
            have ctt := hM.tAt hSj
            have ca := hM.aAt hat
            have cb2 := hM.b.t
            obtain ⟨c, hc⟩ : ∃ c, S j = c := ⟨_, rfl⟩
            rw [hc] at hat hI' hSj cs ctt ca
            obtain ⟨t0, ht0⟩ : ∃ t0, at_ c = t0 := ⟨_, rfl⟩
            rw [ht0] at hat hI' ctt ca
            have f1 := hM.fa (ao + t0)
            have HI' := hide hI'
            have hMa := (hM.setA d hat (j : Int)).drew
            have Xa : Fr w (wr.setCell ⟨ab, ao + t0, none⟩ (.int .i32 (j : Int))).drew (XI n ab ao tb) := (hX.setCell _ (fun _ => .inl ⟨rfl, by omega, by omega⟩)).drew
            clear hI hI' hv hqX hpq hqX' hq0 hbj ej
            have i1 : (0 : Int) ≤ (j : Int) := by omega
            have i2 : (j : Int) < (n : Int) := by omega
            have i3 : (c : Int) < (k : Int) := by omega
            have i4 : (t0 : Int) < (n : Int) := by omega
            have HC := hide hc
            have HT0 := hide ht0
            clear hc ht0
            go_wp2_with fail
            go_region
            go_wp2_with fail
            clear cs ctt ca cb2 f1 c1 cm hM hX
            have cs := hMa.sAt (i := j) (by omega)
            have ctt := hMa.tAt hSj
            have cb2 := hMa.b.t
            have f2 := hMa.ft c
            rw [HC.out] at cs
            rw [HT0.out] at ctt
            generalize (wr.setCell ⟨ab, ao + t0, none⟩ (.int .i32 (j : Int))).drew = w5 at *
            have hM' := (hMa.setT d hSj (t0 + 1)).drew
            have X' : Fr w (w5.setCell ⟨tb, c, none⟩ (.int .i32 ((t0 + 1 : Nat) : Int))).drew (XI n ab ao tb) := (Xa.setCell _ (fun _ => .inr rfl)).drew
            have ec2 : (((t0 + 1 : Nat) : Int)) = (t0 : Int) + 1 := by omega
            rw [ec2] at hM' X'
            clear ec2 hMa Xa
            go_region
            go_wp2_with fail
            go_roundw
            case rel => exact ⟨i + 1, _, _, by omega, by go_num, hM', HI'.out, X'⟩
            case measure => simp [intOf]; omega
    · obtain rfl : i = n := by omega
      have hIn := hide hI
      clear hI
      go_wp2_with fail
      refine (set_tails i k hn hk S lv lo cb tb _ wr hM.b hM.c hM.t hM.ft (Ne.symm d.tl) (Ne.symm d.tc)).mono ?_
      rintro e w6 ⟨rfl, hT6, hF6, hFr6⟩
      have hM6 := hM.frT d hn0 hFr6 hT6 hF6
      have X6 : Fr w w6 (XI i ab ao tb) := hX.trans (hFr6.mono (fun _ _ _ h => .inr h))
      have hS0 := invS_start hty hR hIn.out (at_ := tl i S) (fun _ => rfl)
      clear hM hT6 hF6 hFr6 hX hIn
      go_wp2_with fail
      go_loopw [12] (fun iv wr => ∃ (t : Nat) (sa : Nat → Int) (at_ : Nat → Nat), t ≤ i ∧ iv = .int .i64 ((t : Int) - 1) ∧ Mi i k S B sb so .u8 ab ao mb lv lo cb tb wr sa at_ ∧ InvS i S B r0 t sa at_ ∧ Fr w wr (XI i ab ao tb)) (fun t _ => (intOf t + 1).toNat)
      case atStart => exact ⟨i, _, _, Nat.le_refl _, rfl, hM6, hS0, X6⟩
      case round =>
        clear hM6 hS0 X6
        obtain ⟨t, sa, at_, ht, rfl, hM, hI, hX⟩ := hrel
        by_cases ht0 : t = 0
        · subst ht0
          have hdone := invS_done hty hR hI
          go_wp2_with fail
          go_end0
          exact ⟨rfl, sa, at_, hM, hdone, hX⟩
        · obtain ⟨p, rfl⟩ : ∃ p, t = p + 1 := ⟨t - 1, by omega⟩
          have ep : (((p + 1 : Nat)) : Int) - 1 = (p : Int) := by omega
          rw [ep]
          have hp : p < i := by omega
          have c1 := hM.aAt hp
          obtain ⟨q, hv, hq, hpq⟩ := invS_at hty hR hI hp
          rw [hv] at c1
          by_cases hq0 : q = 0
          · have HI' := hide (invS_skip hI (fun x hx hb e => by
              have := pf_inj hty hR (hty.slt hx hb) hq (e.trans hpq.symm)
              omega))
            have hj : ((q : Int) - 1) < 0 := by omega
            clear hI hv hpq hq0
            go_wp2_with fail
            go_roundw
            case rel => exact ⟨p, sa, at_, by omega, rfl, hM, HI'.out, hX⟩
            case measure => first | (simp [intOf]; done) | (simp [intOf]; omega)
          · obtain ⟨j, rfl⟩ : ∃ j, q = j + 1 := ⟨q - 1, by omega⟩
            have ej : (((j + 1 : Nat)) : Int) = (j : Int) + 1 := by omega
            rw [ej] at c1
            have cm := hM.mAt (i := j) (by omega)
            cases hbj : B j with
            | false =>
              rw [hbj] at cm
              have HI' := hide (invS_skip hI (fun x hx hb e => by
                have := pf_inj hty hR (hty.slt hx hb) hq (e.trans hpq.symm)
                obtain rfl : x = j := by omega
                rw [hbj] at hb; cases hb))
              clear hI hv hpq hq0 hbj
              go_wp2_with fail
              go_roundw
              case rel => exact ⟨p, sa, at_, by omega, rfl, hM, HI'.out, hX⟩
              case measure => first | (simp [intOf]; done) | (simp [intOf]; omega)
            | true =>
              rw [hbj] at cm
              obtain ⟨hat1, hat, hI'⟩ := invS_put hty hR hI (show j < i by omega) hbj hpq
              have hSj := hSk j (by omega)
              have cs := hM.sAt (i := j) (by omega)
              have ctt := hM.tAt hSj
              have cb2 := hM.b.t
              obtain ⟨c, hc⟩ : ∃ c, S j = c := ⟨_, rfl⟩
              obtain ⟨t0, ht0'⟩ : ∃ t0, pf i S B r0 j = t0 := ⟨_, rfl⟩
              rw [ht0'] at hat hat1
              rw [hat1, Nat.add_sub_cancel] at hI'
              rw [hat1] at ctt
              rw [hc] at hI' hSj cs ctt
              have HI' := hide hI'
              have f2 := hM.ft c
              have hMa := (hM.setT d hSj t0).drew
              have Xa : Fr w (wr.setCell ⟨tb, c, none⟩ (.int .i32 (t0 : Int))).drew (XI i ab ao tb) := (hX.setCell _ (fun _ => .inr rfl)).drew
              have HC := hide hc
              clear hI hI' hv hpq hq0 hbj ej hc ht0' hat1
              have i1 : (0 : Int) ≤ (j : Int) := by omega
              have i2 : (j : Int) < (i : Int) := by omega
              have i3 : (c : Int) < (k : Int) := by omega
              have i4 : (t0 : Int) < (i : Int) := by omega
              have ec : (((t0 + 1 : Nat)) : Int) = (t0 : Int) + 1 := by omega
              rw [ec] at ctt
              clear ec
              go_wp2_with fail
              go_region
              go_wp2_with fail
              clear cs ctt cb2 f2 c1 cm hM hX
              have cs := hMa.sAt (i := j) (by omega)
              have ctt := hMa.tAt hSj
              rw [upd_same] at ctt
              have ca := hMa.aAt hat
              have cb2 := hMa.b.t
              have f1 := hMa.fa (ao + t0)
              rw [HC.out] at cs
              generalize (wr.setCell ⟨tb, c, none⟩ (.int .i32 (t0 : Int))).drew = w5 at *
              have hM' := (hMa.setA d hat (j : Int)).drew
              have X' : Fr w (w5.setCell ⟨ab, ao + t0, none⟩ (.int .i32 (j : Int))).drew (XI i ab ao tb) := (Xa.setCell _ (fun _ => .inl ⟨rfl, by omega, by omega⟩)).drew
              clear hMa Xa
              go_region
              go_wp2_with fail
              go_roundw
              case rel => exact ⟨p, _, _, by omega, rfl, hM', HI'.out, X'⟩
              case measure => first | (simp [intOf]; done) | (simp [intOf]; omega)

set_option maxHeartbeats 4000000 in
set_option maxRecDepth 20000 in
theorem induce_i (n k : Nat) (hn0 : 0 < n) (hn : n ≤ 65536) (hk : k ≤ 65536) (S : Nat → Nat) (B : Nat → Bool) (r0 : Nat → Nat) (hSk : ∀ i, i < n → S i < k) (sb so scap ab ao acap mb lv lo cb tb : Nat) (w : World) (sa : Nat → Int) (a0 : Nat → Nat)
    (hM : Mi n k S B sb so .i32 ab ao mb lv lo cb tb w sa a0) (d : Dj n sb so ab ao mb lv cb tb) (hty : TypeOk n S B) (hR : R0Ok n S B r0) (hs0 : ∀ p, LMS n B p → sa (r0 p) = p) (ho : ∀ t, t < n → sa t = -1 ∨ ∃ p, LMS n B p ∧ r0 p = t) :
    Calls Try.prog 26 #[.slice (some ⟨sb, so, none⟩) n scap, .slice (some ⟨ab, ao, none⟩) n acap, .slice (some ⟨mb, 0, none⟩) n n, .pointer (some ⟨lv, lo, none⟩)] w fun e w' =>
      e = .returned (.tuple #[]) ∧ ∃ sa' a', Mi n k S B sb so .i32 ab ao mb lv lo cb tb w' sa' a' ∧ Sorted n (KS n S B r0) sa' ∧ Fr w w' (XI n ab ao tb) := by
  go_enter Try.func26, Try.ntmps26
  go_wp2_with fail
  refine (set_heads n k hn hk S lv lo cb tb _ w hM.b hM.c hM.t hM.ft (Ne.symm d.tl) (Ne.symm d.tc)).mono ?_
  rintro e w1 ⟨rfl, hT1, hF1, hFr1⟩
  have hM1 := hM.frT d hn0 hFr1 hT1 hF1
  have X1 : Fr w w1 (XI n ab ao tb) := hFr1.mono (fun _ _ _ h => .inr h)
  obtain ⟨hb0, hI0⟩ := invL_start hty hR hn0 (at_ := hd n S) (fun _ => rfl) hs0 ho
  have hc0 := hM1.sAt (i := n - 1) (by omega)
  have hSl := hSk (n - 1) (by omega)
  clear hM hT1 hF1 hFr1 hs0 ho
  obtain ⟨cl, hcl⟩ : ∃ cl, S (n - 1) = cl := ⟨_, rfl⟩
  rw [hcl] at hc0 hSl hI0 hb0
  have HCL := hide hcl
  clear hcl
  have hB1 := hM1.b.t
  have hT1 := hM1.tAt hSl
  have hA1 := hM1.aAt hb0
  obtain ⟨h0, hh0⟩ : ∃ h0, hd n S cl = h0 := ⟨_, rfl⟩
  rw [hh0] at hT1 hA1 hb0 hI0
  have HH0 := hide hh0
  clear hh0
  have f1 := hM1.fa (ao + h0)
  have f2 := hM1.ft cl
  have dta := d.ta
  have dal := d.al
  have dtl := d.tl
  have hM2 := (hM1.setA d hb0 ((n - 1 : Nat) : Int)).setT d hSl (h0 + 1)
  have X2 : Fr w ((w1.setCell ⟨ab, ao + h0, none⟩ (.int .i32 ((n - 1 : Nat) : Int))).setCell ⟨tb, cl, none⟩ (.int .i32 ((h0 + 1 : Nat) : Int))) (XI n ab ao tb) := (X1.setCell _ (fun _ => .inl ⟨rfl, by omega, by omega⟩)).setCell _ (fun _ => .inr rfl)
  have ec1 : (((n - 1 : Nat) : Int)) = (n : Int) - 1 := by omega
  have ec2 : (((h0 + 1 : Nat) : Int)) = (h0 : Int) + 1 := by omega
  rw [ec1, ec2] at hM2 X2
  rw [ec1] at hI0
  clear ec1 ec2
  go_wp2_with fail
  clear hc0 hB1 hT1 hA1 f1 f2
  generalize (w1.setCell ⟨ab, ao + h0, none⟩ (.int .i32 ((n : Int) - 1))).setCell ⟨tb, cl, none⟩ (.int .i32 ((h0 : Int) + 1)) = w2 at *
  go_loopw [45] (fun iv wr => ∃ (i : Nat) (sa : Nat → Int) (at_ : Nat → Nat), i ≤ n ∧ iv = .int .i64 i ∧ Mi n k S B sb so .i32 ab ao mb lv lo cb tb wr sa at_ ∧ InvL n S B r0 i sa at_ ∧ Fr w wr (XI n ab ao tb)) (fun i _ => n - (intOf i).toNat)
  case atStart => exact ⟨0, _, _, Nat.zero_le _, rfl, hM2, hI0, X2⟩
  case round =>
    clear hM2 hI0 X2 hM1 X1 hb0
    obtain ⟨i, sa, at_, hi, rfl, hM, hI, hX⟩ := hrel
    by_cases hlt : i < n
    · have c1 := hM.aAt hlt
      rcases invL_at hty hR hI hlt with ⟨hv, hno⟩ | ⟨q, hv, hq, hqX, hpq⟩
      · rw [hv] at c1
        have HI' := hide (invL_skip hI (fun x hx hb => hno (x + 1) (inX_succ hx hb)))
        clear hI hno hv
        go_wp2_with fail
        go_roundw
        case rel => exact ⟨i + 1, sa, at_, by omega, by go_num, hM, HI'.out, hX⟩
        case measure => simp [intOf]; omega
      · rw [hv] at c1
        have hqX' : InX n B q := .inr ⟨hq, hqX⟩
        by_cases hq0 : q = 0
        · have HI' := hide (invL_skip hI (fun x hx hb e => by
            have := px_inj hR (inX_succ hx hb) hqX' (e.trans hpq.symm)
            omega))
          have hj : ((q : Int) - 1) < 0 := by omega
          clear hI hv hqX hpq hqX' hq0
          go_wp2_with fail
          go_roundw
          case rel => exact ⟨i + 1, sa, at_, by omega, by go_num, hM, HI'.out, hX⟩
          case measure => simp [intOf]; omega
        · obtain ⟨j, rfl⟩ : ∃ j, q = j + 1 := ⟨q - 1, by omega⟩
          have ej : (((j + 1 : Nat)) : Int) = (j : Int) + 1 := by omega
          rw [ej] at c1
          have cm := hM.mAt (i := j) (by omega)
          cases hbj : B j with
          | true =>
            rw [hbj] at cm
            have HI' := hide (invL_skip hI (fun x hx hb e => by
              have := px_inj hR (inX_succ hx hb) hqX' (e.trans hpq.symm)
              obtain rfl : x = j := by omega
              rw [hbj] at hb; cases hb))
            clear hI hv hqX hpq hqX' hq0 hbj
            go_wp2_with fail
            go_roundw
            case rel => exact ⟨i + 1, sa, at_, by omega, by go_num, hM, HI'.out, hX⟩
            case measure => simp [intOf]; omega
          | false =>
            rw [hbj] at cm
            obtain ⟨_, hat, hI'⟩ := invL_put hty hR hI (show j < n by omega) hbj hpq
            have hSj := hSk j (by omega)
            have cs := hM.sAt (i := j) (by omega)
            have ctt := hM.tAt hSj
            have ca := hM.aAt hat
            have cb2 := hM.b.t
            obtain ⟨c, hc⟩ : ∃ c, S j = c := ⟨_, rfl⟩
            rw [hc] at hat hI' hSj cs ctt ca
            obtain ⟨t0, ht0⟩ : ∃ t0, at_ c = t0 := ⟨_, rfl⟩
            rw [ht0] at hat hI' ctt ca
            have f1 := hM.fa (ao + t0)
            have HI' := hide hI'
            have hMa := (hM.setA d hat (j : Int)).drew
            have Xa : Fr w (wr.setCell ⟨ab, ao + t0, none⟩ (.int .i32 (j : Int))).drew (XI n ab ao tb) := (hX.setCell _ (fun _ => .inl ⟨rfl, by omega, by omega⟩)).drew
            clear hI hI' hv hqX hpq hqX' hq0 hbj ej
            have i1 : (0 : Int) ≤ (j : Int) := by omega
            have i2 : (j : Int) < (n : Int) := by omega
            have i3 : (c : Int) < (k : Int) := by omega
            have i4 : (t0 : Int) < (n : Int) := by omega
            have HC := hide hc
            have HT0 := hide ht0
            clear hc ht0
            go_wp2_with fail
            go_region
            go_wp2_with fail
            clear cs ctt ca cb2 f1 c1 cm hM hX
            have cs := hMa.sAt (i := j) (by omega)
            have ctt := hMa.tAt hSj
            have cb2 := hMa.b.t
            have f2 := hMa.ft c
            rw [HC.out] at cs
            rw [HT0.out] at ctt
            generalize (wr.setCell ⟨ab, ao + t0, none⟩ (.int .i32 (j : Int))).drew = w5 at *
            have hM' := (hMa.setT d hSj (t0 + 1)).drew
            have X' : Fr w (w5.setCell ⟨tb, c, none⟩ (.int .i32 ((t0 + 1 : Nat) : Int))).drew (XI n ab ao tb) := (Xa.setCell _ (fun _ => .inr rfl)).drew
            have ec2 : (((t0 + 1 : Nat) : Int)) = (t0 : Int) + 1 := by omega
            rw [ec2] at hM' X'
            clear ec2 hMa Xa
            go_region
            go_wp2_with fail
            go_roundw
            case rel => exact ⟨i + 1, _, _, by omega, by go_num, hM', HI'.out, X'⟩
            case measure => simp [intOf]; omega
    · obtain rfl : i = n := by omega
      have hIn := hide hI
      clear hI
      go_wp2_with fail
      refine (set_tails i k hn hk S lv lo cb tb _ wr hM.b hM.c hM.t hM.ft (Ne.symm d.tl) (Ne.symm d.tc)).mono ?_
      rintro e w6 ⟨rfl, hT6, hF6, hFr6⟩
      have hM6 := hM.frT d hn0 hFr6 hT6 hF6
      have X6 : Fr w w6 (XI i ab ao tb) := hX.trans (hFr6.mono (fun _ _ _ h => .inr h))
      have hS0 := invS_start hty hR hIn.out (at_ := tl i S) (fun _ => rfl)
      clear hM hT6 hF6 hFr6 hX hIn
      go_wp2_with fail
      go_loopw [12] (fun iv wr => ∃ (t : Nat) (sa : Nat → Int) (at_ : Nat → Nat), t ≤ i ∧ iv = .int .i64 ((t : Int) - 1) ∧ Mi i k S B sb so .i32 ab ao mb lv lo cb tb wr sa at_ ∧ InvS i S B r0 t sa at_ ∧ Fr w wr (XI i ab ao tb)) (fun t _ => (intOf t + 1).toNat)
      case atStart => exact ⟨i, _, _, Nat.le_refl _, rfl, hM6, hS0, X6⟩
      case round =>
        clear hM6 hS0 X6
        obtain ⟨t, sa, at_, ht, rfl, hM, hI, hX⟩ := hrel
        by_cases ht0 : t = 0
        · subst ht0
          have hdone := invS_done hty hR hI
          go_wp2_with fail
          go_end0
          exact ⟨rfl, sa, at_, hM, hdone, hX⟩
        · obtain ⟨p, rfl⟩ : ∃ p, t = p + 1 := ⟨t - 1, by omega⟩
          have ep : (((p + 1 : Nat)) : Int) - 1 = (p : Int) := by omega
          rw [ep]
          have hp : p < i := by omega
          have c1 := hM.aAt hp
          obtain ⟨q, hv, hq, hpq⟩ := invS_at hty hR hI hp
          rw [hv] at c1
          by_cases hq0 : q = 0
          · have HI' := hide (invS_skip hI (fun x hx hb e => by
              have := pf_inj hty hR (hty.slt hx hb) hq (e.trans hpq.symm)
              omega))
            have hj : ((q : Int) - 1) < 0 := by omega
            clear hI hv hpq hq0
            go_wp2_with fail
            go_roundw
            case rel => exact ⟨p, sa, at_, by omega, rfl, hM, HI'.out, hX⟩
            case measure => first | (simp [intOf]; done) | (simp [intOf]; omega)
          · obtain ⟨j, rfl⟩ : ∃ j, q = j + 1 := ⟨q - 1, by omega⟩
            have ej : (((j + 1 : Nat)) : Int) = (j : Int) + 1 := by omega
            rw [ej] at c1
            have cm := hM.mAt (i := j) (by omega)
            cases hbj : B j with
            | false =>
              rw [hbj] at cm
              have HI' := hide (invS_skip hI (fun x hx hb e => by
                have := pf_inj hty hR (hty.slt hx hb) hq (e.trans hpq.symm)
                obtain rfl : x = j := by omega
                rw [hbj] at hb; cases hb))
              clear hI hv hpq hq0 hbj
              go_wp2_with fail
              go_roundw
              case rel => exact ⟨p, sa, at_, by omega, rfl, hM, HI'.out, hX⟩
              case measure => first | (simp [intOf]; done) | (simp [intOf]; omega)
            | true =>
              rw [hbj] at cm
              obtain ⟨hat1, hat, hI'⟩ := invS_put hty hR hI (show j < i by omega) hbj hpq
              have hSj := hSk j (by omega)
              have cs := hM.sAt (i := j) (by omega)
              have ctt := hM.tAt hSj
              have cb2 := hM.b.t
              obtain ⟨c, hc⟩ : ∃ c, S j = c := ⟨_, rfl⟩
              obtain ⟨t0, ht0'⟩ : ∃ t0, pf i S B r0 j = t0 := ⟨_, rfl⟩
              rw [ht0'] at hat hat1
              rw [hat1, Nat.add_sub_cancel] at hI'
              rw [hat1] at ctt
              rw [hc] at hI' hSj cs ctt
              have HI' := hide hI'
              have f2 := hM.ft c
              have hMa := (hM.setT d hSj t0).drew
              have Xa : Fr w (wr.setCell ⟨tb, c, none⟩ (.int .i32 (t0 : Int))).drew (XI i ab ao tb) := (hX.setCell _ (fun _ => .inr rfl)).drew
              have HC := hide hc
              clear hI hI' hv hpq hq0 hbj ej hc ht0' hat1
              have i1 : (0 : Int) ≤ (j : Int) := by omega
              have i2 : (j : Int) < (i : Int) := by omega
              have i3 : (c : Int) < (k : Int) := by omega
              have i4 : (t0 : Int) < (i : Int) := by omega
              have ec : (((t0 + 1 : Nat)) : Int) = (t0 : Int) + 1 := by omega
              rw [ec] at ctt
              clear ec
              go_wp2_with fail
              go_region
              go_wp2_with fail
              clear cs ctt cb2 f2 c1 cm hM hX
              have cs := hMa.sAt (i := j) (by omega)
              have ctt := hMa.tAt hSj
              rw [upd_same] at ctt
              have ca := hMa.aAt hat
              have cb2 := hMa.b.t
              have f1 := hMa.fa (ao + t0)
              rw [HC.out] at cs
              generalize (wr.setCell ⟨tb, c, none⟩ (.int .i32 (t0 : Int))).drew = w5 at *
              have hM' := (hMa.setA d hat (j : Int)).drew
              have X' : Fr w (w5.setCell ⟨ab, ao + t0, none⟩ (.int .i32 (j : Int))).drew (XI i ab ao tb) := (Xa.setCell _ (fun _ => .inl ⟨rfl, by omega, by omega⟩)).drew
              clear hMa Xa
              go_region
              go_wp2_with fail
              go_roundw
              case rel => exact ⟨p, _, _, by omega, rfl, hM', HI'.out, X'⟩
              case measure => first | (simp [intOf]; done) | (simp [intOf]; omega)
end Go.Proofs.Qxb6606046a
