import Derived.Test.Qxb6606046aV7
import Derived.Test.Qxb6606046aVA
import Derived.Deep.RegionWith
set_option linter.unusedVariables false
set_option linter.unusedSimpArgs false
namespace Go.Proofs.Qxb6606046a
open Go.RowKit

/-- What a transform may turn. -/
def XT (tb yb : Nat) : Nat → Nat → Prop := fun k _ => k = tb ∨ k = yb
structure TrPre (n : Nat) (S : Nat → Nat) (tb xb yb : Nat) (g : Nat → Int) (w : World) : Prop where
  n1 : 1 ≤ n
  n16 : n ≤ 65536
  sk : ∀ i, i < n → S i < 256
  x : RdI w xb 0 .u8 (fun i => (S i : Int)) n
  y : RdI w yb 0 .u8 g n
  fy : Fz w yb
  t0 : w.cell? ⟨tb, 0, none⟩ = some (.slice none 0 0)
  t1 : w.cell? ⟨tb, 1, none⟩ = some (.slice none 0 0)
  f0 : w.frozen? ⟨tb, 0, none⟩ = false
  f1 : w.frozen? ⟨tb, 1, none⟩ = false
  tx : tb ≠ xb
  ty : tb ≠ yb
  xy : xb ≠ yb
structure TrPost (n : Nat) (S : Nat → Nat) (tb xb yb : Nat) (w w' : World) (e : Ending) : Prop where
  ok : ∃ (P L : Nat → Nat) (i0 : Nat), e = .returned (.int .i64 ((i0 : Int) + 1)) ∧ Ps n S P ∧ i0 < n ∧ P i0 = 0 ∧ RdI w' yb 0 .u8 (fun i => (L i : Int)) n ∧ ∀ j, j < n → L j = S (lastM n P i0 j)
  fr : Fr w w' (XT tb yb)
/-- After the sort. -/
structure Tr (n : Nat) (S : Nat → Nat) (tb xb yb ab : Nat) (g : Nat → Int) (w wr : World) (sa : Nat → Int) : Prop where
  a : RdI wr ab 0 .i32 sa n
  sa : SA n S sa
  x : RdI wr xb 0 .u8 (fun i => (S i : Int)) n
  y : RdI wr yb 0 .u8 g n
  fy : Fz wr yb
  t0 : wr.cell? ⟨tb, 0, none⟩ = some (.slice (some ⟨ab, 0, none⟩) n n)
  fr : Fr w wr (XT tb yb)
  ge : w.heap.size ≤ ab
/-- Ahead of the sort. -/
structure Ts (n : Nat) (S : Nat → Nat) (tb xb yb ab : Nat) (g : Nat → Int) (w wr : World) : Prop where
  a : RdI wr ab 0 .i32 (fun _ => 0) n
  fa : Fz wr ab
  x : RdI wr xb 0 .u8 (fun i => (S i : Int)) n
  y : RdI wr yb 0 .u8 g n
  fy : Fz wr yb
  t0 : wr.cell? ⟨tb, 0, none⟩ = some (.slice (some ⟨ab, 0, none⟩) n n)
  t1 : wr.cell? ⟨tb, 1, none⟩ = some (.slice none 0 0)
  f1 : wr.frozen? ⟨tb, 1, none⟩ = false
  fr : Fr w wr (XT tb yb)
  ge : w.heap.size ≤ ab
  lt : ab < wr.heap.size
  ax : ab ≠ xb
  ay : ab ≠ yb
  at_ : ab ≠ tb
  yl : yb < wr.heap.size
section
variable {n : Nat} {S : Nat → Nat} {tb xb yb ab : Nat} {g : Nat → Int} {w w1 wr : World} {sa : Nat → Int}
theorem ts_of (h : TrPre n S tb xb yb g w) (hA : At w1 w.heap.size 21 (List.replicate n (.int .i32 0))) (hB : Below w.heap.size w w1) (hab : w.heap.size = ab) : Ts n S tb xb yb ab g w (w1.setCell ⟨tb, 0, none⟩ (.slice (some ⟨ab, 0, none⟩) n n)) ∧ w1.cell? ⟨tb, 0, none⟩ = some (.slice none 0 0) ∧ w1.frozen? ⟨tb, 0, none⟩ = false := by
  subst hab
  have hn := h.n1
  have hF := Fr.of_below hB XN
  have lt := World.block_lt_of_cell? _ _ h.t0
  have lx := World.block_lt_of_cell? _ _ (h.x 0 hn)
  have ly := World.block_lt_of_cell? _ _ (h.y 0 hn)
  simp only [] at lt lx ly
  have c0 := cell_fr h.t0 hF (fun e => e)
  have c1 := cell_fr h.t1 hF (fun e => e)
  have hG : Fr w1 (w1.setCell ⟨tb, 0, none⟩ (.slice (some ⟨w.heap.size, 0, none⟩) n n)) (fun k o => k = tb ∧ o = 0) := (Fr.refl _ _).setCell _ (fun _ => ⟨rfl, rfl⟩)
  have hz := hF.size
  refine ⟨⟨hA.rdI.fr hG (fun i _ e => by omega), hA.fz.set _ _, (h.x.fr hF (fun _ _ e => e)).fr hG (fun i _ e => h.tx e.1.symm), (h.y.fr hF (fun _ _ e => e)).fr hG (fun i _ e => h.ty e.1.symm), (h.fy.fr ly hF).set _ _, World.cell?_setCell_same _ _ _ c0, cell_fr c1 hG (fun e => by omega), ?_, (hF.mono (fun _ _ _ e => e.elim)).then hG (fun k o _ e => .inl e.1), Nat.le_refl _, ?_, by omega, by omega, by omega, ?_⟩, c0, ?_⟩
  · rw [World.frozen?_setCell, hF.frz tb 1 lt]; exact h.f1
  · have := hA.lt; simp; exact this
  · simp; omega
  · rw [hF.frz tb 0 lt]; exact h.f0
theorem Ts.drew (h : Ts n S tb xb yb ab g w wr) : Ts n S tb xb yb ab g w wr.drew := ⟨h.a, h.fa, h.x, h.y, h.fy, h.t0, h.t1, h.f1, h.fr.drew, h.ge, h.lt, h.ax, h.ay, h.at_, h.yl⟩
theorem Ts.pre (h : Ts n S tb xb yb ab g w wr) (hP : TrPre n S tb xb yb g w) (h2 : 2 ≤ n) : SortPre n 256 S xb 0 .u8 ab 0 tb 1 none 0 wr (fun _ => 0) :=
  ⟨h2, hP.n16, by omega, by omega, hP.sk, h.x, h.a, h.fa, h.t1, h.f1, .inl ⟨rfl, rfl, rfl⟩, fun e => (h.ax e.symm).elim, h.at_.symm, hP.tx, fun b off e => by cases e⟩
theorem Ts.post {w3 : World} (h : Ts n S tb xb yb ab g w wr) (hP : TrPre n S tb xb yb g w) (hp : SortPost n S ab 0 tb 1 none 0 wr w3) : ∃ sa, Tr n S tb xb yb ab g w w3 sa := by
  obtain ⟨sa, h1, h2⟩ := hp.a
  have hx : ∀ k o, k ≠ ab → (k = tb → o = 0) → ¬ XS n ab 0 tb 1 none 0 k o := by
    rintro k o g1 g2 (e | e | ⟨b, off, e, _⟩)
    · exact g1 e.1
    · have := g2 e.1; omega
    · cases e
  refine ⟨sa, h1, h2, h.x.fr hp.fr (fun i _ => hx _ _ h.ax.symm (fun e => (hP.tx e.symm).elim)), h.y.fr hp.fr (fun i _ => hx _ _ h.ay.symm (fun e => (hP.ty e.symm).elim)), h.fy.fr h.yl hp.fr, cell_fr h.t0 hp.fr (hx _ _ h.at_.symm (fun _ => rfl)), h.fr.then hp.fr (fun k o hk e => ?_), h.ge⟩
  rcases e with e | e | ⟨b, off, e, _⟩
  · have := h.ge; omega
  · exact .inl e.1
  · cases e
theorem Ts.post1 (h : Ts 1 S tb xb yb ab g w wr) (hP : TrPre 1 S tb xb yb g w) : Tr 1 S tb xb yb ab g w (wr.setCell ⟨ab, 0, none⟩ (.int .i32 0)) (upd (fun _ => 0) 0 0) :=
  ⟨h.a.set0 (by omega) 0, sa_one S (by rw [upd_same]), h.x.neb _ _ h.ax, h.y.neb _ _ h.ay, h.fy.set _ _, cell_neb h.t0 h.at_, h.fr.setCell _ (fun e => by have := h.ge; omega), h.ge⟩
end
set_option maxHeartbeats 4000000 in
set_option maxRecDepth 20000 in
theorem transform_ok (HS : ∀ n, SortSpec 16 .u8 n) (n : Nat) (S : Nat → Nat) (tb xb yb xc yc : Nat) (g : Nat → Int) (w : World) (hP : TrPre n S tb xb yb g w) :
    Calls Try.prog 13 #[.pointer (some ⟨tb, 0, none⟩), .slice (some ⟨xb, 0, none⟩) n xc, .slice (some ⟨yb, 0, none⟩) n yc] w fun e w' => TrPost n S tb xb yb w w' e := by
  have n1 := hP.n1
  have n16 := hP.n16
  have c0 := hP.t0
  go_enter Try.func13, Try.ntmps13
  go_wp2_with fail
  refine (grown_i n n1 n16 w).mono ?_
  rintro e w1 ⟨rfl, hsz, hA, hB⟩
  obtain ⟨ab, hab⟩ : ∃ ab, w.heap.size = ab := ⟨_, rfl⟩
  obtain ⟨hT, d0, f0⟩ := ts_of hP hA hB hab
  clear hA hB hsz c0
  rw [hab]
  go_upto_region 3 with fail
  clear d0 f0
  generalize w1.setCell ⟨tb, 0, none⟩ (.slice (some ⟨ab, 0, none⟩) n n) = w2 at *
  go_cut [] (fun wc => ∃ sa, Tr n S tb xb yb ab g w wc sa)
  case first =>
    have c0 := hT.t0
    by_cases hn1 : n = 1
    · subst hn1
      go_region_with (go_at_call 16; refine (sort_one S xb 0 _ ab 0 _ tb 1 _ _ hT.drew.a hT.drew.fa).mono ?_; rintro e w3 ⟨rfl, rfl⟩)
      all_goals
        go_wp2_with fail
        go_meet
        case rel => exact ⟨_, hT.drew.post1 hP⟩
    · go_region_with (go_at_call 16; refine (HS n 256 S xb 0 _ ab 0 n tb 1 none 0 _ _ (Nat.le_refl _) (hT.drew.pre hP (by omega))).mono ?_; rintro e w3 ⟨rfl, hpost⟩)
      all_goals
        go_wp2_with fail
        go_meet
        case rel => exact hT.drew.post hP hpost
  case rest =>
    clear hT
    obtain ⟨sa, hT⟩ := hcut
    obtain ⟨P, hPs, hPa⟩ := sa_fun hT.sa
    obtain ⟨i0, hi0, hi0P⟩ := hPs.on 0 (by omega)
    have HPS := hide (And.intro hPs hi0P)
    have hge := hT.ge
    have yl := World.block_lt_of_cell? _ _ (hP.y 0 n1)
    have xl := World.block_lt_of_cell? _ _ (hP.x 0 n1)
    try simp only [] at yl xl
    have hya : yb ≠ ab := by omega
    have hyt := hP.ty
    have hxy := hP.xy
    have cx := hT.x.at0 (i := n - 1) (by omega)
    have cy := hT.y.at0 (i := 0) (by omega)
    have fy := hT.fy 0
    try simp only [] at cx
    have ct0 := cell_neb (a := ⟨yb, 0, none⟩) (v := .int .u8 (S (n - 1) : Int)) hT.t0 (Ne.symm hyt)
    have hy1 := hT.y.set0 (i := 0) (by omega) (S (n - 1) : Int)
    have hF1 : Fr wc (wc.setCell ⟨yb, 0, none⟩ (.int .u8 (S (n - 1) : Int))) (OnlyB yb) := (Fr.refl _ _).setCell _ (fun _ => rfl)
    have hfz1 := hT.fy.set ⟨yb, 0, none⟩ (.int .u8 (S (n - 1) : Int))
    have wn : IntKind.i64.wrap ((n : Int) - 1) = ((n - 1 : Nat) : Int) := by rw [IntKind.wrap_i64]; omega
    have wn2 : (n : Int) - 1 = ((n - 1 : Nat) : Int) := by omega
    have in1 : ((n - 1 : Nat) : Int) < (n : Int) := by omega
    obtain ⟨v0, hv0⟩ : ∃ v0, S (n - 1) = v0 := ⟨_, rfl⟩
    rw [hv0] at cx ct0 hy1 hF1 hfz1
    clear hPs hi0P
    go_wp2_with fail
    clear cx cy fy wn wn2 in1
    generalize wc.setCell ⟨yb, 0, none⟩ (.int .u8 (v0 : Int)) = w4 at *
    go_loopw [8, 9, 44] (fun pv jv iv wr => ∃ (i j p : Nat) (f : Nat → Int), i ≤ n ∧ pv = .int .i64 p ∧ jv = .int .i64 j ∧ iv = .int .i64 i ∧ ((i ≤ i0 ∧ j = i + 1 ∧ p = 0) ∨ (i0 < i ∧ j = i ∧ p = i0 + 1)) ∧ RdI wr yb 0 .u8 f n ∧ Fz wr yb ∧ Fr wc wr (OnlyB yb) ∧ Hid (f 0 = v0 ∧ ∀ u, u < i → u ≠ i0 → f (ps i0 u) = S (P u - 1))) (fun _ _ i _ => n - (intOf i).toNat)
    case atStart => exact ⟨0, 1, 0, _, Nat.zero_le _, rfl, rfl, rfl, .inl ⟨Nat.zero_le _, rfl, rfl⟩, hy1, hfz1, hF1, by rw [upd_same], fun u hu => by omega⟩
    case round =>
      clear hy1 hfz1 hF1 ct0
      obtain ⟨i, j, p, f, hi, rfl, rfl, rfl, hjp, hy, hfz, hF, HF⟩ := hrel
      by_cases hlt : i < n
      · have c1 := (hT.a.fr hF (fun _ _ e => hya e.symm)).at0 hlt
        rw [hPa i hlt] at c1
        have i1 : (i : Int) < (n : Int) := by omega
        by_cases hie : i = i0
        · have hz : P i = 0 := by rw [hie]; exact HPS.out.2
          rw [hz, show ((0 : Nat) : Int) = 0 from rfl] at c1
          have HF' : Hid (f 0 = v0 ∧ ∀ u, u < i + 1 → u ≠ i0 → f (ps i0 u) = S (P u - 1)) := ⟨HF.out.1, fun u hu hne => HF.out.2 u (by omega) hne⟩
          have HJ : Hid (j = i + 1 ∧ i = i0) := ⟨by omega, hie⟩
          have hi2 : i + 1 ≤ n := hlt
          clear HF hz hie hjp hi
          go_wp2_with fail
          go_roundw
          case rel =>
            obtain ⟨e1, e2⟩ := HJ.out
            subst e1 e2
            exact ⟨i + 1, i + 1, i + 1, f, hi2, rfl, rfl, rfl, .inr ⟨by omega, rfl, rfl⟩, hy, hfz, hF, HF'⟩
          case measure => first | (simp [intOf]; done) | (simp [intOf]; omega)
        · have hnz : P i ≠ 0 := fun e => hie (HPS.out.1.inj i i0 hlt hi0 (by rw [e, HPS.out.2]))
          have hpn := HPS.out.1.lt i hlt
          obtain ⟨q, hq⟩ : ∃ q, P i = q + 1 := ⟨P i - 1, by omega⟩
          rw [hq] at c1 hpn
          have hjn : j < n ∧ ps i0 i = j := by unfold ps; split <;> omega
          have c2 := (hT.x.fr hF (fun _ _ e => hxy e)).at0 (i := q) (by omega)
          try simp only [] at c2
          have c3 := hy.at0 hjn.1
          have f3 := hfz j
          have hy2 := hy.set0 hjn.1 (S q : Int)
          have hfz2 := hfz.set ⟨yb, j, none⟩ (.int .u8 (S q : Int))
          have hF2 : Fr wc (wr.setCell ⟨yb, j, none⟩ (.int .u8 (S q : Int))) (OnlyB yb) := hF.setCell _ (fun _ => rfl)
          have HF' : Hid (upd f j (S q : Int) 0 = v0 ∧ ∀ u, u < i + 1 → u ≠ i0 → upd f j (S q : Int) (ps i0 u) = S (P u - 1)) := by
            have hj0 := (ps_lt hi0 hlt hie).2
            refine ⟨?_, fun u hu hne => ?_⟩
            · rw [upd_ne _ _ (by omega)]; exact HF.out.1
            · by_cases e : u = i
              · rw [e, hjn.2, upd_same, hq, Nat.add_sub_cancel]
              · rw [upd_ne _ _ (fun e2 => e (ps_inj hne hie (by rw [e2, hjn.2])))]
                exact HF.out.2 u (by omega) hne
          obtain ⟨hj1, hj2⟩ := hjn
          have hjp' : (i + 1 ≤ i0 ∧ j + 1 = i + 1 + 1 ∧ p = 0) ∨ (i0 < i + 1 ∧ j + 1 = i + 1 ∧ p = i0 + 1) := by omega
          clear HF hq hnz hj2 hjp hie hy hfz hF
          generalize S q = x at *
          have i2 : ¬ ((q + 1 : Nat) : Int) = 0 := by omega
          have i2b : (((q + 1 : Nat) : Int) == 0) = false := by simp; omega
          have i3 : (q : Int) < (n : Int) := by omega
          have i4 : (j : Int) < (n : Int) := by omega
          have wq : IntKind.i32.wrap (((q + 1 : Nat) : Int) - 1) = (q : Int) := by rw [IntKind.wrap_i32]; omega
          go_wp2_with fail
          go_roundw
          case rel => exact ⟨i + 1, j + 1, p, _, by omega, rfl, rfl, rfl, hjp', hy2, hfz2, hF2, HF'⟩
          case measure => first | (simp [intOf]; done) | (simp [intOf]; omega)
      · have hin : n = i := by omega
        subst hin
        have hp : p = i0 + 1 := by omega
        subst hp
        have hfin : TrPost n S tb xb yb w wr (.returned (.int .i64 ((i0 : Int) + 1))) := by
          refine ⟨⟨P, fun j => S (lastM n P i0 j), i0, rfl, HPS.out.1, hi0, HPS.out.2, hy.congr (fun j hj => ?_), fun j _ => rfl⟩, hT.fr.then hF (fun k o _ e => .inr e)⟩
          by_cases e : j = 0
          · rw [e, HF.out.1, ← hv0]; simp [lastM]
          · obtain ⟨a, ha1, ha2, rfl⟩ := ps_on hi0 hj e
            rw [HF.out.2 a ha1 ha2]
            show _ = ((S (lastM n P i0 (ps i0 a)) : Nat) : Int)
            rw [lastM_ps ha2]
        clear HF hjp hy hfz hF
        go_wp2_with fail
        go_ret
        exact hfin
set_option maxHeartbeats 1000000 in
theorem zz_transform (HS : ∀ n, SortSpec 16 .u8 n) (n : Nat) (S : Nat → Nat) (tb xb yb xc yc : Nat) (g : Nat → Int) (w : World) (hP : TrPre n S tb xb yb g w) :
    Calls Try.prog 8 #[.pointer (some ⟨tb, 0, none⟩), .slice (some ⟨xb, 0, none⟩) n xc, .slice (some ⟨yb, 0, none⟩) n yc] w fun e w' => TrPost n S tb xb yb w w' e := by
  go_enter Try.func8, Try.ntmps8
  go_wp2_with fail
  refine (transform_ok HS n S tb xb yb xc yc g w hP).mono ?_
  intro e w1 hq
  obtain ⟨P, L, i0, rfl, h⟩ := hq.ok
  go_wp2_with fail
  go_ret
  exact hq
end Go.Proofs.Qxb6606046a
