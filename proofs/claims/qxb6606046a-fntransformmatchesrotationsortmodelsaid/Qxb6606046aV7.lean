import Derived.Test.Qxb6606046aV6
set_option linter.unusedVariables false
set_option linter.unusedSimpArgs false
namespace Go.Proofs.Qxb6606046a
open Go.RowKit

/-- The working state: what is read, and what was turned since w5. -/
structure Mf (n k : Nat) (S : Nat → Nat) (B : Nat → Bool) (sb so : Nat) (ks : IntKind) (ab ao mb lv lo cb tb : Nat) (w5 w : World) (sa : Nat → Int) (at_ : Nat → Nat) : Prop where
  mi : Mi n k S B sb so ks ab ao mb lv lo cb tb w sa at_
  fr : Fr w5 w (XI n ab ao tb)
section
variable {n k : Nat} {S : Nat → Nat} {B : Nat → Bool} {sb so : Nat} {ks : IntKind} {ab ao mb lv lo cb tb : Nat} {w5 w : World} {sa : Nat → Int} {at_ : Nat → Nat}
theorem Mf.setO (h : Mf n k S B sb so ks ab ao mb lv lo cb tb w5 w sa at_) (d : Dj n sb so ab ao mb lv cb tb) {i o : Nat} (hi : i < n) (e : o = ao + i) (v : Int) : Mf n k S B sb so ks ab ao mb lv lo cb tb w5 (w.setCell ⟨ab, o, none⟩ (.int .i32 v)) (upd sa i v) at_ := by
  subst e
  exact ⟨h.mi.setA d hi v, h.fr.setCell _ (fun _ => .inl ⟨rfl, by omega, by omega⟩)⟩
theorem Mf.setA (h : Mf n k S B sb so ks ab ao mb lv lo cb tb w5 w sa at_) (d : Dj n sb so ab ao mb lv cb tb) {i : Nat} (hi : i < n) (v : Int) : Mf n k S B sb so ks ab ao mb lv lo cb tb w5 (w.setCell ⟨ab, ao + i, none⟩ (.int .i32 v)) (upd sa i v) at_ := h.setO d hi rfl v
theorem Mf.setT (h : Mf n k S B sb so ks ab ao mb lv lo cb tb w5 w sa at_) (d : Dj n sb so ab ao mb lv cb tb) {i : Nat} (hi : i < k) (v : Nat) : Mf n k S B sb so ks ab ao mb lv lo cb tb w5 (w.setCell ⟨tb, i, none⟩ (.int .i32 (v : Int))) sa (upd at_ i v) :=
  ⟨h.mi.setT d hi v, h.fr.setCell _ (fun _ => .inr rfl)⟩
theorem Mf.drewN (h : Mf n k S B sb so ks ab ao mb lv lo cb tb w5 w sa at_) (m : Nat) : Mf n k S B sb so ks ab ao mb lv lo cb tb w5 (w.drewN m) sa at_ := ⟨h.mi.drewN m, h.fr.drewN m⟩
theorem Mf.drew (h : Mf n k S B sb so ks ab ao mb lv lo cb tb w5 w sa at_) : Mf n k S B sb so ks ab ao mb lv lo cb tb w5 w.drew sa at_ := ⟨h.mi.drew, h.fr.drew⟩
theorem Mf.frT {w' : World} {g : Nat → Nat} (h : Mf n k S B sb so ks ab ao mb lv lo cb tb w5 w sa at_) (d : Dj n sb so ab ao mb lv cb tb) (hn : 0 < n) (ht : RdI w' tb 0 .i32 (fun c => (g c : Nat)) k) (hz : Fz w' tb) (hf : Fr w w' (OnlyB tb)) : Mf n k S B sb so ks ab ao mb lv lo cb tb w5 w' sa g :=
  ⟨h.mi.frT d hn hf ht hz, h.fr.trans (hf.mono (fun _ _ _ e => .inr e))⟩
theorem Mf.step {w' : World} {sa' : Nat → Int} {a' : Nat → Nat} (h : Mf n k S B sb so ks ab ao mb lv lo cb tb w5 w sa at_) (hm : Mi n k S B sb so ks ab ao mb lv lo cb tb w' sa' a') (hf : Fr w w' (XI n ab ao tb)) : Mf n k S B sb so ks ab ao mb lv lo cb tb w5 w' sa' a' := ⟨hm, h.fr.trans hf⟩
theorem Mi.frN {w' : World} (h : Mi n k S B sb so ks ab ao mb lv lo cb tb w sa at_) (hn : 0 < n) (hk : 0 < k) (hf : Fr w w' XN) : Mi n k S B sb so ks ab ao mb lv lo cb tb w' sa at_ :=
  ⟨h.s.fr hf (fun _ _ e => e), h.a.fr hf (fun _ _ e => e), h.m.fr hf (fun _ _ e => e), h.b.fr hf (fun e => e) (fun e => e), h.c.fr hf (fun _ _ e => e), h.t.fr hf (fun _ _ e => e), h.fa.fr (World.block_lt_of_cell? _ _ (h.a 0 hn)) hf, h.ft.fr (World.block_lt_of_cell? _ _ (h.t 0 hk)) hf⟩
theorem Mf.frN {w' : World} (h : Mf n k S B sb so ks ab ao mb lv lo cb tb w5 w sa at_) (hn : 0 < n) (hk : 0 < k) (hf : Fr w w' XN) : Mf n k S B sb so ks ab ao mb lv lo cb tb w5 w' sa at_ :=
  h.step (h.mi.frN hn hk hf) (hf.mono (fun _ _ _ e => e.elim))
theorem Mf.congr {g : Nat → Int} (h : Mf n k S B sb so ks ab ao mb lv lo cb tb w5 w sa at_) (hg : ∀ i, i < n → sa i = g i) : Mf n k S B sb so ks ab ao mb lv lo cb tb w5 w g at_ :=
  ⟨⟨h.mi.s, h.mi.a.congr hg, h.mi.m, h.mi.b, h.mi.c, h.mi.t, h.mi.fa, h.mi.ft⟩, h.fr⟩
end

/-- Where the new tables lie. -/
structure Gt (w : World) (sb ab mb pl lb db gc gt : Nat) : Prop where
  g : w.heap.size ≤ gt
  p : gt ≠ pl
  d : gt ≠ db
  l : gt ≠ lb
  a : ab ≠ db
  ap : ab ≠ pl
  al : ab ≠ lb
  pd : pl ≠ db
  ml : mb ≠ lb
  mp : mb ≠ pl
  md : mb ≠ db
  cl : gc ≠ lb
  cp : gc ≠ pl
  cd : gc ≠ db
  sp : sb ≠ pl
  sd : sb ≠ db
  sl : sb ≠ lb
theorem mf_start {n k : Nat} {S : Nat → Nat} {sb so : Nat} {ks : IntKind} {ab ao pl po : Nat} {la : Option Addr} {lc : Nat} {w wr w5 : World} {sa : Nat → Int} {lb lo c db dlo dc mb gc gt : Nat} {B : Nat → Bool} (hP : SortPre n k S sb so ks ab ao pl po la lc w sa) (h4 : St4 n sb ab ao pl po la lc lb lo c db dlo dc mb B w wr) (hC : Cs n k S lb (lo + 1) gc gt wr w5) :
    Dj n sb so ab ao mb lb gc gt ∧ Mf n k S B sb so ks ab ao mb lb (lo + 1) gc gt w5 w5 sa (fun _ => 0) ∧ Ct n sb ab ao pl po la lc lb lo c db dlo dc w w5 ∧ Gt w sb ab mb pl lb db gc gt ∧ Hid (w5.cell? ⟨lb, lo, none⟩ = some (.slice (some ⟨mb, 0, none⟩) n n)) := by
  have n2 := hP.n2
  have la1 := World.block_lt_of_cell? _ _ (hP.a 0 (by omega))
  have ls1 := World.block_lt_of_cell? _ _ (hP.s 0 (by omega))
  have lp1 := World.block_lt_of_cell? _ _ hP.p
  have lm1 := World.block_lt_of_cell? _ _ (h4.m 0 (by omega))
  simp only [] at la1 ls1 lp1 lm1
  have z := h4.ct.fr.size
  have g1 := hC.g1
  have g2 := hC.g2
  have e1 := h4.ml
  have e2 := h4.mp
  have e3 := h4.md
  have e4 := h4.mg
  have e5 := h4.ct.dg
  have ba := h4.ct.ba
  have ne := hC.ne
  have lt := h4.ct.lt
  have hct0 : Ct 0 sb ab ao pl po la lc lb lo c db dlo dc w w5 := by
    refine h4.ct.step hC.fr (fun k o hk e => ?_) (fun e => h4.ct.bp e.1.symm) (fun e => h4.ct.dne e.1)
    obtain ⟨rfl, e⟩ := e
    have := h4.ct.c1
    exact h4.ct.inx hk o (by omega) (by omega)
  have hct : Ct n sb ab ao pl po la lc lb lo c db dlo dc w w5 := hct0.up
  have nl : ∀ o, ¬ XC lb (lo + 1) ab o := fun o e => ba e.1.symm
  refine ⟨⟨by omega, by omega, by omega, by omega, by omega, by omega, by omega, by omega, hP.dsa⟩, ⟨⟨hct.rdS hP, ?_, ?_, hC.b, hC.c, hC.t, ?_, hC.ft⟩, Fr.refl _ _⟩, hct, ⟨by omega, by omega, by omega, by omega, by omega, fun e => hP.dpa e.symm, by omega, by omega, by omega, by omega, by omega, by omega, by omega, by omega, fun e => hP.dps e.symm, by omega, fun e => h4.ct.bs e.symm⟩, cell_fr h4.sm hC.fr (fun e => by have := e.2; omega)⟩
  · refine hP.a.fr hct0.fr (fun i hi e => ?_)
    rcases e with ⟨_, e2, e3⟩ | ⟨e1, _⟩ | ⟨b, off, e1, e2, _⟩
    · omega
    · exact hP.dpa e1.symm
    · exact (hP.dl b off e1).1 e2.symm
  · exact h4.m.fr hC.fr (fun i hi e => by have := e.1; omega)
  · exact hP.fa.fr la1 hct.fr

section
variable {n k : Nat} {S : Nat → Nat} {B : Nat → Bool} {sb so : Nat} {ks : IntKind} {ab ao mb pl po lb lo gc gt : Nat} {w5 w wr : World} {sa : Nat → Int} {at_ : Nat → Nat} {la : Option Addr} {lc c db dlo dc : Nat}
theorem Ct.mf (h : Ct n sb ab ao pl po la lc lb lo c db dlo dc w w5) (g : Gt w sb ab mb pl lb db gc gt) (hf : Fr w5 wr (XI n ab ao gt)) : Ct n sb ab ao pl po la lc lb lo c db dlo dc w wr := by
  refine h.step hf (fun k o hk e => ?_) (fun e => ?_) (fun e => ?_)
  · rcases e with e | e
    · exact .inl e
    · have := g.g; omega
  · rcases e with e | e
    · exact g.ap e.1.symm
    · exact g.p e.symm
  · rcases e with e | e
    · exact g.a e.1.symm
    · exact g.d e.symm
theorem Ct.lvd (h : Ct n sb ab ao pl po la lc lb lo c db dlo dc w wr) : Lv wr (some ⟨lb, dlo, none⟩) 0 dc := by
  refine .inr ⟨lb, dlo, rfl, Nat.zero_le _, fun j hj => by omega, fun j hj => ?_⟩
  rcases h.dlo_ with h0 | ⟨rfl, h1⟩
  · omega
  · have := h.sp (3 + j) (by omega)
    rwa [← Nat.add_assoc] at this
theorem Ct.sl (h : Ct n sb ab ao pl po la lc lb lo c db dlo dc w wr) : Lv wr (some ⟨lb, lo, none⟩) 0 c :=
  .inr ⟨lb, lo, rfl, Nat.zero_le _, fun j hj => by omega, fun j hj => h.sp j hj⟩

end
/-- The levels, as they are left. -/
structure Ed (n ab ao pl po : Nat) (la : Option Addr) (lc gt : Nat) (w wr : World) : Prop where
  fr : Fr w wr (XS n ab ao pl po la lc)
  p : ∃ b off m c, wr.cell? ⟨pl, po, none⟩ = some (.slice (some ⟨b, off, none⟩) m c) ∧ 1 ≤ m ∧ m ≤ n ∧ ReadL wr b off m ∧ b ≠ ab ∧ b ≠ gt
theorem ReadL.fr {w w' : World} {X : Nat → Nat → Prop} {b o m : Nat} (h : ReadL w b o m) (hf : Fr w w' X) (hx : ∀ j, j < 3 * m → ¬ X b (o + j)) : ReadL w' b o m := fun j hj => by
  obtain ⟨u, h1, h2⟩ := h j hj
  exact ⟨u, cell_fr h1 hf (hx j hj), h2⟩
theorem SA.congr {n : Nat} {S : Nat → Nat} {f g : Nat → Int} (h : SA n S f) (he : ∀ i, i < n → f i = g i) : SA n S g := by
  refine ⟨fun i hi => ?_, fun x hx => ?_, fun i j x y hij hj h1 h2 => ?_⟩
  · rw [← he i hi]; exact h.1 i hi
  · obtain ⟨i, hi, e⟩ := h.2.1 x hx
    exact ⟨i, hi, by rw [← he i hi]; exact e⟩
  · rw [← he i (by omega)] at h1
    rw [← he j hj] at h2
    exact h.2.2 i j x y hij hj h1 h2
section
variable {n k : Nat} {S : Nat → Nat} {B : Nat → Bool} {sb so : Nat} {ks : IntKind} {ab ao mb pl po lb lo gc gt : Nat} {w5 w w' wr : World} {sa : Nat → Int} {at_ : Nat → Nat} {la : Option Addr} {lc c db dlo dc : Nat}
theorem Ed.mf (h : Ed n ab ao pl po la lc gt w w5) (g : Gt w sb ab mb pl lb db gc gt) (hf : Fr w5 wr (XI n ab ao gt)) : Ed n ab ao pl po la lc gt w wr := by
  obtain ⟨b, off, m, c, h1, h2, h3, h4, h5, h6⟩ := h.p
  refine ⟨h.fr.then hf (fun k o hk e => ?_), b, off, m, c, cell_fr h1 hf (fun e => ?_), h2, h3, h4.fr hf (fun j _ e => ?_), h5, h6⟩
  · rcases e with e | e
    · exact .inl e
    · have := g.g; omega
  · rcases e with e | e
    · exact g.ap e.1.symm
    · exact g.p e.symm
  · rcases e with e | e
    · exact h5 e.1
    · exact h6 e
theorem Mi.frX {X : Nat → Nat → Prop} {sa' : Nat → Int} {lv l0 : Nat} (h : Mi n k S B sb so ks ab ao mb lv l0 gc gt w sa at_) (hn : 0 < n) (hk : 0 < k) (hf : Fr w w' X) (ha : RdI w' ab ao .i32 sa' n) (h1 : ∀ i, i < n → ¬ X sb (so + i)) (h2 : ∀ o, ¬ X mb o) (h3 : ¬ X lv l0) (h4 : ¬ X lv (l0 + 1)) (h5 : ∀ o, ¬ X gc o) (h6 : ∀ o, ¬ X gt o) : Mi n k S B sb so ks ab ao mb lv l0 gc gt w' sa' at_ :=
  ⟨h.s.fr hf h1, ha, h.m.fr hf (fun _ _ => h2 _), h.b.fr hf h3 h4, h.c.fr hf (fun _ _ => h5 _), h.t.fr hf (fun _ _ => h6 _), h.fa.fr (World.block_lt_of_cell? _ _ (h.a 0 hn)) hf, h.ft.fr (World.block_lt_of_cell? _ _ (h.t 0 hk)) hf⟩
theorem rec_pre {l r m sh : Nat} {T : Nat → Nat} (ct : Ct n sb ab ao pl po la lc lb lo c db dlo dc w wr) (gg : Gt w sb ab mb pl lb db gc gt) (hm : Mi n k S B sb so ks ab ao mb lb (lo + 1) gc gt wr sa at_) (hn : n ≤ 65536) (hl2 : 2 ≤ l) (hlr : l + r = n) (hle : 2 * l + 1 ≤ n) (hm1 : 1 ≤ m) (hm2 : m ≤ l) (hT : ∀ v, v < l → T v < m) (hT2 : ∀ v, v < l → sa (r + v) = T v) (esh : sh = ao + r) :
    SortPre l m T ab sh .i32 ab ao db 0 (some ⟨lb, dlo, none⟩) dc wr sa := by
  refine ⟨hl2, by omega, hm1, by omega, hT, fun v hv => ?_, fun i hi => hm.a i (by omega), hm.fa, ct.d, ct.fd, ct.lvd, fun _ => .inr (by omega), gg.a.symm, gg.a.symm, fun b off e => ?_⟩
  · have := hm.a (r + v) (by omega)
    rw [hT2 v hv] at this
    rw [esh, Nat.add_assoc]; exact this
  · simp only [Option.some.injEq, Addr.mk.injEq, and_true] at e
    obtain ⟨rfl, rfl⟩ := e
    exact ⟨gg.al.symm, gg.al.symm, ct.dne.symm⟩
/-- No part of it is turned by the deeper sort. -/
theorem Ct.ed (ct : Ct n sb ab ao pl po la lc lb lo c db dlo dc w wr) (gg : Gt w sb ab mb pl lb db gc gt) (hn : 1 ≤ n) (hm : Mi n k S B sb so ks ab ao mb lb (lo + 1) gc gt wr sa at_) (hsm : wr.cell? ⟨lb, lo, none⟩ = some (.slice (some ⟨mb, 0, none⟩) n n)) : ReadL wr lb lo 1 ∧ Ed n ab ao pl po la lc gt w wr := by
  have hr : ReadL wr lb lo 1 := by
    intro j hj
    have h : j = 0 ∨ j = 1 ∨ j = 2 := by omega
    rcases h with rfl | rfl | rfl
    · exact ⟨_, hsm, rfl⟩
    · exact ⟨_, hm.b.c, rfl⟩
    · exact ⟨_, hm.b.t, rfl⟩
  exact ⟨hr, ct.fr, lb, lo, 1, c, ct.p, Nat.le_refl _, hn, hr, gg.al.symm, gg.l.symm⟩
/-- After the deeper sort, ahead of the append. -/
structure Rec (n k : Nat) (S : Nat → Nat) (B : Nat → Bool) (sb so : Nat) (ks : IntKind) (ab ao mb pl po lb lo c db gc gt : Nat) (la : Option Addr) (lc l : Nat) (T : Nat → Nat) (at_ : Nat → Nat) (w w8 : World) (xb xo xm xc : Nat) (o : Nat → Int) : Prop where
  mi : Mi n k S B sb so ks ab ao mb lb (lo + 1) gc gt w8 o at_
  sa : SA l T o
  fr : Fr w w8 (XS n ab ao pl po la lc)
  p : w8.cell? ⟨pl, po, none⟩ = some (.slice (some ⟨lb, lo, none⟩) 1 c)
  fp : w8.frozen? ⟨pl, po, none⟩ = false
  d : w8.cell? ⟨db, 0, none⟩ = some (.slice (some ⟨xb, xo, none⟩) xm xc)
  m1 : 1 ≤ xm
  m2 : xm ≤ l
  rx : ReadL w8 xb xo xm
  lv : Lv w8 (some ⟨lb, lo, none⟩) 1 c
  c1 : 1 ≤ c
  inx : lb < w.heap.size → ∀ o, lo ≤ o → o < lo + 3 * c → XS n ab ao pl po la lc lb o
theorem rec_post {l r : Nat} {T : Nat → Nat} {w8 : World} (ct : Ct n sb ab ao pl po la lc lb lo c db dlo dc w wr) (gg : Gt w sb ab mb pl lb db gc gt) (dj : Dj n sb so ab ao mb lb gc gt) (hm : Mi n k S B sb so ks ab ao mb lb (lo + 1) gc gt wr sa at_) (hsm : wr.cell? ⟨lb, lo, none⟩ = some (.slice (some ⟨mb, 0, none⟩) n n)) (hn : 1 ≤ n) (hk : 1 ≤ k) (hln : l ≤ n) (h : SortPost l T ab ao db 0 (some ⟨lb, dlo, none⟩) dc wr w8) :
    ∃ xb xo xm xc o, Rec n k S B sb so ks ab ao mb pl po lb lo c db gc gt la lc l T at_ w w8 xb xo xm xc o := by
  obtain ⟨sa', ha1, ha2⟩ := h.a
  obtain ⟨b, off, m, c2, hp1, hp2, hp3, hp4⟩ := h.p
  have hlX : ∀ o, o < lo + 3 → lo ≤ o → ¬ XS l ab ao db 0 (some ⟨lb, dlo, none⟩) dc lb o := by
    rintro o h1 h2 (e | e | ⟨b2, o2, e1, e2, e3, e4⟩)
    · exact gg.al e.1.symm
    · exact ct.dne e.1.symm
    · simp only [Option.some.injEq, Addr.mk.injEq, and_true] at e1
      rcases ct.dlo_ with g | ⟨g, _⟩ <;> omega
  have hnX : ∀ x o, x ≠ ab → x ≠ db → x ≠ lb → ¬ XS l ab ao db 0 (some ⟨lb, dlo, none⟩) dc x o := by
    rintro x o h1 h2 h3 (e | e | ⟨b2, o2, e1, e2, e3, e4⟩)
    · exact h1 e.1
    · exact h2 e.1
    · simp only [Option.some.injEq, Addr.mk.injEq, and_true] at e1
      exact h3 (by omega)
  have hsX : ∀ i, i < n → ¬ XS l ab ao db 0 (some ⟨lb, dlo, none⟩) dc sb (so + i) := by
    rintro i hi (e | e | ⟨b2, o2, e1, e2, e3, e4⟩)
    · rcases dj.sa e.1 with g | g <;> omega
    · exact gg.sd e.1
    · simp only [Option.some.injEq, Addr.mk.injEq, and_true] at e1
      exact gg.sl (by omega)
  have hA : RdI w8 ab ao .i32 (fun i => if i < l then sa' i else sa i) n := by
    intro i hi
    by_cases e : i < l
    · simp only [e, if_true]; exact ha1 i e
    · simp only [e, if_false]
      refine cell_fr (hm.a i hi) h.fr ?_
      rintro (e | e | ⟨b2, o2, e1, e2, e3, e4⟩)
      · omega
      · exact gg.a e.1
      · simp only [Option.some.injEq, Addr.mk.injEq, and_true] at e1
        exact gg.al (by omega)
  have lp := World.block_lt_of_cell? _ _ ct.p
  have hr := (ct.ed gg hn hm hsm).1
  have npX : ¬ XS l ab ao db 0 (some ⟨lb, dlo, none⟩) dc pl po := hnX _ _ gg.ap.symm gg.pd ct.bp.symm
  have c1 := ct.c1
  refine ⟨b, off, m, c2, _, ⟨hm.frX hn hk h.fr hA hsX (fun o => hnX _ _ dj.am.symm gg.md gg.ml) (hlX _ (by omega) (by omega)) (hlX _ (by omega) (by omega)) (fun o => hnX _ _ dj.ac.symm gg.cd gg.cl) (fun o => hnX _ _ dj.ta gg.d gg.l), ha2.congr (fun i hi => by simp only [hi, if_true]), ct.fr.then h.fr (fun x o hx e => ?_), cell_fr ct.p h.fr npX, ?_, hp1, hp2, hp3, hp4, .inr ⟨lb, lo, rfl, c1, hr.fr h.fr (fun j hj => hlX _ (by omega) (by omega)), fun j hj => ?_⟩, c1, ct.inx⟩⟩
  · rcases e with e | e | ⟨b2, o2, e1, e2, e3, e4⟩
    · exact .inl ⟨e.1, e.2.1, by omega⟩
    · have := ct.dg; omega
    · simp only [Option.some.injEq, Addr.mk.injEq, and_true] at e1
      obtain ⟨rfl, rfl⟩ := e1
      subst e2
      rcases ct.dlo_ with g | ⟨g, g2⟩
      · omega
      · exact ct.inx hx o (by omega) (by omega)
  · rw [h.fr.frz pl po lp]; exact ct.fp
  · rw [h.fr.som lb _ ct.lt, h.fr.frz lb _ ct.lt]; exact ct.sp j hj
/-- After the append, with its slice stored. -/
theorem rec_done {l : Nat} {T : Nat → Nat} {w8 w9 : World} {xb xo xm xc b' off' c' : Nat} {o : Nat → Int} (gg : Gt w sb ab mb pl lb db gc gt) (dj : Dj n sb so ab ao mb lb gc gt) (hn : 1 ≤ n) (hk : 1 ≤ k) (hln : l < n) (h : Rec n k S B sb so ks ab ao mb pl po lb lo c db gc gt la lc l T at_ w w8 xb xo xm xc o) (bp : lb ≠ pl) (dne : db ≠ lb) (hA : App w8 (some ⟨lb, lo, none⟩) 1 c xb xo xm b' off' c' w9) :
    w9.cell? ⟨pl, po, none⟩ = some (.slice (some ⟨lb, lo, none⟩) 1 c) ∧ w9.frozen? ⟨pl, po, none⟩ = false ∧ w9.cell? ⟨db, 0, none⟩ = some (.slice (some ⟨xb, xo, none⟩) xm xc) ∧
    Mi n k S B sb so ks ab ao mb lb (lo + 1) gc gt (w9.setCell ⟨pl, po, none⟩ (.slice (some ⟨b', off', none⟩) (1 + xm) c')) o at_ ∧ Ed n ab ao pl po la lc gt w (w9.setCell ⟨pl, po, none⟩ (.slice (some ⟨b', off', none⟩) (1 + xm) c')) := by
  have hx : ∀ x q, x ≠ lb → ¬ XL (some ⟨lb, lo, none⟩) 1 c x q := by
    rintro x q h1 ⟨b2, o2, e1, e2, _⟩
    simp only [Option.some.injEq, Addr.mk.injEq, and_true] at e1
    exact h1 (by omega)
  have hl : ∀ q, q < lo + 3 → ¬ XL (some ⟨lb, lo, none⟩) 1 c lb q := by
    rintro q h1 ⟨b2, o2, e1, e2, e3, _⟩
    simp only [Option.some.injEq, Addr.mk.injEq, and_true] at e1
    omega
  have lp := World.block_lt_of_cell? _ _ h.p
  simp only [] at lp
  have la1 := World.block_lt_of_cell? _ _ (h.mi.a 0 hn)
  have lt1 := World.block_lt_of_cell? _ _ (h.mi.t 0 hk)
  simp only [] at la1 lt1
  have c9 := cell_fr h.p hA.fr (hx _ _ bp.symm)
  have m1 := h.m1
  have m2 := h.m2
  have hF : Fr w8 (w9.setCell ⟨pl, po, none⟩ (.slice (some ⟨b', off', none⟩) (1 + xm) c')) (fun x q => XL (some ⟨lb, lo, none⟩) 1 c x q ∨ (x = pl ∧ q = po)) :=
    (hA.fr.mono (fun x q _ e => .inl e)).setCell _ (fun _ => .inr ⟨rfl, rfl⟩)
  have hN : ∀ x q, x ≠ lb → x ≠ pl → ¬ (XL (some ⟨lb, lo, none⟩) 1 c x q ∨ (x = pl ∧ q = po)) := by
    rintro x q h1 h2 (e | e)
    · exact hx x q h1 e
    · exact h2 e.1
  have hL : ∀ q, q < lo + 3 → ¬ (XL (some ⟨lb, lo, none⟩) 1 c lb q ∨ (lb = pl ∧ q = po)) := by
    rintro q h1 (e | e)
    · exact hl q h1 e
    · exact bp e.1
  have hb : b' = lb ∨ w8.heap.size ≤ b' := by
    rcases hA.at_ with ⟨e, _⟩ | e
    · simp only [Option.some.injEq, Addr.mk.injEq, and_true] at e
      exact .inl e.1.symm
    · exact .inr e
  have hbp : b' ≠ pl := by
    rcases hb with e | e
    · rw [e]; exact bp
    · omega
  refine ⟨c9, by rw [hA.fr.frz pl po lp]; exact h.fp, cell_fr h.d hA.fr (hx _ _ dne), ?_, ?_, ?_⟩
  · exact h.mi.frX hn hk hF (h.mi.a.fr hF (fun i _ => hN _ _ gg.al gg.ap)) (fun i _ => hN _ _ gg.sl gg.sp) (fun q => hN _ _ gg.ml gg.mp) (hL _ (by omega)) (hL _ (by omega)) (fun q => hN _ _ gg.cl gg.cp) (fun q => hN _ _ gg.l gg.p)
  · refine h.fr.then hF (fun x q hx2 e => ?_)
    rcases e with ⟨b2, o2, e1, e2, e3, e4⟩ | e
    · simp only [Option.some.injEq, Addr.mk.injEq, and_true] at e1
      obtain ⟨rfl, rfl⟩ := e1
      subst e2
      exact h.inx hx2 q (by omega) (by omega)
    · exact .inr (.inl e)
  · refine ⟨b', off', 1 + xm, c', World.cell?_setCell_same _ _ _ c9, by omega, by omega, ?_, ?_, ?_⟩
    · rcases hA.lv with ⟨e, _⟩ | ⟨b2, o2, e, _, hr, _⟩
      · cases e
      · simp only [Option.some.injEq, Addr.mk.injEq, and_true] at e
        obtain ⟨rfl, rfl⟩ := e
        exact hr.fr ((Fr.refl w9 (fun x q => x = pl ∧ q = po)).setCell _ (fun _ => ⟨rfl, rfl⟩)) (fun j _ e => hbp e.1)
    · rcases hb with e | e
      · rw [e]; exact gg.al.symm
      · omega
    · rcases hb with e | e
      · rw [e]; exact gg.l.symm
      · omega
end
theorem Ed.drew {n ab ao pl po : Nat} {la : Option Addr} {lc gt : Nat} {w wr : World} (h : Ed n ab ao pl po la lc gt w wr) : Ed n ab ao pl po la lc gt w wr.drew := ⟨h.fr.drew, h.p⟩
theorem Rec.drew {n k : Nat} {S : Nat → Nat} {B : Nat → Bool} {sb so : Nat} {ks : IntKind} {ab ao mb pl po lb lo c db gc gt : Nat} {la : Option Addr} {lc l : Nat} {T : Nat → Nat} {at_ : Nat → Nat} {w w8 : World} {xb xo xm xc : Nat} {o : Nat → Int} (h : Rec n k S B sb so ks ab ao mb pl po lb lo c db gc gt la lc l T at_ w w8 xb xo xm xc o) : Rec n k S B sb so ks ab ao mb pl po lb lo c db gc gt la lc l T at_ w w8.drew xb xo xm xc o :=
  ⟨h.mi.drew, h.sa, h.fr.drew, h.p, h.fp, h.d, h.m1, h.m2, h.rx, h.lv, h.c1, h.inx⟩
theorem short_inj {n : Nat} {S : Nat → Nat} {B : Nat → Bool} {R : Nat → Nat → Prop} {Q T : Nat → Nat} (hS : SL n B R Q) (h : Short n S B Q T) (hall : nm n S B Q (ix n B n) = ix n B n) : ∀ u v, u < ix n B n → v < ix n B n → T u = T v → u = v := by
  intro u v hu hv he
  have hp := short_perm hS h hall
  obtain ⟨p, hp1, hl1, rfl⟩ := cn_onto (lmsB n B) n u hu
  obtain ⟨a, ha, rfl⟩ := hS.2.1 p ((lmsB_iff p).1 hl1)
  obtain ⟨q, hq1, hl2, rfl⟩ := cn_onto (lmsB n B) n v hv
  obtain ⟨b, hb, rfl⟩ := hS.2.1 q ((lmsB_iff q).1 hl2)
  have h1 : T (ix n B (Q a)) = T (ix n B (Q b)) := he
  rw [hp a ha, hp b hb] at h1
  rw [h1]
theorem pos_fun (n : Nat) (B : Nat → Bool) : ∃ pz : Nat → Nat, ∀ v, v < ix n B n → LMS n B (pz v) ∧ ix n B (pz v) = v := by
  have h1 : ∀ v, ∃ p, v < ix n B n → LMS n B p ∧ ix n B p = v := fun v => by
    by_cases hv : v < ix n B n
    · obtain ⟨p, hp, hl, e⟩ := cn_onto (lmsB n B) n v hv
      exact ⟨p, fun _ => ⟨(lmsB_iff p).1 hl, e⟩⟩
    · exact ⟨0, fun e => (hv e).elim⟩
  exact ⟨fun v => Classical.choose (h1 v), fun v hv => Classical.choose_spec (h1 v) hv⟩
theorem sorted_fun {n : Nat} {K : Nat → List Nat} {sa : Nat → Int} (h : Sorted n K sa) : ∃ P : Nat → Nat, (∀ u, u < n → sa u = P u) ∧ (∀ u, u < n → P u < n) ∧ (∀ u v, u < n → v < n → P u = P v → u = v) ∧ ∀ u v, u < v → v < n → ll (K (P u)) (K (P v)) = true := by
  have h1 : ∀ u, ∃ x : Nat, u < n → x < n ∧ sa u = x := fun u => by
    by_cases hu : u < n
    · obtain ⟨x, hx⟩ := h.1 u hu; exact ⟨x, fun _ => hx⟩
    · exact ⟨0, fun e => (hu e).elim⟩
  obtain ⟨P, hP⟩ : ∃ P : Nat → Nat, ∀ u, u < n → P u < n ∧ sa u = P u := ⟨fun u => Classical.choose (h1 u), fun u hu => Classical.choose_spec (h1 u) hu⟩
  have hlt : ∀ u v, u < v → v < n → ll (K (P u)) (K (P v)) = true := fun u v huv hv => h.2.2 u v _ _ huv hv (hP u (by omega)).2 (hP v hv).2
  refine ⟨P, fun u hu => (hP u hu).2, fun u hu => (hP u hu).1, fun u v hu hv e => ?_, hlt⟩
  rcases Nat.lt_trichotomy u v with g | g | g
  · have := hlt u v g hv
    rw [e, ll_irrefl] at this; cases this
  · exact g
  · have := hlt v u g hu
    rw [e, ll_irrefl] at this; cases this
end Go.Proofs.Qxb6606046a
