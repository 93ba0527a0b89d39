import Derived.Test.Qxb6606046aV5
import Derived.Deep.DeepCutAuto
set_option linter.unusedVariables false
set_option linter.unusedSimpArgs false
namespace Go.Proofs.Qxb6606046a
open Go.RowKit

/-- What a sort may turn. -/
def XS (n ab ao pl po : Nat) (la : Option Addr) (lc : Nat) : Nat → Nat → Prop := fun k o => (k = ab ∧ ao ≤ o ∧ o < ao + n) ∨ (k = pl ∧ o = po) ∨ XL la 0 lc k o
structure SortPre (n k : Nat) (S : Nat → Nat) (sb so : Nat) (ks : IntKind) (ab ao pl po : Nat) (la : Option Addr) (lc : Nat) (w : World) (sa : Nat → Int) : Prop where
  n2 : 2 ≤ n
  n16 : n ≤ 65536
  k1 : 1 ≤ k
  k16 : k ≤ 65536
  sk : ∀ i, i < n → S i < k
  s : RdI w sb so ks (fun i => (S i : Int)) n
  a : RdI w ab ao .i32 sa n
  fa : Fz w ab
  p : w.cell? ⟨pl, po, none⟩ = some (.slice la 0 lc)
  fp : w.frozen? ⟨pl, po, none⟩ = false
  lv : Lv w la 0 lc
  dsa : sb = ab → so + n ≤ ao ∨ ao + n ≤ so
  dpa : pl ≠ ab
  dps : pl ≠ sb
  dl : ∀ b off, la = some ⟨b, off, none⟩ → b ≠ ab ∧ b ≠ sb ∧ b ≠ pl
structure SortPost (n : Nat) (S : Nat → Nat) (ab ao pl po : Nat) (la : Option Addr) (lc : Nat) (w w' : World) : Prop where
  a : ∃ sa, RdI w' ab ao .i32 sa n ∧ SA n S sa
  p : ∃ b off m c, w'.cell? ⟨pl, po, none⟩ = some (.slice (some ⟨b, off, none⟩) m c) ∧ 1 ≤ m ∧ m ≤ n ∧ ReadL w' b off m
  fr : Fr w w' (XS n ab ao pl po la lc)
def SortSpec (fn : Nat) (ks : IntKind) (n : Nat) : Prop :=
  ∀ (k : Nat) (S : Nat → Nat) (sb so scap ab ao acap pl po : Nat) (la : Option Addr) (lc : Nat) (w : World) (sa : Nat → Int), n ≤ acap → SortPre n k S sb so ks ab ao pl po la lc w sa →
    Calls Try.prog fn #[.slice (some ⟨sb, so, none⟩) n scap, .slice (some ⟨ab, ao, none⟩) n acap, .int .i64 k, .pointer (some ⟨pl, po, none⟩)] w fun e w' => e = .returned (.tuple #[]) ∧ SortPost n S ab ao pl po la lc w w'

/-- After the first level is laid. -/
structure St1 (n : Nat) (S : Nat → Nat) (ks : IntKind) (sb so ab ao pl po : Nat) (la : Option Addr) (lc : Nat) (lb lo c : Nat) (w w1 : World) : Prop where
  fr : Fr w w1 (XS 0 ab ao pl po la lc)
  z : ∀ j, j < 3 → w1.cell? ⟨lb, lo + j, none⟩ = some (.slice none 0 0)
  f : ∀ j, j < 3 → w1.frozen? ⟨lb, lo + j, none⟩ = false
  lv : Lv w1 (some ⟨lb, lo, none⟩) 1 c
  c1 : 1 ≤ c
  ba : lb ≠ ab
  bs : lb ≠ sb
  bp : lb ≠ pl
  lt : lb < w1.heap.size
  p : w1.cell? ⟨pl, po, none⟩ = some (.slice la 0 lc)
  fp : w1.frozen? ⟨pl, po, none⟩ = false
  inx : lb < w.heap.size → ∀ o, lo ≤ o → o < lo + 3 * c → XS 0 ab ao pl po la lc lb o
theorem readZ (w : World) : ReadL (w.alloc (Obj.cells #[Value.slice none 0 0, Value.slice none 0 0, Value.slice none 0 0] 45)) w.heap.size 0 1 := by
  have hA := At.new w 45 [Value.slice none 0 0, Value.slice none 0 0, Value.slice none 0 0]
  intro j hj
  refine ⟨.slice none 0 0, ?_, rfl⟩
  have := hA.cell (0 + j)
  rw [show (w.alloc (Obj.cells #[Value.slice none 0 0, Value.slice none 0 0, Value.slice none 0 0] 45)) = w.alloc (.cells [Value.slice none 0 0, Value.slice none 0 0, Value.slice none 0 0].toArray 45) from rfl, this]
  rcases j with _ | _ | _ | j
  · rfl
  · rfl
  · rfl
  · omega
theorem Lv.fr {w w' : World} {ao : Option Addr} {n cap : Nat} {X : Nat → Nat → Prop} (h : Lv w ao n cap) (hf : Fr w w' X) (hx : ∀ b off, ao = some ⟨b, off, none⟩ → ∀ j, j < 3 * n → ¬ X b (off + j)) : Lv w' ao n cap := by
  rcases h with h | ⟨b, off, rfl, hn, hr, hs⟩
  · exact .inl h
  · refine .inr ⟨b, off, rfl, hn, fun j hj => ?_, fun j hj => ?_⟩
    · obtain ⟨u, hu, h1⟩ := hr j hj
      exact ⟨u, cell_fr hu hf (hx b off rfl j hj), h1⟩
    · obtain ⟨u, hu⟩ := Option.isSome_iff_exists.1 (hs j hj).1
      have hlt := World.block_lt_of_cell? _ _ hu
      rw [hf.som b _ hlt, hf.frz b _ hlt]
      exact hs j hj
theorem st1_of {n k : Nat} {S : Nat → Nat} {sb so : Nat} {ks : IntKind} {ab ao pl po : Nat} {la : Option Addr} {lc : Nat} {w : World} {sa : Nat → Int} (hP : SortPre n k S sb so ks ab ao pl po la lc w sa) {lb lo c : Nat} {w1 : World}
    (hA : App (w.alloc (Obj.cells #[Value.slice none 0 0, Value.slice none 0 0, Value.slice none 0 0] 45)) la 0 lc w.heap.size 0 1 lb lo c w1) : St1 n S ks sb so ab ao pl po la lc lb lo c w w1 := by
  have n2 := hP.n2
  have la1 := World.block_lt_of_cell? _ _ (hP.a 0 (by omega))
  have ls1 := World.block_lt_of_cell? _ _ (hP.s 0 (by omega))
  have lp1 := World.block_lt_of_cell? _ _ hP.p
  simp only [] at la1 ls1 lp1
  have hsz : (w.alloc (Obj.cells #[Value.slice none 0 0, Value.slice none 0 0, Value.slice none 0 0] 45)).heap.size = w.heap.size + 1 := by simp
  have h0 : Fr w (w.alloc (Obj.cells #[Value.slice none 0 0, Value.slice none 0 0, Value.slice none 0 0] 45)) (XS 0 ab ao pl po la lc) := (Fr.refl _ _).alloc _
  have hne : lb ≠ ab ∧ lb ≠ sb ∧ lb ≠ pl := by
    rcases hA.at_ with ⟨h, _⟩ | h
    · exact hP.dl _ _ h
    · rw [hsz] at h; omega
  have hc : 1 ≤ c := by
    rcases hA.lv with ⟨h, _⟩ | ⟨_, _, _, h, _⟩
    · cases h
    · omega
  refine ⟨h0.then hA.fr (fun i o _ h => .inr (.inr h)), fun j hj => ?_, fun j hj => ?_, hA.lv, hc, hne.1, hne.2.1, hne.2.2, hA.lt, ?_, ?_, fun hb o h1 h2 => ?_⟩
  · have h1 := hA.new j (by omega)
    rw [show lo + 3 * 0 + j = lo + j by omega] at h1
    rw [h1]
    have hA2 := At.new w 45 [Value.slice none 0 0, Value.slice none 0 0, Value.slice none 0 0]
    have := hA2.cell (0 + j)
    rw [show (w.alloc (Obj.cells #[Value.slice none 0 0, Value.slice none 0 0, Value.slice none 0 0] 45)) = w.alloc (.cells [Value.slice none 0 0, Value.slice none 0 0, Value.slice none 0 0].toArray 45) from rfl, this]
    rcases j with _ | _ | _ | j
    · rfl
    · rfl
    · rfl
    · omega
  · rcases hA.lv with ⟨h, _⟩ | ⟨b2, o2, e, h, _, hs⟩
    · cases h
    · simp only [Option.some.injEq, Addr.mk.injEq, and_true] at e
      obtain ⟨rfl, rfl⟩ := e
      exact (hs j (by omega)).2
  · refine cell_fr (cell_fr hP.p ((Fr.refl _ XN).alloc _) (fun h => h)) hA.fr ?_
    rintro ⟨b, off, e1, e2, _⟩
    exact (hP.dl b off e1).2.2 e2.symm
  · rw [hA.fr.frz pl po (by rw [hsz]; omega), ((Fr.refl w XN).alloc _).frz pl po lp1]
    exact hP.fp
  · rcases hA.at_ with ⟨h, h3, _⟩ | h
    · exact .inr (.inr ⟨lb, lo, h, rfl, by omega, by omega⟩)
    · rw [hsz] at h; omega
theorem pre_lv {n k : Nat} {S : Nat → Nat} {sb so : Nat} {ks : IntKind} {ab ao pl po : Nat} {la : Option Addr} {lc : Nat} {w : World} {sa : Nat → Int} (hP : SortPre n k S sb so ks ab ao pl po la lc w sa) : Lv (w.alloc (Obj.cells #[Value.slice none 0 0, Value.slice none 0 0, Value.slice none 0 0] 45)) la 0 lc :=
  hP.lv.fr ((Fr.refl _ XN).alloc _) (fun _ _ _ _ _ h => h)

structure St2 (n : Nat) (S : Nat → Nat) (ks : IntKind) (sb so ab ao pl po : Nat) (la : Option Addr) (lc : Nat) (lb lo c db dlo dc : Nat) (w w2 : World) : Prop where
  fr : Fr w w2 (XS 0 ab ao pl po la lc)
  z : ∀ j, j < 3 → w2.cell? ⟨lb, lo + j, none⟩ = some (.slice none 0 0)
  f : ∀ j, j < 3 → w2.frozen? ⟨lb, lo + j, none⟩ = false
  lv : Lv w2 (some ⟨lb, lo, none⟩) 1 c
  c1 : 1 ≤ c
  ba : lb ≠ ab
  bs : lb ≠ sb
  bp : lb ≠ pl
  lt : lb < w2.heap.size
  p : w2.cell? ⟨pl, po, none⟩ = some (.slice (some ⟨lb, lo, none⟩) 1 c)
  fp : w2.frozen? ⟨pl, po, none⟩ = false
  inx : lb < w.heap.size → ∀ o, lo ≤ o → o < lo + 3 * c → XS 0 ab ao pl po la lc lb o
  d : w2.cell? ⟨db, 0, none⟩ = some (.slice (some ⟨lb, dlo, none⟩) 0 dc)
  fd : w2.frozen? ⟨db, 0, none⟩ = false
  dg : w.heap.size ≤ db
  dlt : db < w2.heap.size
  dne : db ≠ lb
  dlo_ : dc = 0 ∨ (dlo = lo + 3 ∧ dc + 1 = c)
theorem st2_of {n : Nat} {S : Nat → Nat} {sb so : Nat} {ks : IntKind} {ab ao pl po : Nat} {la : Option Addr} {lc : Nat} {w w1 : World} {lb lo c dlo dc : Nat} (h : St1 n S ks sb so ab ao pl po la lc lb lo c w w1) (hd : dc = 0 ∨ (dlo = lo + 3 ∧ dc + 1 = c)) :
    St2 n S ks sb so ab ao pl po la lc lb lo c w1.heap.size dlo dc w ((w1.setCell ⟨pl, po, none⟩ (.slice (some ⟨lb, lo, none⟩) 1 c)).alloc (Obj.cells #[.slice (some ⟨lb, dlo, none⟩) 0 dc] 26)) := by
  obtain ⟨w2, hw2⟩ : ∃ w2, w1.setCell ⟨pl, po, none⟩ (.slice (some ⟨lb, lo, none⟩) 1 c) = w2 := ⟨_, rfl⟩
  have hsz : w2.heap.size = w1.heap.size := by rw [← hw2]; simp
  have hF : Fr w1 w2 (fun k o => k = pl ∧ o = po) := by rw [← hw2]; exact (Fr.refl _ _).setCell _ (fun _ => ⟨rfl, rfl⟩)
  have hpc : w2.cell? ⟨pl, po, none⟩ = some (.slice (some ⟨lb, lo, none⟩) 1 c) := by rw [← hw2]; exact World.cell?_setCell_same _ _ _ h.p
  have hp1 := World.block_lt_of_cell? _ _ h.p
  simp only [] at hp1
  have bp := h.bp
  rw [hw2]
  clear hw2
  have hG : Fr w2 (w2.alloc (Obj.cells #[.slice (some ⟨lb, dlo, none⟩) 0 dc] 26)) XN := (Fr.refl _ _).alloc _
  have hA : At (w2.alloc (Obj.cells #[.slice (some ⟨lb, dlo, none⟩) 0 dc] 26)) w1.heap.size 26 [.slice (some ⟨lb, dlo, none⟩) 0 dc] := by rw [← hsz]; exact At.new w2 26 _
  have hlt := h.lt
  have hnx : ∀ o, ¬ (lb = pl ∧ o = po) := fun o e => bp e.1
  refine ⟨(h.fr.then hF (fun i o _ e => .inr (.inl e))).trans (hG.mono (fun _ _ _ e => e.elim)), fun j hj => cell_fr (cell_fr (h.z j hj) hF (hnx _)) hG (fun e => e), fun j hj => ?_, (h.lv.fr hF (fun b off e j hj => ?_)).fr hG (fun _ _ _ _ _ e => e), h.c1, h.ba, h.bs, bp, by simp; omega, cell_fr hpc hG (fun e => e), ?_, h.inx, ?_, hA.frozen 0, h.fr.size, hA.lt, by omega, hd⟩
  · rw [hG.frz lb _ (by omega), hF.frz lb _ hlt]; exact h.f j hj
  · simp only [Option.some.injEq, Addr.mk.injEq, and_true] at e
    rw [← e.1]; exact hnx _
  · rw [hG.frz pl _ (by omega), hF.frz pl _ hp1]; exact h.fp
  · rw [hA.cell]; rfl
theorem St2.lvd {n : Nat} {S : Nat → Nat} {sb so : Nat} {ks : IntKind} {ab ao pl po : Nat} {la : Option Addr} {lc : Nat} {w w2 : World} {lb lo c db dlo dc : Nat} (h : St2 n S ks sb so ab ao pl po la lc lb lo c db dlo dc w w2) : Lv w2 (some ⟨lb, dlo, none⟩) 0 dc := by
  refine .inr ⟨lb, dlo, rfl, Nat.zero_le _, fun j hj => by omega, fun j hj => ?_⟩
  rcases h.dlo_ with h0 | ⟨rfl, h1⟩
  · omega
  · rcases h.lv with ⟨e, _⟩ | ⟨b2, o2, e, _, _, hs⟩
    · cases e
    · simp only [Option.some.injEq, Addr.mk.injEq, and_true] at e
      obtain ⟨rfl, rfl⟩ := e
      have := hs (3 + j) (by omega)
      rwa [← Nat.add_assoc] at this

/-- What stays of the set-up through all that follows. -/
structure Ct (n sb ab ao pl po : Nat) (la : Option Addr) (lc : Nat) (lb lo c db dlo dc : Nat) (w wr : World) : Prop where
  fr : Fr w wr (XS n ab ao pl po la lc)
  sp : ∀ j, j < 3 * c → (wr.cell? ⟨lb, lo + j, none⟩).isSome = true ∧ wr.frozen? ⟨lb, lo + j, none⟩ = false
  c1 : 1 ≤ c
  ba : lb ≠ ab
  bs : lb ≠ sb
  bp : lb ≠ pl
  lt : lb < wr.heap.size
  p : wr.cell? ⟨pl, po, none⟩ = some (.slice (some ⟨lb, lo, none⟩) 1 c)
  fp : wr.frozen? ⟨pl, po, none⟩ = false
  inx : lb < w.heap.size → ∀ o, lo ≤ o → o < lo + 3 * c → XS n ab ao pl po la lc lb o
  d : wr.cell? ⟨db, 0, none⟩ = some (.slice (some ⟨lb, dlo, none⟩) 0 dc)
  fd : wr.frozen? ⟨db, 0, none⟩ = false
  dg : w.heap.size ≤ db
  dlt : db < wr.heap.size
  dne : db ≠ lb
  dlo_ : dc = 0 ∨ (dlo = lo + 3 ∧ dc + 1 = c)
theorem St2.ct {n : Nat} {S : Nat → Nat} {sb so : Nat} {ks : IntKind} {ab ao pl po : Nat} {la : Option Addr} {lc : Nat} {w w2 : World} {lb lo c db dlo dc : Nat} (h : St2 n S ks sb so ab ao pl po la lc lb lo c db dlo dc w w2) : Ct 0 sb ab ao pl po la lc lb lo c db dlo dc w w2 := by
  refine ⟨h.fr, fun j hj => ?_, h.c1, h.ba, h.bs, h.bp, h.lt, h.p, h.fp, h.inx, h.d, h.fd, h.dg, h.dlt, h.dne, h.dlo_⟩
  rcases h.lv with ⟨e, _⟩ | ⟨b2, o2, e, _, _, hs⟩
  · cases e
  · simp only [Option.some.injEq, Addr.mk.injEq, and_true] at e
    obtain ⟨rfl, rfl⟩ := e
    exact hs j hj
theorem Ct.step {n sb ab ao pl po : Nat} {la : Option Addr} {lc : Nat} {lb lo c db dlo dc : Nat} {w wr wr' : World} {X : Nat → Nat → Prop} (h : Ct n sb ab ao pl po la lc lb lo c db dlo dc w wr) (hf : Fr wr wr' X) (hx : ∀ k o, k < w.heap.size → X k o → XS n ab ao pl po la lc k o) (hp : ¬ X pl po) (hd : ¬ X db 0) : Ct n sb ab ao pl po la lc lb lo c db dlo dc w wr' := by
  have l1 := World.block_lt_of_cell? _ _ h.p
  have l2 := h.dlt
  exact ⟨h.fr.then hf hx, fun j hj => by rw [hf.som lb _ h.lt, hf.frz lb _ h.lt]; exact h.sp j hj, h.c1, h.ba, h.bs, h.bp, Nat.lt_of_lt_of_le h.lt hf.size, cell_fr h.p hf hp, by rw [hf.frz pl _ l1]; exact h.fp, h.inx, cell_fr h.d hf hd, by rw [hf.frz db _ l2]; exact h.fd, h.dg, Nat.lt_of_lt_of_le l2 hf.size, h.dne, h.dlo_⟩
theorem Ct.up {n sb ab ao pl po : Nat} {la : Option Addr} {lc : Nat} {lb lo c db dlo dc : Nat} {w wr : World} (h : Ct 0 sb ab ao pl po la lc lb lo c db dlo dc w wr) : Ct n sb ab ao pl po la lc lb lo c db dlo dc w wr := by
  have hx : ∀ k o, XS 0 ab ao pl po la lc k o → XS n ab ao pl po la lc k o := by
    rintro k o (⟨e1, e2, e3⟩ | e | e)
    · omega
    · exact .inr (.inl e)
    · exact .inr (.inr e)
  exact ⟨h.fr.mono (fun k o _ e => hx k o e), h.sp, h.c1, h.ba, h.bs, h.bp, h.lt, h.p, h.fp, fun a o b c => hx _ _ (h.inx a o b c), h.d, h.fd, h.dg, h.dlt, h.dne, h.dlo_⟩
/-- The string is read as it was. -/
theorem Ct.rdS {n k : Nat} {S : Nat → Nat} {sb so : Nat} {ks : IntKind} {ab ao pl po : Nat} {la : Option Addr} {lc : Nat} {w wr : World} {sa : Nat → Int} {lb lo c db dlo dc : Nat} (hP : SortPre n k S sb so ks ab ao pl po la lc w sa) (h : Ct n sb ab ao pl po la lc lb lo c db dlo dc w wr) : RdI wr sb so ks (fun i => (S i : Int)) n := by
  refine hP.s.fr h.fr (fun i hi e => ?_)
  rcases e with ⟨e1, e2, e3⟩ | ⟨e1, _⟩ | ⟨b, off, e1, e2, _⟩
  · rcases hP.dsa e1 with h1 | h1 <;> omega
  · exact hP.dps e1.symm
  · exact (hP.dl b off e1).2.1 e2.symm

/-- The types, found from the end down to t. -/
def Ty (n : Nat) (S : Nat → Nat) (B : Nat → Bool) (t : Nat) : Prop := B (n - 1) = false ∧ ∀ i, t ≤ i → i + 1 < n → (B i = true ↔ (S i < S (i + 1) ∨ (S i = S (i + 1) ∧ B (i + 1) = true)))
theorem ty_step {n : Nat} {S : Nat → Nat} {B : Nat → Bool} {q : Nat} (h : Ty n S B (q + 1)) (hq : q + 1 < n) {v : Bool} (hv : v = true ↔ (S q < S (q + 1) ∨ (S q = S (q + 1) ∧ B (q + 1) = true))) : Ty n S (upd B q v) q := by
  refine ⟨by rw [upd_ne _ _ (by omega)]; exact h.1, fun i hi hn => ?_⟩
  by_cases e : i = q
  · subst e
    rw [upd_same, upd_ne _ _ (by omega)]
    exact hv
  · rw [upd_ne _ _ e, upd_ne _ _ (by omega)]
    exact h.2 i (by omega) hn
/-- What loop 1 may turn. -/
def XM (mb : Nat) : Nat → Nat → Prop := fun k _ => k = mb

structure St4 (n sb ab ao pl po : Nat) (la : Option Addr) (lc : Nat) (lb lo c db dlo dc mb : Nat) (B : Nat → Bool) (w wr : World) : Prop where
  ct : Ct 0 sb ab ao pl po la lc lb lo c db dlo dc w wr
  sm : wr.cell? ⟨lb, lo, none⟩ = some (.slice (some ⟨mb, 0, none⟩) n n)
  z1 : wr.cell? ⟨lb, lo + 1, none⟩ = some (.slice none 0 0)
  z2 : wr.cell? ⟨lb, lo + 2, none⟩ = some (.slice none 0 0)
  g1 : wr.frozen? ⟨lb, lo + 1, none⟩ = false
  g2 : wr.frozen? ⟨lb, lo + 2, none⟩ = false
  m : RdB wr mb 0 B n
  fm : Fz wr mb
  mg : w.heap.size ≤ mb
  ml : lb < mb
  mp : pl < mb
  md : db < mb
theorem St4.set {n sb ab ao pl po : Nat} {la : Option Addr} {lc : Nat} {lb lo c db dlo dc mb : Nat} {B : Nat → Bool} {w wr : World} (h : St4 n sb ab ao pl po la lc lb lo c db dlo dc mb B w wr) {i : Nat} (hi : i < n) (v : Bool) : St4 n sb ab ao pl po la lc lb lo c db dlo dc mb (upd B i v) w (wr.setCell ⟨mb, i, none⟩ (.bool v)) := by
  have hF : Fr wr (wr.setCell ⟨mb, i, none⟩ (.bool v)) (XM mb) := (Fr.refl _ _).setCell _ (fun _ => rfl)
  have e1 := h.mg
  have e2 := h.ml
  have e3 := h.mp
  have e4 := h.md
  have nl : ∀ o, ¬ XM mb lb o := fun o e => by have : lb = mb := e; omega
  have lt := h.ct.lt
  exact ⟨h.ct.step hF (fun k o hk e => by have : k = mb := e; omega) (fun e => by have : pl = mb := e; omega) (fun e => by have : db = mb := e; omega), cell_fr h.sm hF (nl _), cell_fr h.z1 hF (nl _), cell_fr h.z2 hF (nl _), by rw [hF.frz lb _ lt]; exact h.g1, by rw [hF.frz lb _ lt]; exact h.g2, h.m.set0 hi v, h.fm.set _ _, e1, e2, e3, e4⟩
theorem Ct.drew {n sb ab ao pl po : Nat} {la : Option Addr} {lc : Nat} {lb lo c db dlo dc : Nat} {w wr : World} (h : Ct n sb ab ao pl po la lc lb lo c db dlo dc w wr) : Ct n sb ab ao pl po la lc lb lo c db dlo dc w wr.drew :=
  h.step ((Fr.refl _ XN).drew) (fun _ _ _ e => e.elim) (fun e => e) (fun e => e)
theorem St4.drew {n sb ab ao pl po : Nat} {la : Option Addr} {lc : Nat} {lb lo c db dlo dc mb : Nat} {B : Nat → Bool} {w wr : World} (h : St4 n sb ab ao pl po la lc lb lo c db dlo dc mb B w wr) : St4 n sb ab ao pl po la lc lb lo c db dlo dc mb B w wr.drew :=
  ⟨h.ct.drew, h.sm, h.z1, h.z2, h.g1, h.g2, h.m, h.fm, h.mg, h.ml, h.mp, h.md⟩
theorem st4_of {n sb ab ao pl po : Nat} {la : Option Addr} {lc : Nat} {lb lo c db dlo dc mb : Nat} {w w3 : World} (h : Ct 0 sb ab ao pl po la lc lb lo c db dlo dc w w3) (d0 : w3.cell? ⟨lb, lo, none⟩ = some (.slice none 0 0)) (d1 : w3.cell? ⟨lb, lo + 1, none⟩ = some (.slice none 0 0)) (d2 : w3.cell? ⟨lb, lo + 2, none⟩ = some (.slice none 0 0))
    (g1 : w3.frozen? ⟨lb, lo + 1, none⟩ = false) (g2 : w3.frozen? ⟨lb, lo + 2, none⟩ = false) (hm : RdB w3 mb 0 (fun _ => false) n) (fm : Fz w3 mb) (e1 : w.heap.size ≤ mb) (e2 : lb < mb) (e3 : pl < mb) (e4 : db < mb) :
    St4 n sb ab ao pl po la lc lb lo c db dlo dc mb (fun _ => false) w (w3.setCell ⟨lb, lo, none⟩ (.slice (some ⟨mb, 0, none⟩) n n)) := by
  have hF : Fr w3 (w3.setCell ⟨lb, lo, none⟩ (.slice (some ⟨mb, 0, none⟩) n n)) (fun k o => k = lb ∧ o = lo) := (Fr.refl _ _).setCell _ (fun _ => ⟨rfl, rfl⟩)
  have lt := h.lt
  have c1 := h.c1
  refine ⟨h.step hF (fun k o hk e => ?_) (fun e => h.bp e.1.symm) (fun e => h.dne e.1), World.cell?_setCell_same _ _ _ d0, cell_fr d1 hF (by omega), cell_fr d2 hF (by omega), by rw [hF.frz lb _ lt]; exact g1, by rw [hF.frz lb _ lt]; exact g2, hm.fr hF (fun i _ e => by omega), fm.set _ _, e1, e2, e3, e4⟩
  obtain ⟨rfl, rfl⟩ := e
  exact h.inx hk _ (by omega) (by omega)

end Go.Proofs.Qxb6606046a
