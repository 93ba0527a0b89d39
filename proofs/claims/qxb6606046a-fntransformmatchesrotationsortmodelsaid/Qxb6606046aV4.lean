import Derived.Test.Qxb6606046aV3
import Derived.Lib.SliceRun
import Derived.BigFrame
import Derived.Laws.IdiomCopy
set_option linter.unusedVariables false
set_option linter.unusedSimpArgs false
namespace Go.Proofs.Qxb6606046a
open Go.RowKit

theorem make_run (k : Nat) (hk : k ≤ 65536) (w : World) : (Instr.makeSlice 25 (.int .i64 (k : Int)) (.int .i64 (k : Int))).run Try.prog w = .ok (.slice (some ⟨w.heap.size, 0, none⟩) k k) (w.alloc (.cells (List.replicate k (.int .i32 0)).toArray 21)) := by
  obtain ⟨i, hi, hz0, hz1, hz2⟩ := info_parts info21
  have hr := run_make (P := Try.prog) w 25 21 i _ Try.underlying25 hi hz0 .i64 .i64 k k (by omega) (by omega) (by rw [hz2]; omega) (by omega)
  have hcells : madeCells (Value.int .i32 0).cells (k * i.size) = (List.replicate k (Value.int .i32 0)).toArray := by
    rw [hz1, show (Value.int .i32 0).cells = #[Value.int .i32 0] from rfl, Nat.mul_one]
    apply Array.ext'
    rw [toList_madeCells_one]
  simp at hr
  rw [hr, hcells]

theorem Fr.setCells {a : World} {X : Nat → Nat → Prop} (b : Nat) : ∀ (vs : List Value) (o : Nat) (w : World), Fr a w X → (b < a.heap.size → ∀ j, j < vs.length → X b (o + j)) → Fr a (w.setCells b o vs) X := by
  intro vs
  induction vs with
  | nil => intro o w h _; exact h
  | cons v vs ih =>
    intro o w h hx
    refine ih (o + 1) _ (h.setCell v (fun hb => by have := hx hb 0 (by simp); simpa using this)) (fun hb j hj => ?_)
    have := hx hb (j + 1) (by simp; omega)
    rwa [show o + (j + 1) = o + 1 + j by omega] at this
theorem At.rdI {w : World} {b : Nat} {t : TypeId} {k : IntKind} {n : Nat} {v : Int} (h : At w b t (List.replicate n (.int k v))) : RdI w b 0 k (fun _ => v) n := by
  intro i hi
  rw [Nat.zero_add, h.cell]
  simp [hi]
theorem At.rdB {w : World} {b : Nat} {t : TypeId} {n : Nat} {v : Bool} (h : At w b t (List.replicate n (.bool v))) : RdB w b 0 (fun _ => v) n := by
  intro i hi
  rw [Nat.zero_add, h.cell]
  simp [hi]
theorem At.fz {w : World} {b : Nat} {t : TypeId} {cs : List Value} (h : At w b t cs) : Fz w b := fun i => h.frozen i

/-- What 'countSymbols' may turn. -/
def XC (lv lo : Nat) : Nat → Nat → Prop := fun k o => k = lv ∧ (o = lo ∨ o = lo + 1)
/-- The buckets as they are counted. -/
structure Cs (n k : Nat) (S : Nat → Nat) (lv lo gc gt : Nat) (w w1 : World) : Prop where
  g1 : w.heap.size ≤ gc
  g2 : w.heap.size ≤ gt
  ne : gc ≠ gt
  lt1 : gc < w1.heap.size
  lt2 : gt < w1.heap.size
  b : Bk w1 lv lo gc gt k
  c : RdI w1 gc 0 .i32 (fun c => (ct n S c : Nat)) k
  t : RdI w1 gt 0 .i32 (fun _ => 0) k
  fc : Fz w1 gc
  ft : Fz w1 gt
  fr : Fr w w1 (XC lv lo)
theorem ct_zero (S : Nat → Nat) (c : Nat) : ct 0 S c = 0 := rfl
theorem ct_upd (S : Nat → Nat) (i : Nat) : (fun c => ((ct (i + 1) S c : Nat) : Int)) = upd (fun c => ((ct i S c : Nat) : Int)) (S i) ((ct i S (S i) : Int) + 1) := by
  funext c
  unfold ct
  rw [cn_succ]
  by_cases e : c = S i
  · subst e; rw [upd_same]; simp
  · rw [upd_ne _ _ e]; simp [Ne.symm e]
theorem cs_start (k : Nat) (S : Nat → Nat) (lv lo gc gt : Nat) (w : World) (c1 : w.cell? ⟨lv, lo, none⟩ = some (.slice none 0 0)) (c2 : w.cell? ⟨lv, lo + 1, none⟩ = some (.slice none 0 0)) (hg : (gc = w.heap.size ∧ gt = w.heap.size + 1) ∨ (gc = w.heap.size + 1 ∧ gt = w.heap.size)) :
    Cs 0 k S lv lo gc gt w ((((w.setCell ⟨lv, lo, none⟩ (.slice (some ⟨gc, 0, none⟩) k k)).setCell ⟨lv, lo + 1, none⟩ (.slice (some ⟨gt, 0, none⟩) k k)).alloc (Obj.cells (Array.replicate k (Value.int IntKind.i32 0)) 21)).alloc (Obj.cells (Array.replicate k (Value.int IntKind.i32 0)) 21)).drew := by
  have hl := World.block_lt_of_cell? _ _ c1
  obtain ⟨w2, hw2⟩ : ∃ w2, (w.setCell ⟨lv, lo, none⟩ (.slice (some ⟨gc, 0, none⟩) k k)).setCell ⟨lv, lo + 1, none⟩ (.slice (some ⟨gt, 0, none⟩) k k) = w2 := ⟨_, rfl⟩
  have hsz : w2.heap.size = w.heap.size := by rw [← hw2]; simp
  have d1 : w2.cell? ⟨lv, lo, none⟩ = some (.slice (some ⟨gc, 0, none⟩) k k) := by
    rw [← hw2, World.cell?_setCell_other _ _ _ _ (by simp), World.cell?_setCell_same _ _ _ c1]
  have d2 : w2.cell? ⟨lv, lo + 1, none⟩ = some (.slice (some ⟨gt, 0, none⟩) k k) := by
    rw [← hw2]
    exact World.cell?_setCell_same _ _ _ (by rw [World.cell?_setCell_other _ _ _ _ (by simp)]; exact c2)
  have hF : Fr w w2 (XC lv lo) := by
    rw [← hw2]
    exact ((Fr.refl w _).setCell _ (fun _ => ⟨rfl, .inl rfl⟩)).setCell _ (fun _ => ⟨rfl, .inr rfl⟩)
  rw [hw2]
  clear hw2
  rw [show Array.replicate k (Value.int IntKind.i32 0) = (List.replicate k (Value.int IntKind.i32 0)).toArray by simp]
  have a1 := (At.new w2 21 (List.replicate k (Value.int IntKind.i32 0))).alloc (Obj.cells (List.replicate k (Value.int IntKind.i32 0)).toArray 21)
  have a2 := At.new (w2.alloc (Obj.cells (List.replicate k (Value.int IntKind.i32 0)).toArray 21)) 21 (List.replicate k (Value.int IntKind.i32 0))
  have s1 : (w2.alloc (Obj.cells (List.replicate k (Value.int IntKind.i32 0)).toArray 21)).heap.size = w2.heap.size + 1 := by simp
  rw [s1] at a2
  rw [hsz] at a1 a2
  have hF2 : Fr w2 ((w2.alloc (Obj.cells (List.replicate k (Value.int IntKind.i32 0)).toArray 21)).alloc (Obj.cells (List.replicate k (Value.int IntKind.i32 0)).toArray 21)).drew (XC lv lo) := (((Fr.refl _ _).alloc _).alloc _).drew
  have hF3 : Fr w2 ((w2.alloc (Obj.cells (List.replicate k (Value.int IntKind.i32 0)).toArray 21)).alloc (Obj.cells (List.replicate k (Value.int IntKind.i32 0)).toArray 21)).drew XN := (((Fr.refl _ _).alloc _).alloc _).drew
  have hb : Bk ((w2.alloc (Obj.cells (List.replicate k (Value.int IntKind.i32 0)).toArray 21)).alloc (Obj.cells (List.replicate k (Value.int IntKind.i32 0)).toArray 21)).drew lv lo gc gt k := ⟨cell_fr d1 hF3 (fun h => h), cell_fr d2 hF3 (fun h => h)⟩
  have s3 : (((w2.alloc (Obj.cells (List.replicate k (Value.int IntKind.i32 0)).toArray 21)).alloc (Obj.cells (List.replicate k (Value.int IntKind.i32 0)).toArray 21)).drew).heap.size = w2.heap.size + 2 := by simp
  generalize ((w2.alloc (Obj.cells (List.replicate k (Value.int IntKind.i32 0)).toArray 21)).alloc (Obj.cells (List.replicate k (Value.int IntKind.i32 0)).toArray 21)) = w3 at *
  have a1' := a1.drew
  have a2' := a2.drew
  rcases hg with ⟨rfl, rfl⟩ | ⟨rfl, rfl⟩
  · exact ⟨by omega, by omega, by omega, by omega, by omega, hb, a1'.rdI, a2'.rdI, a1'.fz, a2'.fz, hF.trans hF2⟩
  · exact ⟨by omega, by omega, by omega, by omega, by omega, hb, a2'.rdI, a1'.rdI, a2'.fz, a1'.fz, hF.trans hF2⟩
/-- The two fields stored anew, as they were. -/
theorem Cs.again {n k : Nat} {S : Nat → Nat} {lv lo gc gt : Nat} {w w1 : World} (h : Cs n k S lv lo gc gt w w1) (hl : lv < w.heap.size) : Cs n k S lv lo gc gt w ((w1.setCell ⟨lv, lo, none⟩ (.slice (some ⟨gc, 0, none⟩) k k)).setCell ⟨lv, lo + 1, none⟩ (.slice (some ⟨gt, 0, none⟩) k k)).drew := by
  have e1 := h.g1
  have e2 := h.g2
  have n1 : lv ≠ gc := by omega
  have n2 : lv ≠ gt := by omega
  have d1 : ((w1.setCell ⟨lv, lo, none⟩ (.slice (some ⟨gc, 0, none⟩) k k)).setCell ⟨lv, lo + 1, none⟩ (.slice (some ⟨gt, 0, none⟩) k k)).cell? ⟨lv, lo, none⟩ = some (.slice (some ⟨gc, 0, none⟩) k k) := by
    rw [World.cell?_setCell_other _ _ _ _ (by simp), World.cell?_setCell_same _ _ _ h.b.c]
  have d2 : ((w1.setCell ⟨lv, lo, none⟩ (.slice (some ⟨gc, 0, none⟩) k k)).setCell ⟨lv, lo + 1, none⟩ (.slice (some ⟨gt, 0, none⟩) k k)).cell? ⟨lv, lo + 1, none⟩ = some (.slice (some ⟨gt, 0, none⟩) k k) :=
    World.cell?_setCell_same _ _ _ (by rw [World.cell?_setCell_other _ _ _ _ (by simp)]; exact h.b.t)
  exact ⟨h.g1, h.g2, h.ne, by simpa using h.lt1, by simpa using h.lt2, ⟨d1, d2⟩, (h.c.neb _ _ n1).neb _ _ n1, (h.t.neb _ _ n2).neb _ _ n2, (h.fc.set _ _).set _ _, (h.ft.set _ _).set _ _, ((h.fr.setCell _ (fun _ => ⟨rfl, .inl rfl⟩)).setCell _ (fun _ => ⟨rfl, .inr rfl⟩)).drew⟩
/-- 'clear'. -/
theorem Cs.clear {k : Nat} {S : Nat → Nat} {lv lo gc gt : Nat} {w w1 : World} (h : Cs 0 k S lv lo gc gt w w1) (hl : lv < w.heap.size) : Cs 0 k S lv lo gc gt w (w1.setCells gc 0 (List.replicate k (.int .i32 0))) := by
  have e1 := h.g1
  have e2 := h.g2
  have hF : Fr w1 (w1.setCells gc 0 (List.replicate k (.int .i32 0))) (OnlyB gc) := Fr.setCells gc _ 0 w1 (Fr.refl _ _) (fun _ _ _ => rfl)
  refine ⟨h.g1, h.g2, h.ne, Nat.lt_of_lt_of_le h.lt1 hF.size, Nat.lt_of_lt_of_le h.lt2 hF.size, h.b.fr hF (fun e => by have : lv = gc := e; omega) (fun e => by have : lv = gc := e; omega), fun i hi => ?_, h.t.fr hF (fun i _ e => h.ne (Eq.symm e)), h.fc.fr h.lt1 hF, h.ft.fr h.lt2 hF, ?_⟩
  · have := World.cell?_setCells_in gc (List.replicate k (.int .i32 0)) 0 w1 (fun j hj => by rw [h.c j (by simpa using hj)]; rfl) i (by simpa using hi)
    rw [this]
    simp [ct_zero]
  · exact h.fr.then hF (fun i o hi e => by have : i = gc := e; omega)
theorem Cs.step {i k : Nat} {S : Nat → Nat} {lv lo gc gt : Nat} {w w1 : World} (h : Cs i k S lv lo gc gt w w1) (hl : lv < w.heap.size) (hS : S i < k) : Cs (i + 1) k S lv lo gc gt w (w1.setCell ⟨gc, S i, none⟩ (.int .i32 ((ct i S (S i) : Int) + 1))) := by
  have e1 := h.g1
  have e2 := h.g2
  have n1 : gc ≠ lv := by omega
  refine ⟨h.g1, h.g2, h.ne, by simpa using h.lt1, by simpa using h.lt2, ⟨cell_neb h.b.c n1, cell_neb h.b.t n1⟩, ?_, h.t.neb _ _ h.ne, h.fc.set _ _, h.ft.set _ _, h.fr.setCell _ (fun hb => by omega)⟩
  rw [ct_upd]
  exact h.c.set0 hS _
theorem zero21 (w : World) : (zeroValue 21).run Try.prog w = .ok (.int .i32 0) w := by kernel_rfl

set_option maxHeartbeats 1000000 in
theorem grown_i (n : Nat) (h1 : 1 ≤ n) (hn : n ≤ 65536) (w : World) :
    Calls Try.prog 15 #[.slice none 0 0, .int .i64 n] w fun e w' => e = .returned (.slice (some ⟨w.heap.size, 0, none⟩) n n) ∧ w'.heap.size = w.heap.size + 1 ∧ At w' w.heap.size 21 (List.replicate n (.int .i32 0)) ∧ Below w.heap.size w w' := by
  have i1 : (0 : Int) < (n : Int) := by omega
  go_enter Try.func15, Try.ntmps15
  go_wp2_with (at_make; refine wpList_make_at _ rfl _ _ 25 rfl 21 (.int .i32 0) 4 Try.underlying25 info21 rfl _ _ _ _ n n rfl rfl rfl rfl (Nat.le_refl _) (by omega) (by omega) ?_)
  intro g w1 hg hg2 hA hB
  have hg' := hg.out
  subst hg'
  clear hg
  go_wp2_with fail
  go_ret
  exact ⟨rfl, hg2.out, hA, hB⟩

set_option maxHeartbeats 1000000 in
theorem grown_b (n : Nat) (h1 : 1 ≤ n) (hn : n ≤ 65536) (w : World) :
    Calls Try.prog 17 #[.slice none 0 0, .int .i64 n] w fun e w' => e = .returned (.slice (some ⟨w.heap.size, 0, none⟩) n n) ∧ w'.heap.size = w.heap.size + 1 ∧ At w' w.heap.size 4 (List.replicate n (.bool false)) ∧ Below w.heap.size w w' := by
  have i1 : (0 : Int) < (n : Int) := by omega
  go_enter Try.func17, Try.ntmps17
  go_wp2_with (at_make; refine wpList_make_at _ rfl _ _ 41 rfl 4 (.bool false) 1 Try.underlying41 info4 rfl _ _ _ _ n n rfl rfl rfl rfl (Nat.le_refl _) (by omega) (by omega) ?_)
  intro g w1 hg hg2 hA hB
  have hg' := hg.out
  subst hg'
  clear hg
  go_wp2_with fail
  go_ret
  exact ⟨rfl, hg2.out, hA, hB⟩

set_option maxHeartbeats 4000000 in
set_option maxRecDepth 20000 in
theorem count_b (n k : Nat) (hn : n ≤ 65536) (h1 : 1 ≤ k) (hk : k ≤ 65536) (S : Nat → Nat) (hSk : ∀ i, i < n → S i < k) (sb so scap lv lo : Nat) (w : World) (hs : RdI w sb so .u8 (fun i => (S i : Int)) n) (c1 : w.cell? ⟨lv, lo, none⟩ = some (.slice none 0 0)) (c2 : w.cell? ⟨lv, lo + 1, none⟩ = some (.slice none 0 0)) (f1 : w.frozen? ⟨lv, lo, none⟩ = false) (f2 : w.frozen? ⟨lv, lo + 1, none⟩ = false) (hdis : ∀ t, t < n → ¬ XC lv lo sb (so + t)) :
    Calls Try.prog 18 #[.pointer (some ⟨lv, lo, none⟩), .slice (some ⟨sb, so, none⟩) n scap, .int .i64 k] w fun e w' => e = .returned (.tuple #[]) ∧ ∃ gc gt, Cs n k S lv lo gc gt w w' := by
  have i1 : (0 : Int) < (k : Int) := by omega
  have hmk := make_run k hk
  have hl1 := World.block_lt_of_cell? _ _ c1
  go_enter Try.func18, Try.ntmps18
  go_wp2_with fail
  go_region
  · have hC := cs_start k S lv lo (w.heap.size) (w.heap.size + 1) w c1 c2 (.inl ⟨rfl, rfl⟩)
    have fz1 := (hC.fr.frz lv lo hl1).trans f1
    have fz2 := (hC.fr.frz lv (lo + 1) hl1).trans f2
    generalize ((((w.setCell ⟨lv, lo, none⟩ (.slice (some ⟨w.heap.size, 0, none⟩) k k)).setCell ⟨lv, lo + 1, none⟩ (.slice (some ⟨w.heap.size + 1, 0, none⟩) k k)).alloc (Obj.cells (Array.replicate k (Value.int IntKind.i32 0)) 21)).alloc (Obj.cells (Array.replicate k (Value.int IntKind.i32 0)) 21)).drew = w1 at *
    clear c1 c2 f1 f2 hmk
    have hb1 := hC.b.c
    have hb2 := hC.b.t
    go_wp2_with fail
    go_region
    have hC2 := hC.again hl1
    clear hb1 hb2 hC
    generalize ((w1.setCell ⟨lv, lo, none⟩ (.slice (some ⟨w.heap.size, 0, none⟩) k k)).setCell ⟨lv, lo + 1, none⟩ (.slice (some ⟨w.heap.size + 1, 0, none⟩) k k)).drew = w2 at *
    have hb1 := hC2.b.c
    have hcl : ∀ ty, (Builtin.clear_ #[25] ty #[.slice (some ⟨w.heap.size, 0, none⟩) k k]).run Try.prog w2 = .ok (.tuple #[]) (w2.setCells (w.heap.size) 0 (List.replicate k (.int .i32 0))) :=
      fun ty => Lib.run_clear_slice w2 25 21 ty (.int .i32 0) Try.underlying25 zero21 rfl rfl _ 0 k k (by omega) (fun j hj => by rw [hC2.c j hj]; rfl) (fun j hj => hC2.fc _)
    go_wp2_with (simp only [hcl])
    have hC3 := hC2.clear hl1
    clear hcl hb1 hC2 fz1 fz2
    generalize w2.setCells (w.heap.size) 0 (List.replicate k (.int .i32 0)) = w3 at *
    go_wp2_with fail
    go_loopw [49] (fun iv wr => ∃ (i : Nat), i ≤ n ∧ iv = .int .i64 i ∧ Cs i k S lv lo (w.heap.size) (w.heap.size + 1) w wr) (fun i _ => n - (intOf i).toNat)
    case atStart => exact ⟨0, Nat.zero_le _, rfl, hC3⟩
    case round =>
      clear hC3
      obtain ⟨i, hi, rfl, hC⟩ := hrel
      by_cases hlt : i < n
      · have hSi := hSk i hlt
        have d1 := hs.fr hC.fr (fun t _ e => hdis t (by omega) e) i hlt
        have d2 := hC.b.c
        have d3 := hC.c.at0 hSi
        have d4 := hC.fc (S i)
        have hle := ct_le i S (S i)
        have hC' := hC.step hl1 hSi
        clear hC
        simp only [] at d1 d3
        generalize ct i S (S i) = q at *
        generalize S i = c at *
        go_wp2_with fail
        go_roundw
        case rel => exact ⟨i + 1, by omega, by go_num, hC'⟩
        case measure => simp [intOf]; omega
      · obtain rfl : i = n := by omega
        go_wp2_with fail
        go_end0
        exact ⟨rfl, _, _, hC⟩
  · have hC := cs_start k S lv lo (w.heap.size + 1) (w.heap.size) w c1 c2 (.inr ⟨rfl, rfl⟩)
    have fz1 := (hC.fr.frz lv lo hl1).trans f1
    have fz2 := (hC.fr.frz lv (lo + 1) hl1).trans f2
    generalize ((((w.setCell ⟨lv, lo, none⟩ (.slice (some ⟨w.heap.size + 1, 0, none⟩) k k)).setCell ⟨lv, lo + 1, none⟩ (.slice (some ⟨w.heap.size, 0, none⟩) k k)).alloc (Obj.cells (Array.replicate k (Value.int IntKind.i32 0)) 21)).alloc (Obj.cells (Array.replicate k (Value.int IntKind.i32 0)) 21)).drew = w1 at *
    clear c1 c2 f1 f2 hmk
    have hb1 := hC.b.c
    have hb2 := hC.b.t
    go_wp2_with fail
    go_region
    have hC2 := hC.again hl1
    clear hb1 hb2 hC
    generalize ((w1.setCell ⟨lv, lo, none⟩ (.slice (some ⟨w.heap.size + 1, 0, none⟩) k k)).setCell ⟨lv, lo + 1, none⟩ (.slice (some ⟨w.heap.size, 0, none⟩) k k)).drew = w2 at *
    have hb1 := hC2.b.c
    have hcl : ∀ ty, (Builtin.clear_ #[25] ty #[.slice (some ⟨w.heap.size + 1, 0, none⟩) k k]).run Try.prog w2 = .ok (.tuple #[]) (w2.setCells (w.heap.size + 1) 0 (List.replicate k (.int .i32 0))) :=
      fun ty => Lib.run_clear_slice w2 25 21 ty (.int .i32 0) Try.underlying25 zero21 rfl rfl _ 0 k k (by omega) (fun j hj => by rw [hC2.c j hj]; rfl) (fun j hj => hC2.fc _)
    go_wp2_with (simp only [hcl])
    have hC3 := hC2.clear hl1
    clear hcl hb1 hC2 fz1 fz2
    generalize w2.setCells (w.heap.size + 1) 0 (List.replicate k (.int .i32 0)) = w3 at *
    go_wp2_with fail
    go_loopw [49] (fun iv wr => ∃ (i : Nat), i ≤ n ∧ iv = .int .i64 i ∧ Cs i k S lv lo (w.heap.size + 1) (w.heap.size) w wr) (fun i _ => n - (intOf i).toNat)
    case atStart => exact ⟨0, Nat.zero_le _, rfl, hC3⟩
    case round =>
      clear hC3
      obtain ⟨i, hi, rfl, hC⟩ := hrel
      by_cases hlt : i < n
      · have hSi := hSk i hlt
        have d1 := hs.fr hC.fr (fun t _ e => hdis t (by omega) e) i hlt
        have d2 := hC.b.c
        have d3 := hC.c.at0 hSi
        have d4 := hC.fc (S i)
        have hle := ct_le i S (S i)
        have hC' := hC.step hl1 hSi
        clear hC
        simp only [] at d1 d3
        generalize ct i S (S i) = q at *
        generalize S i = c at *
        go_wp2_with fail
        go_roundw
        case rel => exact ⟨i + 1, by omega, by go_num, hC'⟩
        case measure => simp [intOf]; omega
      · obtain rfl : i = n := by omega
        go_wp2_with fail
        go_end0
        exact ⟨rfl, _, _, hC⟩

set_option maxHeartbeats 4000000 in
set_option maxRecDepth 20000 in
theorem count_i (n k : Nat) (hn : n ≤ 65536) (h1 : 1 ≤ k) (hk : k ≤ 65536) (S : Nat → Nat) (hSk : ∀ i, i < n → S i < k) (sb so scap lv lo : Nat) (w : World) (hs : RdI w sb so .i32 (fun i => (S i : Int)) n) (c1 : w.cell? ⟨lv, lo, none⟩ = some (.slice none 0 0)) (c2 : w.cell? ⟨lv, lo + 1, none⟩ = some (.slice none 0 0)) (f1 : w.frozen? ⟨lv, lo, none⟩ = false) (f2 : w.frozen? ⟨lv, lo + 1, none⟩ = false) (hdis : ∀ t, t < n → ¬ XC lv lo sb (so + t)) :
    Calls Try.prog 25 #[.pointer (some ⟨lv, lo, none⟩), .slice (some ⟨sb, so, none⟩) n scap, .int .i64 k] w fun e w' => e = .returned (.tuple #[]) ∧ ∃ gc gt, Cs n k S lv lo gc gt w w' := by
  have i1 : (0 : Int) < (k : Int) := by omega
  have hmk := make_run k hk
  have hl1 := World.block_lt_of_cell? _ _ c1
  go_enter Try.func25, Try.ntmps25
  go_wp2_with fail
  go_region
  · have hC := cs_start k S lv lo (w.heap.size) (w.heap.size + 1) w c1 c2 (.inl ⟨rfl, rfl⟩)
    have fz1 := (hC.fr.frz lv lo hl1).trans f1
    have fz2 := (hC.fr.frz lv (lo + 1) hl1).trans f2
    generalize ((((w.setCell ⟨lv, lo, none⟩ (.slice (some ⟨w.heap.size, 0, none⟩) k k)).setCell ⟨lv, lo + 1, none⟩ (.slice (some ⟨w.heap.size + 1, 0, none⟩) k k)).alloc (Obj.cells (Array.replicate k (Value.int IntKind.i32 0)) 21)).alloc (Obj.cells (Array.replicate k (Value.int IntKind.i32 0)) 21)).drew = w1 at *
    clear c1 c2 f1 f2 hmk
    have hb1 := hC.b.c
    have hb2 := hC.b.t
    go_wp2_with fail
    go_region
    have hC2 := hC.again hl1
    clear hb1 hb2 hC
    generalize ((w1.setCell ⟨lv, lo, none⟩ (.slice (some ⟨w.heap.size, 0, none⟩) k k)).setCell ⟨lv, lo + 1, none⟩ (.slice (some ⟨w.heap.size + 1, 0, none⟩) k k)).drew = w2 at *
    have hb1 := hC2.b.c
    have hcl : ∀ ty, (Builtin.clear_ #[25] ty #[.slice (some ⟨w.heap.size, 0, none⟩) k k]).run Try.prog w2 = .ok (.tuple #[]) (w2.setCells (w.heap.size) 0 (List.replicate k (.int .i32 0))) :=
      fun ty => Lib.run_clear_slice w2 25 21 ty (.int .i32 0) Try.underlying25 zero21 rfl rfl _ 0 k k (by omega) (fun j hj => by rw [hC2.c j hj]; rfl) (fun j hj => hC2.fc _)
    go_wp2_with (simp only [hcl])
    have hC3 := hC2.clear hl1
    clear hcl hb1 hC2 fz1 fz2
    generalize w2.setCells (w.heap.size) 0 (List.replicate k (.int .i32 0)) = w3 at *
    go_wp2_with fail
    go_loopw [49] (fun iv wr => ∃ (i : Nat), i ≤ n ∧ iv = .int .i64 i ∧ Cs i k S lv lo (w.heap.size) (w.heap.size + 1) w wr) (fun i _ => n - (intOf i).toNat)
    case atStart => exact ⟨0, Nat.zero_le _, rfl, hC3⟩
    case round =>
      clear hC3
      obtain ⟨i, hi, rfl, hC⟩ := hrel
      by_cases hlt : i < n
      · have hSi := hSk i hlt
        have d1 := hs.fr hC.fr (fun t _ e => hdis t (by omega) e) i hlt
        have d2 := hC.b.c
        have d3 := hC.c.at0 hSi
        have d4 := hC.fc (S i)
        have hle := ct_le i S (S i)
        have hC' := hC.step hl1 hSi
        clear hC
        simp only [] at d1 d3
        generalize ct i S (S i) = q at *
        generalize S i = c at *
        go_wp2_with fail
        go_roundw
        case rel => exact ⟨i + 1, by omega, by go_num, hC'⟩
        case measure => simp [intOf]; omega
      · obtain rfl : i = n := by omega
        go_wp2_with fail
        go_end0
        exact ⟨rfl, _, _, hC⟩
  · have hC := cs_start k S lv lo (w.heap.size + 1) (w.heap.size) w c1 c2 (.inr ⟨rfl, rfl⟩)
    have fz1 := (hC.fr.frz lv lo hl1).trans f1
    have fz2 := (hC.fr.frz lv (lo + 1) hl1).trans f2
    generalize ((((w.setCell ⟨lv, lo, none⟩ (.slice (some ⟨w.heap.size + 1, 0, none⟩) k k)).setCell ⟨lv, lo + 1, none⟩ (.slice (some ⟨w.heap.size, 0, none⟩) k k)).alloc (Obj.cells (Array.replicate k (Value.int IntKind.i32 0)) 21)).alloc (Obj.cells (Array.replicate k (Value.int IntKind.i32 0)) 21)).drew = w1 at *
    clear c1 c2 f1 f2 hmk
    have hb1 := hC.b.c
    have hb2 := hC.b.t
    go_wp2_with fail
    go_region
    have hC2 := hC.again hl1
    clear hb1 hb2 hC
    generalize ((w1.setCell ⟨lv, lo, none⟩ (.slice (some ⟨w.heap.size + 1, 0, none⟩) k k)).setCell ⟨lv, lo + 1, none⟩ (.slice (some ⟨w.heap.size, 0, none⟩) k k)).drew = w2 at *
    have hb1 := hC2.b.c
    have hcl : ∀ ty, (Builtin.clear_ #[25] ty #[.slice (some ⟨w.heap.size + 1, 0, none⟩) k k]).run Try.prog w2 = .ok (.tuple #[]) (w2.setCells (w.heap.size + 1) 0 (List.replicate k (.int .i32 0))) :=
      fun ty => Lib.run_clear_slice w2 25 21 ty (.int .i32 0) Try.underlying25 zero21 rfl rfl _ 0 k k (by omega) (fun j hj => by rw [hC2.c j hj]; rfl) (fun j hj => hC2.fc _)
    go_wp2_with (simp only [hcl])
    have hC3 := hC2.clear hl1
    clear hcl hb1 hC2 fz1 fz2
    generalize w2.setCells (w.heap.size + 1) 0 (List.replicate k (.int .i32 0)) = w3 at *
    go_wp2_with fail
    go_loopw [49] (fun iv wr => ∃ (i : Nat), i ≤ n ∧ iv = .int .i64 i ∧ Cs i k S lv lo (w.heap.size + 1) (w.heap.size) w wr) (fun i _ => n - (intOf i).toNat)
    case atStart => exact ⟨0, Nat.zero_le _, rfl, hC3⟩
    case round =>
      clear hC3
      obtain ⟨i, hi, rfl, hC⟩ := hrel
      by_cases hlt : i < n
      · have hSi := hSk i hlt
        have d1 := hs.fr hC.fr (fun t _ e => hdis t (by omega) e) i hlt
        have d2 := hC.b.c
        have d3 := hC.c.at0 hSi
        have d4 := hC.fc (S i)
        have hle := ct_le i S (S i)
        have hC' := hC.step hl1 hSi
        clear hC
        simp only [] at d1 d3
        generalize ct i S (S i) = q at *
        generalize S i = c at *
        go_wp2_with fail
        go_roundw
        case rel => exact ⟨i + 1, by omega, by go_num, hC'⟩
        case measure => simp [intOf]; omega
      · obtain rfl : i = n := by omega
        go_wp2_with fail
        go_end0
        exact ⟨rfl, _, _, hC⟩
end Go.Proofs.Qxb6606046a
