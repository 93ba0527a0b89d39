import Derived.Test.Qxb6606046aBase
import Derived.Test.Qxb6606046aM5
import Derived.Deep.QuietTactic
import Derived.BigQuiet
import Derived.BigRegion
set_option linter.unusedVariables false
set_option linter.unusedSimpArgs false
namespace Go.Proofs.Qxb6606046a
open Go.RowKit

/-! ### Parts of memory that are read as numbers or truths -/
def RdI (w : World) (b o : Nat) (k : IntKind) (f : Nat → Int) (n : Nat) : Prop := ∀ i, i < n → w.cell? ⟨b, o + i, none⟩ = some (.int k (f i))
def RdB (w : World) (b o : Nat) (f : Nat → Bool) (n : Nat) : Prop := ∀ i, i < n → w.cell? ⟨b, o + i, none⟩ = some (.bool (f i))
def Fz (w : World) (b : Nat) : Prop := ∀ i, w.frozen? ⟨b, i, none⟩ = false

section
variable {w w' : World} {b o : Nat} {k : IntKind} {f : Nat → Int} {n : Nat}

theorem RdI.at (h : RdI w b o k f n) {i : Nat} (hi : i < n) : w.cell? ⟨b, o + i, none⟩ = some (.int k (f i)) := h i hi
theorem RdI.at0 (h : RdI w b 0 k f n) {i : Nat} (hi : i < n) : w.cell? ⟨b, i, none⟩ = some (.int k (f i)) := by have := h i hi; rwa [Nat.zero_add] at this
theorem RdB.at0 {f : Nat → Bool} (h : RdB w b 0 f n) {i : Nat} (hi : i < n) : w.cell? ⟨b, i, none⟩ = some (.bool (f i)) := by have := h i hi; rwa [Nat.zero_add] at this
theorem RdI.set (h : RdI w b o k f n) {i : Nat} (hi : i < n) (v : Int) : RdI (w.setCell ⟨b, o + i, none⟩ (.int k v)) b o k (upd f i v) n := by
  intro t ht
  by_cases e : t = i
  · subst e; rw [upd_same, World.cell?_setCell_same _ _ _ (h t ht)]
  · rw [upd_ne _ _ e, World.cell?_setCell_other _ _ _ _ (by simp [Ne.symm e])]; exact h t ht
theorem RdI.set0 (h : RdI w b 0 k f n) {i : Nat} (hi : i < n) (v : Int) : RdI (w.setCell ⟨b, i, none⟩ (.int k v)) b 0 k (upd f i v) n := by
  have := h.set hi v
  rwa [Nat.zero_add] at this
theorem RdB.set0 {f : Nat → Bool} (h : RdB w b 0 f n) {i : Nat} (hi : i < n) (v : Bool) : RdB (w.setCell ⟨b, i, none⟩ (.bool v)) b 0 (upd f i v) n := by
  intro t ht
  have ht' := h t ht
  rw [Nat.zero_add] at ht' ⊢
  by_cases e : t = i
  · subst e; rw [upd_same, World.cell?_setCell_same _ _ _ ht']
  · rw [upd_ne _ _ e, World.cell?_setCell_other _ _ _ _ (by simp [Ne.symm e])]; exact ht'
theorem RdI.ne (h : RdI w b o k f n) (a : Addr) (v : Value) (hne : ∀ i, i < n → a ≠ ⟨b, o + i, none⟩) : RdI (w.setCell a v) b o k f n := by
  intro t ht
  rw [World.cell?_setCell_other _ _ _ _ (hne t ht)]; exact h t ht
theorem RdI.neb (h : RdI w b o k f n) (a : Addr) (v : Value) (hne : a.block ≠ b) : RdI (w.setCell a v) b o k f n := h.ne a v (fun i _ e => hne (by rw [e]))
theorem RdB.neb {f : Nat → Bool} (h : RdB w b o f n) (a : Addr) (v : Value) (hne : a.block ≠ b) : RdB (w.setCell a v) b o f n := by
  intro t ht
  rw [World.cell?_setCell_other _ _ _ _ (fun e => hne (by rw [e]))]; exact h t ht
theorem cell_neb {a c : Addr} {v x : Value} (h : w.cell? c = some x) (hne : a.block ≠ c.block) : (w.setCell a v).cell? c = some x := by
  rw [World.cell?_setCell_other _ _ _ _ (fun e => hne (by rw [e]))]; exact h
theorem Fz.set (h : Fz w b) (a : Addr) (v : Value) : Fz (w.setCell a v) b := fun i => by rw [World.frozen?_setCell]; exact h i
theorem RdI.drewN (h : RdI w b o k f n) (m : Nat) : RdI (w.drewN m) b o k f n := h
theorem RdI.congr (h : RdI w b o k f n) {g : Nat → Int} (hg : ∀ i, i < n → f i = g i) : RdI w b o k g n := fun i hi => by rw [← hg i hi]; exact h i hi

/-- w' is w but for the cells of X, and new blocks. -/
structure Fr (w w' : World) (X : Nat → Nat → Prop) : Prop where
  os : w'.os = w.os
  tape : w'.tape = w.tape
  output : w'.output = w.output
  size : w.heap.size ≤ w'.heap.size
  blk : ∀ k, k < w.heap.size → (∀ o, ¬ X k o) → w'.heap[k]? = w.heap[k]?
  cel : ∀ k o, k < w.heap.size → ¬ X k o → w'.cell? ⟨k, o, none⟩ = w.cell? ⟨k, o, none⟩
  frz : ∀ k o, k < w.heap.size → w'.frozen? ⟨k, o, none⟩ = w.frozen? ⟨k, o, none⟩
  som : ∀ k o, k < w.heap.size → (w'.cell? ⟨k, o, none⟩).isSome = (w.cell? ⟨k, o, none⟩).isSome

theorem Fr.refl (w : World) (X : Nat → Nat → Prop) : Fr w w X := ⟨rfl, rfl, rfl, Nat.le_refl _, fun _ _ _ => rfl, fun _ _ _ _ => rfl, fun _ _ _ => rfl, fun _ _ _ => rfl⟩
theorem Fr.trans {a b c : World} {X : Nat → Nat → Prop} (h : Fr a b X) (k : Fr b c X) : Fr a c X :=
  ⟨k.os.trans h.os, k.tape.trans h.tape, k.output.trans h.output, Nat.le_trans h.size k.size,
    fun i hi hx => (k.blk i (Nat.lt_of_lt_of_le hi h.size) hx).trans (h.blk i hi hx),
    fun i o hi hx => (k.cel i o (Nat.lt_of_lt_of_le hi h.size) hx).trans (h.cel i o hi hx),
    fun i o hi => (k.frz i o (Nat.lt_of_lt_of_le hi h.size)).trans (h.frz i o hi),
    fun i o hi => (k.som i o (Nat.lt_of_lt_of_le hi h.size)).trans (h.som i o hi)⟩
theorem Fr.mono {a b : World} {X Y : Nat → Nat → Prop} (h : Fr a b X) (hxy : ∀ k o, k < a.heap.size → X k o → Y k o) : Fr a b Y :=
  ⟨h.os, h.tape, h.output, h.size, fun k hk hy => h.blk k hk (fun o hx => hy o (hxy k o hk hx)), fun k o hk hy => h.cel k o hk (fun hx => hy (hxy k o hk hx)), h.frz, h.som⟩
/-- What a callee touches in blocks that are new since a, or that a lets go. -/
theorem Fr.then {a b c : World} {X Y : Nat → Nat → Prop} (h : Fr a b X) (k : Fr b c Y) (hyx : ∀ i o, i < a.heap.size → Y i o → X i o) : Fr a c X :=
  ⟨k.os.trans h.os, k.tape.trans h.tape, k.output.trans h.output, Nat.le_trans h.size k.size,
    fun i hi hx => (k.blk i (Nat.lt_of_lt_of_le hi h.size) (fun o hy => hx o (hyx i o hi hy))).trans (h.blk i hi hx),
    fun i o hi hx => (k.cel i o (Nat.lt_of_lt_of_le hi h.size) (fun hy => hx (hyx i o hi hy))).trans (h.cel i o hi hx),
    fun i o hi => (k.frz i o (Nat.lt_of_lt_of_le hi h.size)).trans (h.frz i o hi),
    fun i o hi => (k.som i o (Nat.lt_of_lt_of_le hi h.size)).trans (h.som i o hi)⟩
theorem Fr.of_below {w w' : World} (h : Below w.heap.size w w') (X : Nat → Nat → Prop) : Fr w w' X :=
  ⟨h.os, h.tape, h.output, h.size, fun k hk _ => h.block k hk, fun k o hk _ => h.cell (p := ⟨k, o, none⟩) hk, fun k o hk => h.frozen (p := ⟨k, o, none⟩) hk, fun k o hk => by rw [h.cell (p := ⟨k, o, none⟩) hk]⟩
theorem Fr.alloc {a w : World} {X : Nat → Nat → Prop} (h : Fr a w X) (ob : Obj) : Fr a (w.alloc ob) X :=
  h.trans (Fr.of_below ((Below.refl _ _).alloc (Nat.le_refl _) _) X)
theorem Fr.drewN {a w : World} {X : Nat → Nat → Prop} (h : Fr a w X) (n : Nat) : Fr a (w.drewN n) X :=
  h.trans ⟨rfl, rfl, rfl, Nat.le_refl _, fun _ _ _ => rfl, fun _ _ _ _ => rfl, fun _ _ _ => rfl, fun _ _ _ => rfl⟩
theorem Fr.drew {a w : World} {X : Nat → Nat → Prop} (h : Fr a w X) : Fr a w.drew X :=
  h.trans ⟨rfl, rfl, rfl, Nat.le_refl _, fun _ _ _ => rfl, fun _ _ _ _ => rfl, fun _ _ _ => rfl, fun _ _ _ => rfl⟩
theorem som_set (w : World) (a c : Addr) (v : Value) : ((w.setCell a v).cell? c).isSome = (w.cell? c).isSome := by
  by_cases e : a = c
  · subst e
    cases h : w.cell? a with
    | none =>
      unfold World.cell? at h ⊢
      unfold World.setCell
      simp only [Array.getElem?_modify, if_true]
      cases hh : w.heap[a.block]? with
      | none => simp
      | some ob =>
        rw [hh] at h
        cases ob <;> simp_all
    | some u => rw [World.cell?_setCell_same _ _ _ h]; rfl
  · rw [World.cell?_setCell_other _ _ _ _ e]
theorem Fr.setCell {a w : World} {X : Nat → Nat → Prop} (h : Fr a w X) {bb oo : Nat} (v : Value) (hx : bb < a.heap.size → X bb oo) : Fr a (w.setCell ⟨bb, oo, none⟩ v) X := by
  refine h.then (Y := fun k o => k = bb ∧ o = oo) ⟨rfl, rfl, rfl, by simp, fun k hk hy => ?_, fun k o hk hy => ?_, fun k o hk => ?_, fun k o hk => ?_⟩ (fun i o hi ⟨h1, h2⟩ => by subst h1 h2; exact hx hi)
  · exact Below.heap_setCell _ _ _ _ (fun e => hy oo ⟨e, rfl⟩)
  · exact World.cell?_setCell_other _ _ _ _ (by simp; intro e1 e2; exact hy ⟨e1.symm, e2.symm⟩)
  · rw [World.frozen?_setCell]
  · exact som_set _ _ _ _
theorem Fr.below {w w' : World} {X : Nat → Nat → Prop} {N : Nat} (h : Fr w w' X) (hN : N ≤ w.heap.size) (hX : ∀ k o, X k o → N ≤ k) : Below N w w' :=
  ⟨h.os, h.tape, h.output, h.size, fun k hk => h.blk k (by omega) (fun o hx => by have := hX k o hx; omega)⟩

theorem RdI.fr {X : Nat → Nat → Prop} (h : RdI w b o k f n) (hf : Fr w w' X) (hx : ∀ i, i < n → ¬ X b (o + i)) : RdI w' b o k f n := by
  intro i hi
  rw [hf.cel b (o + i) (World.block_lt_of_cell? _ _ (h i hi)) (hx i hi)]; exact h i hi
theorem RdB.fr {f : Nat → Bool} {X : Nat → Nat → Prop} (h : RdB w b o f n) (hf : Fr w w' X) (hx : ∀ i, i < n → ¬ X b (o + i)) : RdB w' b o f n := by
  intro i hi
  rw [hf.cel b (o + i) (World.block_lt_of_cell? _ _ (h i hi)) (hx i hi)]; exact h i hi
theorem cell_fr {X : Nat → Nat → Prop} {x : Value} (h : w.cell? ⟨b, o, none⟩ = some x) (hf : Fr w w' X) (hx : ¬ X b o) : w'.cell? ⟨b, o, none⟩ = some x := by
  rw [hf.cel b o (World.block_lt_of_cell? _ _ h) hx]; exact h
theorem Fz.fr {X : Nat → Nat → Prop} (h : Fz w b) (hb : b < w.heap.size) (hf : Fr w w' X) : Fz w' b := fun i => by rw [hf.frz b i hb]; exact h i

end
end Go.Proofs.Qxb6606046a
