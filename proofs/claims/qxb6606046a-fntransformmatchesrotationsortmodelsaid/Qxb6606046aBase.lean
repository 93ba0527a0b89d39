import Derived.WalkKit
import Derived.ProofKit
import Derived.Below
import Derived.Laws.CopyOwn
import Derived.WalkSpells
set_option linter.unusedVariables false
set_option linter.unusedSimpArgs false
namespace Go.Proofs.Qxb6606046a
open Go.RowKit

theorem hide {p : Prop} (h : p) : Hid p := h
theorem ret_int {k : IntKind} {a b : Int} (h : a = b) : Ending.returned (.int k a) = .returned (.int k b) := by rw [h]

/-! A whole block of cells, as a list. -/
def At (w : World) (b : Nat) (t : TypeId) (cs : List Value) : Prop := w.heap[b]? = some (.cells cs.toArray t (0, 0))
def vN (k : IntKind) (L : List Nat) : List Value := L.map fun x : Nat => Value.int k (x : Int)
def vI (k : IntKind) (L : List Int) : List Value := L.map fun x : Int => Value.int k x
def vB (L : List Bool) : List Value := L.map fun x : Bool => Value.bool x

theorem At.cell {w : World} {b : Nat} {t : TypeId} {cs : List Value} (h : At w b t cs) (i : Nat) : w.cell? ⟨b, i, none⟩ = cs[i]? := by
  rw [cell_of_row w b i cs.toArray t (0,0) h]; simp
theorem At.frozen {w : World} {b : Nat} {t : TypeId} {cs : List Value} (h : At w b t cs) (i : Nat) : w.frozen? ⟨b, i, none⟩ = false := frozen_of_row w b i _ t h
theorem At.cellN {w : World} {b : Nat} {t : TypeId} {k : IntKind} {L : List Nat} (h : At w b t (vN k L)) (i : Nat) (hi : i < L.length) : w.cell? ⟨b, i, none⟩ = some (.int k (L.getD i 0 : Nat)) := by
  rw [h.cell]; simp [vN, hi]
theorem At.cellI {w : World} {b : Nat} {t : TypeId} {k : IntKind} {L : List Int} (h : At w b t (vI k L)) (i : Nat) (hi : i < L.length) : w.cell? ⟨b, i, none⟩ = some (.int k (L.getD i 0)) := by
  rw [h.cell]; simp [vI, hi]
theorem At.cellB {w : World} {b : Nat} {t : TypeId} {L : List Bool} (h : At w b t (vB L)) (i : Nat) (hi : i < L.length) : w.cell? ⟨b, i, none⟩ = some (.bool (L.getD i false)) := by
  rw [h.cell]; simp [vB, hi]
theorem At.lt {w : World} {b : Nat} {t : TypeId} {cs : List Value} (h : At w b t cs) : b < w.heap.size := (Array.getElem?_eq_some_iff.1 h).1
theorem At.below {B : Nat} {w w' : World} {b : Nat} {t : TypeId} {cs : List Value} (h : At w b t cs) (hb : Below B w w') (hB : b < B) : At w' b t cs := by
  unfold At; rw [hb.block b hB]; exact h
theorem At.grown {w w' : World} {row : Option Nat} {b : Nat} {t : TypeId} {cs : List Value} (h : At w b t cs) (hb : w.grownBy w' row) (hne : some b ≠ row) : At w' b t cs := by
  unfold At; rw [hb.block b h.lt hne]; exact h
theorem At.set {w : World} {b : Nat} {t : TypeId} {cs : List Value} (h : At w b t cs) (i : Nat) (v : Value) : At (w.setCell ⟨b, i, none⟩ v) b t (cs.set i v) := by
  unfold At; rw [heap_setCell_same w b i cs.toArray t v h]; simp
theorem At.set_ne {w : World} {b : Nat} {t : TypeId} {cs : List Value} (h : At w b t cs) (a : Addr) (v : Value) (hne : b ≠ a.block) : At (w.setCell a v) b t cs := by
  unfold At; rw [heap_setCell_other w a b v hne]; exact h
theorem At.drew {w : World} {b : Nat} {t : TypeId} {cs : List Value} (h : At w b t cs) : At w.drew b t cs := h
theorem At.alloc {w : World} {b : Nat} {t : TypeId} {cs : List Value} (h : At w b t cs) (o : Obj) : At (w.alloc o) b t cs := by
  unfold At; rw [Below.heap_alloc w o b h.lt]; exact h
theorem At.new (w : World) (t : TypeId) (cs : List Value) : At (w.alloc (.cells cs.toArray t)) w.heap.size t cs := heap_alloc_new w _

theorem vN_set (k : IntKind) (L : List Nat) (i x : Nat) : (vN k L).set i (.int k x) = vN k (L.set i x) := by simp [vN]
theorem vB_set (L : List Bool) (i : Nat) (x : Bool) : (vB L).set i (.bool x) = vB (L.set i x) := by simp [vB]
theorem vI_set (k : IntKind) (L : List Int) (i : Nat) (x : Int) : (vI k L).set i (.int k x) = vI k (L.set i x) := by simp [vI]
theorem vN_length (k : IntKind) (L : List Nat) : (vN k L).length = L.length := by simp [vN]
theorem vB_length (L : List Bool) : (vB L).length = L.length := by simp [vB]
theorem vI_length (k : IntKind) (L : List Int) : (vI k L).length = L.length := by simp [vI]
theorem vN_rep (k : IntKind) (n x : Nat) : List.replicate n (Value.int k (x : Int)) = vN k (List.replicate n x) := by simp [vN]
theorem vB_rep (n : Nat) (x : Bool) : List.replicate n (Value.bool x) = vB (List.replicate n x) := by simp [vB]

theorem vN_snoc (k : IntKind) (L : List Nat) (x : Nat) : vN k L ++ [Value.int k (x : Int)] = vN k (L ++ [x]) := by simp [vN]

/-- 'make([]T, n)': a new block of n zero cells. -/
theorem wpList_make_at {P : Program} (w : World) {ops : Array Oper} {rest : List Oper} {o : Oper} {a : Act} {Q : Exit → Act → World → Prop}
    (hg : o.guard = none) (l c : Operand) (t : TypeId) (hop : o.op = Op.makeSlice t l c)
    (e : TypeId) (z : Value) (bytes : Nat) (h1 : P.underlying t = some (.slice e)) (h2 : (P.info? e).map (fun i => (i.zero, i.size, i.bytes)) = some (some z, 1, bytes)) (h3 : z.cells = #[z])
    (kl kc : IntKind) (L C : Int) (m n : Nat) (hl : a.eval l = .int kl L) (hc : a.eval c = .int kc C) (hL : L = (m : Int)) (hC : C = (n : Int)) (hmn : m ≤ n) (b2 : bytes * n ≤ 281474976710656) (b3 : n ≤ 9223372036854775807)
    (hK : ∀ g w', Hid (g = w.heap.size) → Hid (w'.heap.size = g + 1) → At w' g e (List.replicate n z) → Below w.heap.size w w' → wpList P ops Q rest (a.put o.dst (.slice (some ⟨g, 0, none⟩) m n)) w') :
    wpList P ops Q (o :: rest) a w := by
  refine wpList_plain hg fun K hK' => ?_
  obtain ⟨i, hi, hz0, hz1, hz2⟩ := info_parts h2
  subst hL hC
  have b2' : (i.bytes : Int) * (n : Int) ≤ 281474976710656 := by
    rw [hz2]
    have h : ((bytes * n : Nat) : Int) ≤ 281474976710656 := by omega
    rwa [Int.natCast_mul] at h
  have hr := run_make (P := P) w t e i z h1 hi hz0 kl kc m n (by omega) (by omega) b2' (by omega)
  unfold Oper.wp
  simp [execOp, hop, hl, hc, hr, Result.andThen]
  have hcells : madeCells z.cells (n * i.size) = (List.replicate n z).toArray := by
    rw [hz1, h3, Nat.mul_one]
    apply Array.ext'
    rw [toList_madeCells_one]
  refine hK' _ _ (hK _ _ (show _ = _ from rfl) (show _ = _ by simp) ?_ ?_)
  · rw [hcells]; exact At.new w e _
  · exact (Below.refl _ _).alloc (Nat.le_refl _) _

/-- What is owned, laid open. -/
theorem own_parts {w : World} {base : Nat} {e : TypeId} {v : Value} {n : Nat} {xs : List Value} (h : w.ownsRow base e 1 v n xs) (hv : v ≠ .slice none 0 0) :
    ∃ g cap cur, v = .slice (some ⟨g, 0, none⟩) n cap ∧ base ≤ g ∧ At w g e cur ∧ n ≤ cap ∧ cur.length = cap ∧ cur.take n = xs := by
  rcases h.2 with ⟨h', _⟩ | ⟨g, cap, cur, rfl, hb, hg, hn, _, hs, ht⟩
  · exact absurd h' hv
  · refine ⟨g, cap, cur.toList, rfl, hb, by simpa [At] using hg, hn, by simpa using hs, by simpa using ht⟩

theorem own_of_at {w : World} {base : Nat} {e : TypeId} {g cap : Nat} {cs : List Value} (h : At w g e cs) (hb : base ≤ g) (hl : cs.length = cap) (hm : cap ≤ maxLen) (n : Nat) (hn : n ≤ cap) :
    w.ownsRow base e 1 (.slice (some ⟨g, 0, none⟩) n cap) n (cs.take n) :=
  ⟨by simp; omega, .inr ⟨g, cap, cs.toArray, rfl, hb, h, hn, hm, by simpa using hl, by simp⟩⟩

/-- 'append(s, u)', s the call's own (or nil): one element. -/
theorem wpList_app1 {P : Program} (w : World) {ops : Array Oper} {rest : List Oper} {o : Oper} {a : Act} {Q : Exit → Act → World → Prop}
    (hg : o.guard = none) (s x : Operand) (t : TypeId) (hop : o.op = Op.call { callee := Callee.builtin Builtin.append, args := #[s, x], argTypes := #[t, t] })
    (base : Nat) (e : TypeId) (z : Value) (bytes : Nat) (h1 : P.underlying t = some (.slice e)) (h2 : (P.info? e).map (fun i => (i.zero, i.size, i.bytes)) = some (some z, 1, bytes)) (h3 : z.cells = #[z])
    (v : Value) (n : Nat) (xs : List Value) (hs : a.eval s = v) (hown : w.ownsRow base e 1 v n xs) (H : Nat) (u : Value) (hx : a.eval x = .slice (some ⟨H, 0, none⟩) 1 1)
    (hu : w.cell? ⟨H, 0, none⟩ = some u) (hu1 : u.oneCell' = true) (h63 : n + 1 ≤ maxLen) (hb : (n + 1) * bytes ≤ 140737488355328) (hbase : base ≤ w.heap.size)
    (hK : ∀ g cap w', w'.ownsRow base e 1 (.slice (some ⟨g, 0, none⟩) (n + 1) cap) (n + 1) (xs ++ [u]) → w.grownBy w' v.ownBlock → wpList P ops Q rest (a.put o.dst (.slice (some ⟨g, 0, none⟩) (n + 1) cap)) w') :
    wpList P ops Q (o :: rest) a w := by
  refine wpList_plain hg fun K hK' => ?_
  obtain ⟨i, hi, hz0, hz1, hz2⟩ := info_parts h2
  obtain ⟨v', w', hrun, r1, r2, r3⟩ := run_append_own (P := P) w base t o.type e i z 1 bytes h1 hi hz0 hz1 hz2 (by rw [h3]; rfl) (by decide) v n xs hown ⟨H, 0, none⟩ 1 1 [u] rfl
    (by intro j y hj
        cases j with
        | zero => simp at hj; subst hj; simpa [Addr.add] using hu
        | succ j => simp at hj) (by intro y hy; simp at hy; subst hy; exact hu1) h63 hb hbase
  obtain ⟨g, cap, cur, rfl, _⟩ := own_parts r1 (fun hn => by have := (r3.1 hn).2; omega)
  unfold Oper.wp
  simp [execOp, hop, resolve, invoke, builtin, hs, hx, hrun, Result.andThen]
  exact hK' _ _ (hK _ _ w' r1 r2)

/-- 'append(s, u)' within the capacity: one element. -/
theorem wpList_appfit {P : Program} (w : World) {ops : Array Oper} {rest : List Oper} {o : Oper} {a : Act} {Q : Exit → Act → World → Prop}
    (hg : o.guard = none) (s x : Operand) (t : TypeId) (hop : o.op = Op.call { callee := Callee.builtin Builtin.append, args := #[s, x], argTypes := #[t, t] })
    (base : Nat) (e : TypeId) (z : Value) (bytes : Nat) (h1 : P.underlying t = some (.slice e)) (h2 : (P.info? e).map (fun i => (i.zero, i.size, i.bytes)) = some (some z, 1, bytes))
    (g k cap : Nat) (xs : List Value) (hs : a.eval s = .slice (some ⟨g, 0, none⟩) k cap) (hown : w.ownsRow base e 1 (.slice (some ⟨g, 0, none⟩) k cap) k xs) (H : Nat) (u : Value) (hx : a.eval x = .slice (some ⟨H, 0, none⟩) 1 1)
    (hu : w.cell? ⟨H, 0, none⟩ = some u) (hu1 : u.oneCell' = true) (hb : k + 1 ≤ cap)
    (hK : ∀ w', w'.ownsRow base e 1 (.slice (some ⟨g, 0, none⟩) (k + 1) cap) (k + 1) (xs ++ [u]) → w.grownBy w' (some g) → wpList P ops Q rest (a.put o.dst (.slice (some ⟨g, 0, none⟩) (k + 1) cap)) w') :
    wpList P ops Q (o :: rest) a w := by
  obtain ⟨i, hi, hz0, hz1, hz2⟩ := info_parts h2
  refine wpList_append_fits w hg s x t hop base e i 1 h1 hi hz1 g k cap xs hs hown ⟨H, 0, none⟩ 1 1 [u] hx rfl ?_ ?_ hb hK
  · intro j y hj
    cases j with
    | zero => simp at hj; subst hj; simpa [Addr.add] using hu
    | succ j => simp at hj
  · intro y hy; simp at hy; subst hy; exact hu1

theorem own_base {w : World} {base base' : Nat} {e : TypeId} {v : Value} {n : Nat} {xs : List Value} (h : w.ownsRow base e 1 v n xs) (hb : base' ≤ base) : w.ownsRow base' e 1 v n xs := by
  refine ⟨h.1, ?_⟩
  rcases h.2 with h' | ⟨g, cap, cur, hv, hg, r⟩
  · exact .inl h'
  · exact .inr ⟨g, cap, cur, hv, by omega, r⟩

theorem own_zero {w : World} {base : Nat} {e : TypeId} {g n cap : Nat} {xs : List Value} (h : w.ownsRow base e 1 (.slice (some ⟨g, 0, none⟩) n cap) n xs) : w.ownsRow base e 1 (.slice (some ⟨g, 0, none⟩) 0 cap) 0 [] := by
  refine ⟨by simp, ?_⟩
  rcases h.2 with ⟨h', _⟩ | ⟨g', cap', cur, hv, hg, hh, hn, hm, hs, ht⟩
  · simp at h'
  · simp only [Value.slice.injEq, Option.some.injEq, Addr.mk.injEq, and_true, true_and] at hv
    obtain ⟨rfl, rfl⟩ := hv
    exact .inr ⟨g, cap, cur, rfl, hg, hh, Nat.zero_le _, hm, hs, by simp⟩

theorem own_grown {w w' : World} {base g : Nat} {e : TypeId} {v : Value} {n : Nat} {xs : List Value} (h : w.ownsRow base e 1 v n xs) (hg : w.grownBy w' (some g)) (hb : g < base) : w'.ownsRow base e 1 v n xs := by
  refine h.kept hg ?_
  cases hv : v.ownBlock with
  | none => exact .inl rfl
  | some k => have := (h.lt k hv).1; exact .inr (by simp; omega)

theorem own_cell {w : World} {base : Nat} {e : TypeId} {g n cap : Nat} {k : IntKind} {L : List Nat} (h : w.ownsRow base e 1 (.slice (some ⟨g, 0, none⟩) n cap) n (vN k L)) (i : Nat) (hi : i < L.length) : w.cell? ⟨g, i, none⟩ = some (.int k (L.getD i 0 : Nat)) := by
  have hl := h.1
  rw [vN_length, Nat.mul_one] at hl
  rw [h.cellAt i (by omega)]
  simp [vN, hi]

theorem own_at {w : World} {base : Nat} {e : TypeId} {g n cap : Nat} {xs : List Value} (h : w.ownsRow base e 1 (.slice (some ⟨g, 0, none⟩) n cap) n xs) :
    base ≤ g ∧ n ≤ cap ∧ ∃ cur, At w g e cur ∧ cur.length = cap ∧ cur.take n = xs := by
  obtain ⟨g', cap', cur, hv, hb, hA, hn, hl, ht⟩ := own_parts h (by simp)
  simp only [Value.slice.injEq, Option.some.injEq, Addr.mk.injEq, and_true, true_and] at hv
  obtain ⟨rfl, rfl⟩ := hv
  exact ⟨hb, hn, cur, hA, hl, ht⟩

theorem own_below {w w' : World} {base B : Nat} {e : TypeId} {v : Value} {n : Nat} {xs : List Value} (h : w.ownsRow base e 1 v n xs) (hb : Below B w w') (hB : w.heap.size ≤ B) : w'.ownsRow base e 1 v n xs := by
  refine h.kept (row := none) ⟨hb.os, hb.tape, hb.output, hb.size, fun k hk _ => hb.block k (by omega)⟩ ?_
  cases v.ownBlock <;> simp

end Go.Proofs.Qxb6606046a
