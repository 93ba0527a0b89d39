import Derived.Test.Qxb6606046aV4
import Derived.ArgAppend
import Derived.Deep.RegionLaw
import Derived.Deep.RegionLawGrows
set_option linter.unusedVariables false
set_option linter.unusedSimpArgs false
namespace Go.Proofs.Qxb6606046a
open Go.RowKit

def zLv : Value := .agg #[.slice none 0 0, .slice none 0 0, .slice none 0 0]
theorem info45 : (Try.prog.info? 45).map (fun i => (i.zero, i.size, i.bytes)) = some (some zLv, 3, 72) := by kernel_rfl

/-- Levels that can be read. -/
def ReadL (w : World) (b o m : Nat) : Prop := ∀ j, j < 3 * m → ∃ u : Value, w.cell? ⟨b, o + j, none⟩ = some u ∧ u.oneCell' = true
/-- A slice of levels: nil, or cells that can be read up to its length and written up to its capacity. -/
def Lv (w : World) (ao : Option Addr) (n cap : Nat) : Prop :=
  (ao = none ∧ n = 0 ∧ cap = 0) ∨ ∃ b off, ao = some ⟨b, off, none⟩ ∧ n ≤ cap ∧ ReadL w b off n ∧ ∀ j, j < 3 * cap → (w.cell? ⟨b, off + j, none⟩).isSome = true ∧ w.frozen? ⟨b, off + j, none⟩ = false
/-- Its spare room. -/
def XL (ao : Option Addr) (n cap : Nat) : Nat → Nat → Prop := fun k o => ∃ b off, ao = some ⟨b, off, none⟩ ∧ k = b ∧ off + 3 * n ≤ o ∧ o < off + 3 * cap
/-- What 'append' leaves. -/
structure App (w : World) (ao : Option Addr) (n cap xb xo m : Nat) (b' off' cap' : Nat) (w' : World) : Prop where
  lv : Lv w' (some ⟨b', off', none⟩) (n + m) cap'
  fr : Fr w w' (XL ao n cap)
  at_ : (ao = some ⟨b', off', none⟩ ∧ cap' = cap ∧ n + m ≤ cap) ∨ w.heap.size ≤ b'
  lt : b' < w'.heap.size
  old : ∀ b off, ao = some ⟨b, off, none⟩ → ∀ j, j < 3 * n → w'.cell? ⟨b', off' + j, none⟩ = w.cell? ⟨b, off + j, none⟩
  new : ∀ j, j < 3 * m → w'.cell? ⟨b', off' + 3 * n + j, none⟩ = w.cell? ⟨xb, xo + j, none⟩

/-- The cells as a list. -/
theorem readL_list {w : World} {b o m : Nat} (h : ReadL w b o m) : ∃ L : List Value, L.length = m * 3 ∧ (∀ j u, L[j]? = some u → w.cell? ⟨b, o + j, none⟩ = some u) ∧ ∀ u ∈ L, u.oneCell' = true := by
  refine ⟨(List.range (m * 3)).map (fun j => (w.cell? ⟨b, o + j, none⟩).getD (.slice none 0 0)), by simp, fun j u hj => ?_, fun u hu => ?_⟩
  · simp at hj
    obtain ⟨t, ht, rfl⟩ := hj
    obtain ⟨hlt, rfl⟩ := List.getElem?_eq_some_iff.1 ht
    simp at hlt ⊢
    obtain ⟨u, hu, _⟩ := h j (by omega)
    rw [hu]; rfl
  · simp at hu
    obtain ⟨j, hj, rfl⟩ := hu
    obtain ⟨u, hu, h1⟩ := h j (by omega)
    rw [hu]; exact h1

theorem app_room {w : World} {b off n cap xb xo m : Nat} {news : List Value} (hL : Lv w (some ⟨b, off, none⟩) n cap) (hx : ReadL w xb xo m) (hl : news.length = m * 3) (hn : ∀ j u, news[j]? = some u → w.cell? ⟨xb, xo + j, none⟩ = some u) (h1 : ∀ u ∈ news, u.oneCell' = true) (hroom : n + m ≤ cap) (hcap : 0 < cap) :
    App w (some ⟨b, off, none⟩) n cap xb xo m b off cap (w.setCells b (off + n * 3) news) := by
  rcases hL with ⟨h, _⟩ | ⟨b', off', e, hnc, hr, hs⟩
  · cases h
  simp only [Option.some.injEq, Addr.mk.injEq, and_true] at e
  obtain ⟨rfl, rfl⟩ := e
  have hF : Fr w (w.setCells b (off + n * 3) news) (fun k o => k = b ∧ off + n * 3 ≤ o ∧ o < off + n * 3 + news.length) := Fr.setCells b _ _ w (Fr.refl _ _) (fun _ j hj => ⟨rfl, by omega, by omega⟩)
  have hin : ∀ j (hj : j < news.length), (w.setCells b (off + n * 3) news).cell? ⟨b, off + n * 3 + j, none⟩ = some news[j] := World.cell?_setCells_in b news _ w (fun j hj => by
    have := (hs (n * 3 + j) (by omega)).1
    rwa [← Nat.add_assoc] at this)
  have hlt : b < w.heap.size := by
    obtain ⟨u, hu⟩ := Option.isSome_iff_exists.1 (hs 0 (by omega)).1
    exact World.block_lt_of_cell? _ _ hu
  have hold : ∀ j, j < 3 * n → (w.setCells b (off + n * 3) news).cell? ⟨b, off + j, none⟩ = w.cell? ⟨b, off + j, none⟩ := fun j hj => hF.cel b _ hlt (fun h => by omega)
  refine ⟨.inr ⟨b, off, rfl, hroom, fun j hj => ?_, fun j hj => ?_⟩, ?_, .inl ⟨rfl, rfl, hroom⟩, Nat.lt_of_lt_of_le hlt hF.size, fun b2 off2 e j hj => ?_, fun j hj => ?_⟩
  · by_cases e : j < 3 * n
    · rw [hold j e]; exact hr j e
    · have := hin (j - n * 3) (by omega)
      rw [show off + n * 3 + (j - n * 3) = off + j by omega] at this
      exact ⟨_, this, h1 _ (List.getElem_mem _)⟩
  · rw [hF.som b _ hlt, hF.frz b _ hlt]; exact hs j hj
  · exact hF.mono (fun k o _ h => ⟨b, off, rfl, h.1, by omega, by omega⟩)
  · simp only [Option.some.injEq, Addr.mk.injEq, and_true] at e
    obtain ⟨rfl, rfl⟩ := e
    exact hold j hj
  · have := hin j (by omega)
    rw [show off + 3 * n + j = off + n * 3 + j by omega, this]
    exact (hn j _ (by simp)).symm
theorem app_grow {w w' : World} {ao : Option Addr} {n cap xb xo m : Nat} {olds news : List Value} {v' : Value} (hm : 0 < m) (hlo : olds.length = n * 3) (ho : ∀ b off, ao = some ⟨b, off, none⟩ → ∀ j u, olds[j]? = some u → w.cell? ⟨b, off + j, none⟩ = some u) (hl : news.length = m * 3) (hn : ∀ j u, news[j]? = some u → w.cell? ⟨xb, xo + j, none⟩ = some u) (h1 : ∀ u ∈ news, u.oneCell' = true) (h2 : ∀ u ∈ olds, u.oneCell' = true)
    (hw : w'.ownsRow w.heap.size 45 3 v' (n + m) (olds ++ news)) (hg : w.grownBy w' none) : ∃ b' cap', v' = .slice (some ⟨b', 0, none⟩) (n + m) cap' ∧ App w ao n cap xb xo m b' 0 cap' w' := by
  rcases hw.2 with ⟨_, h⟩ | ⟨g, c', cur, rfl, hb, hgg, hnc, hmx, hsz, htk⟩
  · omega
  have hA : At w' g 45 cur.toList := by unfold At; simpa using hgg
  have hF : Fr w w' (XL ao n cap) := Fr.of_below ⟨hg.os, hg.tape, hg.output, hg.size, fun k hk => hg.block k hk (by simp)⟩ _
  have hcell : ∀ j, j < (n + m) * 3 → w'.cell? ⟨g, j, none⟩ = (olds ++ news)[j]? := fun j hj => by
    rw [hA.cell, ← htk, List.getElem?_take_of_lt hj]
  refine ⟨g, c', rfl, .inr ⟨g, 0, rfl, hnc, fun j hj => ?_, fun j hj => ?_⟩, hF, .inr hb, hA.lt, fun b off e j hj => ?_, fun j hj => ?_⟩
  · rw [Nat.zero_add, hcell j (by omega)]
    have hlen : (olds ++ news).length = (n + m) * 3 := by rw [List.length_append, hlo, hl]; omega
    refine ⟨(olds ++ news)[j]'(by omega), by simp, ?_⟩
    rcases List.mem_append.1 (List.getElem_mem (l := olds ++ news) (n := j) (by omega)) with h | h
    · exact h2 _ h
    · exact h1 _ h
  · rw [Nat.zero_add]
    refine ⟨?_, hA.frozen j⟩
    rw [hA.cell]
    have : j < cur.toList.length := by simp; omega
    simp [this]
    simpa using this
  · rw [Nat.zero_add, hcell j (by omega), List.getElem?_append_left (by omega)]
    have hj' : j < olds.length := by omega
    rw [ho b off e j olds[j] (by simp [hj'])]
    simp [hj']
  · rw [show 0 + 3 * n + j = n * 3 + j by omega, hcell _ (by omega), List.getElem?_append_right (by omega), hlo]
    have hj' : j < news.length := by omega
    rw [hn j news[j] (by simp [hj'])]
    simp [hj', show n * 3 + j - n * 3 = j by omega]

section
variable {P : Program} {ops : Array Oper} {rest : List Oper} {o : Oper} {a : Act} {Q : Exit → Act → World → Prop}
/-- 'append' of levels, room or not. -/
theorem run_app (w : World) (ty : TypeId) (hu : P.underlying 26 = some (.slice 45)) (hi : (P.info? 45).map (fun i => (i.zero, i.size, i.bytes)) = some (some zLv, 3, 72)) (ao : Option Addr) (n cap : Nat) (hL : Lv w ao n cap) (xb xo m c : Nat) (hx : ReadL w xb xo m) (hm : 0 < m) (hb : n + m ≤ 131072) :
    ∃ b' off' cap' w', (Builtin.append_ #[26, 26] ty #[.slice ao n cap, .slice (some ⟨xb, xo, none⟩) m c]).run P w = .ok (.slice (some ⟨b', off', none⟩) (n + m) cap') w' ∧ App w ao n cap xb xo m b' off' cap' w' := by
  obtain ⟨i, hi, hz0, hz1, hz2⟩ := info_parts hi
  obtain ⟨news, hl, hn, h1⟩ := readL_list hx
  have hn' : ∀ j u, news[j]? = some u → w.cell? ((⟨xb, xo, none⟩ : Addr).add j) = some u := fun j u hj => by rw [Addr.add_lit]; exact hn j u hj
  rcases hL with ⟨rfl, rfl, rfl⟩ | ⟨b, off, rfl, hnc, hr, hs⟩
  · obtain ⟨v', w', hrun, r1, r2, r3⟩ := run_append_own (P := P) w w.heap.size 26 ty 45 i zLv 3 72 hu hi hz0 hz1 hz2 rfl (by decide) (.slice none 0 0) 0 [] ⟨by simp, .inl ⟨rfl, rfl⟩⟩ ⟨xb, xo, none⟩ m c news (by omega) hn' h1 (by unfold maxLen; omega) (by omega) (Nat.le_refl _)
    obtain ⟨b', cap', rfl, hA⟩ := app_grow (w := w) (w' := w') (ao := none) (n := 0) (cap := 0) (olds := []) hm rfl (fun b off e => by cases e) hl hn h1 (by simp) r1 r2
    exact ⟨b', 0, cap', w', hrun, hA⟩
  · by_cases hroom : n + m ≤ cap
    · have hrun := run_append_room_cells (P := P) w 26 ty 45 i hu hi b off n cap ⟨xb, xo, none⟩ m c news (by rw [hz1]; exact hl) hn' h1 hroom (fun j hj => by
        rw [hz1, Nat.add_assoc]; exact (hs (n * 3 + j) (by omega)).1) (fun j hj => by
        rw [hz1, Nat.add_assoc]; exact (hs (n * 3 + j) (by omega)).2)
      rw [hz1] at hrun
      exact ⟨b, off, cap, _, hrun, app_room (.inr ⟨b, off, rfl, hnc, hr, hs⟩) hx hl hn h1 hroom (by omega)⟩
    · obtain ⟨olds, hlo, ho, h2⟩ := readL_list hr
      obtain ⟨v', w', hrun, r1, r2⟩ := run_append_arg_grows (P := P) w 26 ty 45 i zLv 3 72 hu hi hz0 hz1 hz2 rfl (by decide) ⟨b, off, none⟩ n cap olds hlo (fun j u hj => by rw [Addr.add_lit]; exact ho j u hj) ⟨xb, xo, none⟩ m c news hl hn' (by omega) (by unfold maxLen; omega) (by omega)
      obtain ⟨b', cap', rfl, hA⟩ := app_grow (w := w) (w' := w') (ao := some ⟨b, off, none⟩) (n := n) (cap := cap) hm hlo (fun b2 off2 e => by
        simp only [Option.some.injEq, Addr.mk.injEq, and_true] at e
        obtain ⟨rfl, rfl⟩ := e
        exact ho) hl hn h1 h2 r1 r2
      exact ⟨b', 0, cap', w', hrun, hA⟩
theorem wpList_app (w : World) (hg : o.guard = none) (s x : Operand) (hop : o.op = Op.call { callee := Callee.builtin Builtin.append, args := #[s, x], argTypes := #[26, 26] }) (hu : P.underlying 26 = some (.slice 45)) (hi : (P.info? 45).map (fun i => (i.zero, i.size, i.bytes)) = some (some zLv, 3, 72))
    (ao : Option Addr) (n cap : Nat) (hs : a.eval s = .slice ao n cap) (xb xo m c : Nat) (hx : a.eval x = .slice (some ⟨xb, xo, none⟩) m c) (hL : Lv w ao n cap) (hX : ReadL w xb xo m) (hm : 0 < m) (hb : n + m ≤ 131072)
    (hK : ∀ b' off' cap' w', App w ao n cap xb xo m b' off' cap' w' → wpList P ops Q rest (a.put o.dst (.slice (some ⟨b', off', none⟩) (n + m) cap')) w') :
    wpList P ops Q (o :: rest) a w := by
  refine wpList_plain hg fun K hK' => ?_
  obtain ⟨b', off', cap', w', hrun, hA⟩ := run_app (P := P) w o.type hu hi ao n cap hL xb xo m c hX hm hb
  unfold Oper.wp
  simp [execOp, hop, resolve, invoke, builtin, hs, hx, hrun, Result.andThen]
  exact hK' _ _ (hK _ _ _ w' hA)
theorem step_app {w : World} {K : Act → World → Prop} {E : Prop} (hg : o.guard = none) (s x : Operand) (hop : o.op = Op.call { callee := Callee.builtin Builtin.append, args := #[s, x], argTypes := #[26, 26] }) (hu : P.underlying 26 = some (.slice 45)) (hi : (P.info? 45).map (fun i => (i.zero, i.size, i.bytes)) = some (some zLv, 3, 72))
    (ao : Option Addr) (n cap : Nat) (hs : a.eval s = .slice ao n cap) (xb xo m c : Nat) (hx : a.eval x = .slice (some ⟨xb, xo, none⟩) m c) (hL : Lv w ao n cap) (hX : ReadL w xb xo m) (hm : 0 < m) (hb : n + m ≤ 131072)
    (hK : ∀ b' off' cap' w', App w ao n cap xb xo m b' off' cap' w' → K (a.put o.dst (.slice (some ⟨b', off', none⟩) (n + m) cap')) w') :
    if Region.wanted o (yielded ops a.tmps) = true then Oper.wp P o a w K Q else E := by
  have hw : Region.wanted o (yielded ops a.tmps) = true := by simp [Region.wanted, hg]
  rw [if_pos hw]
  obtain ⟨b', off', cap', w', hrun, hA⟩ := run_app (P := P) w o.type hu hi ao n cap hL xb xo m c hX hm hb
  unfold Oper.wp
  simp [execOp, hop, resolve, invoke, builtin, hs, hx, hrun, Result.andThen]
  exact hK _ _ _ w' hA
end
end Go.Proofs.Qxb6606046a
