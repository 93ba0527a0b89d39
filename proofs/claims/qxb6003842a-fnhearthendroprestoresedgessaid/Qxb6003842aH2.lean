import Derived.Test.Qxb6003842aH1
import Derived.Deep.RegionLaw
import Derived.Deep.RegionHeldLaw
import Derived.Deep.AppendLies
set_option linter.unusedVariables false
set_option linter.unusedSimpArgs false
namespace Go.Proofs.Qxb6003842a
open Go.RowKit

/-- The cells of a node. -/
def nodeVals (blue red ans pk : Value) : List Value := [blue, red, .bool false, .int .i64 0, .int .i64 0, .int .i64 0, .int .i64 0, .bool false, .bool false, .slice none 0 0, .slice none 0 0, ans, .slice none 0 0, .slice none 0 0, pk]

theorem node_cells {w : World} {nb : Nat} {b r a p : Value} (h : At w nb 52 (nodeVals b r a p)) :
    w.cell? ⟨nb, 0, none⟩ = some b ∧ w.cell? ⟨nb, 1, none⟩ = some r ∧ w.cell? ⟨nb, 11, none⟩ = some a ∧ w.cell? ⟨nb, 14, none⟩ = some p := by
  simp only [h.cell]; exact ⟨rfl, rfl, rfl, rfl⟩

set_option maxHeartbeats 400000 in
theorem make_node (b r : Value) (ab ar : Option Addr) (lb cb lr cr : Nat) (hb : b = .slice ab lb cb) (hr : r = .slice ar lr cr) (w : World) :
    Calls Try.prog 8 #[b, r, .bool false, .int .i64 0] w fun e w' => e = .returned (.pointer (some ⟨w.heap.size, 0, none⟩)) ∧ w' = w.alloc (.cells (nodeVals b r (.slice none 0 0) (.slice none 0 0)).toArray 52) := by
  subst hb hr
  go_enter Try.func8, Try.ntmps8
  go_wp2
  go_ret
  exact ⟨rfl, rfl⟩

set_option maxHeartbeats 400000 in
theorem linked_any (nb lo1 lo2 : Nat) (b r a p : Value) (B R : List Int) (u : Int) (w : World) (hN : At w nb 52 (nodeVals b r a p)) (hB : Sl w lo1 b B) (hR : Sl w lo2 r R) (hlB : B.length ≤ 8192) (hlR : R.length ≤ 8192) :
    Calls Try.prog 25 #[.pointer (some ⟨nb, 0, none⟩), .int .i64 u] w fun e w' => e = .returned (.bool (decide (u ∈ B) || decide (u ∈ R))) ∧ w' = w := by
  obtain ⟨n0, n1, n2, n3⟩ := node_cells hN
  clear n2 n3
  by_cases hu : u ∈ B
  · have hd : decide (u ∈ B) = true := by simpa using hu
    rw [hd]
    go_enter Try.func25, Try.ntmps25
    go_wp2_with fail
    refine (contains_any b lo1 B u w hB hlB).mono ?_
    rintro e w' ⟨rfl, rfl⟩
    rw [hd]
    go_wp2_with fail
    go_ret
    exact ⟨rfl, rfl⟩
  · have hd : decide (u ∈ B) = false := by simpa using hu
    rw [hd]
    go_enter Try.func25, Try.ntmps25
    go_wp2_with fail
    refine (contains_any b lo1 B u w hB hlB).mono ?_
    rintro e w' ⟨rfl, rfl⟩
    rw [hd]
    go_wp2_with fail
    refine (contains_any r lo2 R u w' hR hlR).mono ?_
    rintro e w'' ⟨rfl, rfl⟩
    go_wp2_with fail
    go_ret
    exact ⟨rfl, rfl⟩

set_option maxHeartbeats 400000 in
theorem zzlinked_any (nb lo1 lo2 : Nat) (b r a p : Value) (B R : List Int) (u : Int) (w : World) (hN : At w nb 52 (nodeVals b r a p)) (hB : Sl w lo1 b B) (hR : Sl w lo2 r R) (hlB : B.length ≤ 8192) (hlR : R.length ≤ 8192) :
    Calls Try.prog 9 #[.pointer (some ⟨nb, 0, none⟩), .int .i64 u] w fun e w' => e = .returned (.bool (decide (u ∈ B) || decide (u ∈ R))) ∧ w' = w := by
  go_enter Try.func9, Try.ntmps9
  go_wp2_with fail
  refine (linked_any nb lo1 lo2 b r a p B R u w hN hB hR hlB hlR).mono ?_
  rintro e w' ⟨rfl, rfl⟩
  go_wp2_with fail
  go_ret
  exact ⟨rfl, rfl⟩

set_option maxHeartbeats 400000 in
theorem zzfield (nb : Nat) (b r a p : Value) (w : World) (hN : At w nb 52 (nodeVals b r a p)) :
    Calls Try.prog 11 #[.pointer (some ⟨nb, 0, none⟩)] w (fun e w' => e = .returned a ∧ w' = w) ∧
    Calls Try.prog 14 #[.pointer (some ⟨nb, 0, none⟩)] w (fun e w' => e = .returned r ∧ w' = w) ∧
    Calls Try.prog 15 #[.pointer (some ⟨nb, 0, none⟩)] w (fun e w' => e = .returned b ∧ w' = w) := by
  obtain ⟨n0, n1, n2, n3⟩ := node_cells hN
  refine ⟨?_, ?_, ?_⟩
  · go_enter Try.func11, Try.ntmps11
    go_wp2
    go_ret
    exact ⟨rfl, rfl⟩
  · go_enter Try.func14, Try.ntmps14
    go_wp2
    go_ret
    exact ⟨rfl, rfl⟩
  · go_enter Try.func15, Try.ntmps15
    go_wp2
    go_ret
    exact ⟨rfl, rfl⟩

set_option maxHeartbeats 400000 in
theorem zzpackages (nb : Nat) (b r a : Value) (po : Option Addr) (pl pc : Nat) (w : World) (hN : At w nb 52 (nodeVals b r a (.slice po pl pc))) :
    Calls Try.prog 12 #[.pointer (some ⟨nb, 0, none⟩)] w (fun e w' => e = .returned (.int .i64 pl) ∧ w' = w) := by
  obtain ⟨n0, n1, n2, n3⟩ := node_cells hN
  go_enter Try.func12, Try.ntmps12
  go_wp2
  go_ret
  exact ⟨rfl, rfl⟩

theorem own_shrink {w : World} {base : Nat} {e : TypeId} {g n cap : Nat} {xs : List Value} (h : w.ownsRow base e 1 (.slice (some ⟨g, 0, none⟩) n cap) n xs) (m : Nat) (hm : m ≤ n) : w.ownsRow base e 1 (.slice (some ⟨g, 0, none⟩) m cap) m (xs.take m) := by
  have hl := h.1
  rw [Nat.mul_one] at hl
  refine ⟨by simp; omega, ?_⟩
  rcases h.2 with ⟨h', _⟩ | ⟨g', cap', cur, hv, hg, hh, hn, hmx, hs, ht⟩
  · simp at h'
  · simp only [Value.slice.injEq, Option.some.injEq, Addr.mk.injEq, and_true, true_and] at hv
    obtain ⟨rfl, rfl⟩ := hv
    refine .inr ⟨g, cap, cur, rfl, hg, hh, by omega, hmx, hs, ?_⟩
    rw [← ht, List.take_take, Nat.mul_one, Nat.mul_one]
    congr 1
    omega

/-- 'remove' of the last, which is the only one of its value. -/
theorem idx_last {L : List Int} {u r : Int} (h : IdxOf (L ++ [u]) u r) (hn : u ∉ L) : r = (L.length : Int) := by
  rcases h with ⟨_, hm⟩ | ⟨k, rfl, hk, he, hf⟩
  · exact absurd (by simp) hm
  · simp at hk
    by_cases e : k = L.length
    · omega
    · exfalso
      have hk' : k < L.length := by omega
      rw [List.getD_eq_getElem?_getD, List.getElem?_append_left hk'] at he
      simp [hk'] at he
      exact hn (he ▸ List.getElem_mem hk')

set_option maxHeartbeats 1000000 in
theorem remove_last (g cap lo : Nat) (L : List Int) (u : Int) (w : World) (h : Sl w lo (.slice (some ⟨g, 0, none⟩) (L.length + 1) cap) (L ++ [u])) (hl : L.length ≤ 4096) (hn : u ∉ L) :
    Calls Try.prog 34 #[.slice (some ⟨g, 0, none⟩) (L.length + 1) cap, .int .i64 u] w fun e w' => e = .returned (.slice (some ⟨g, 0, none⟩) L.length cap) ∧ Sl w' lo (.slice (some ⟨g, 0, none⟩) L.length cap) L ∧ w' = w.setCell ⟨g, L.length, none⟩ (.int .i64 u) := by
  have h' : Sl w lo (.slice (some ⟨g, 0, none⟩) (L ++ [u]).length cap) (L ++ [u]) := by simpa using h
  have c1 := h'.cell L.length (by simp)
  rw [show (L ++ [u]).getD L.length 0 = u by simp [List.getD_eq_getElem?_getD]] at c1
  have hcap := (own_at h'.2).2.1
  rw [List.length_append, List.length_singleton] at hcap
  have f1 := h'.2.frozenAt L.length
  have fin : Hid (Sl (w.setCell ⟨g, L.length, none⟩ (.int .i64 u)) lo (.slice (some ⟨g, 0, none⟩) L.length cap) L) := by
    have hs := (h'.2.stored L.length (.int .i64 u)).1
    refine ⟨⟨_, _, rfl⟩, ?_⟩
    have h2 := own_shrink hs L.length (by simp)
    have e : ((vI .i64 (L ++ [u])).set L.length (.int .i64 u)).take L.length = vI .i64 L := by
      rw [List.take_set_of_le (by simp)]
      simp [vI]
    rw [e] at h2
    exact h2
  go_enter Try.func34, Try.ntmps34
  go_wp2_with fail
  refine (index_any _ lo (L ++ [u]) u w (by simpa using h) (by simp; omega)).mono ?_
  rintro e w' ⟨r, rfl, hr, rfl⟩
  obtain rfl := idx_last hr hn
  clear hr h h'
  go_wp2_with fail
  go_ret
  exact ⟨rfl, fin.out, rfl⟩

/-- 'append(s, u)' of one element: and where the new slice lies. -/
theorem wpList_app1_at {P : Program} (w : World) {ops : Array Oper} {rest : List Oper} {o : Oper} {a : Act} {Q : Exit → Act → World → Prop}
    (hg : o.guard = none) (s x : Operand) (t : TypeId) (hop : o.op = Op.call { callee := Callee.builtin Builtin.append, args := #[s, x], argTypes := #[t, t] })
    (base : Nat) (e : TypeId) (z : Value) (bytes : Nat) (h1 : P.underlying t = some (.slice e)) (h2 : (P.info? e).map (fun i => (i.zero, i.size, i.bytes)) = some (some z, 1, bytes)) (h3 : z.cells = #[z])
    (v : Value) (n : Nat) (xs : List Value) (hs : a.eval s = v) (hown : w.ownsRow base e 1 v n xs) (H : Nat) (u : Value) (hx : a.eval x = .slice (some ⟨H, 0, none⟩) 1 1)
    (hu : w.cell? ⟨H, 0, none⟩ = some u) (hu1 : u.oneCell' = true) (h63 : n + 1 ≤ maxLen) (hb : (n + 1) * bytes ≤ 140737488355328) (hbase : base ≤ w.heap.size)
    (hK : ∀ g cap w', w'.ownsRow base e 1 (.slice (some ⟨g, 0, none⟩) (n + 1) cap) (n + 1) (xs ++ [u]) → w.grownBy w' v.ownBlock → Hid (some g = v.ownBlock ∨ g = w.heap.size) → wpList P ops Q rest (a.put o.dst (.slice (some ⟨g, 0, none⟩) (n + 1) cap)) w') :
    wpList P ops Q (o :: rest) a w := by
  refine wpList_plain hg fun K hK' => ?_
  obtain ⟨i, hi, hz0, hz1, hz2⟩ := info_parts h2
  obtain ⟨v', w', hrun, r1, r2, r3, r4⟩ := run_append_own_at (P := P) w base t o.type e i z 1 bytes h1 hi hz0 hz1 hz2 (by rw [h3]; rfl) (by decide) v n xs hown ⟨H, 0, none⟩ 1 1 [u] rfl
    (by intro j y hj
        cases j with
        | zero => simp at hj; subst hj; simpa [Addr.add] using hu
        | succ j => simp at hj) (by intro y hy; simp at hy; subst hy; exact hu1) h63 hb hbase
  obtain ⟨g, cap, cur, rfl, _⟩ := own_parts r1 (fun hn => by have := (r3.1 hn).2; omega)
  unfold Oper.wp
  simp [execOp, hop, resolve, invoke, builtin, hs, hx, hrun, Result.andThen]
  refine hK' _ _ (hK _ _ w' r1 r2 ?_)
  rcases r4 with r4 | r4
  · exact Or.inl r4
  · exact Or.inr (by simpa [Value.ownBlock] using r4)

theorem info50 : (Try.prog.info? 28).map (fun i => (i.zero, i.size, i.bytes)) = some (some (.slice none 0 0), 1, 24) := by kernel_rfl

/-- w' is w but for the blocks of S, and new blocks. -/
structure Kp (w w' : World) (S : Nat → Prop) : Prop where
  os : w'.os = w.os
  tape : w'.tape = w.tape
  output : w'.output = w.output
  size : w.heap.size ≤ w'.heap.size
  block : ∀ k, k < w.heap.size → ¬ S k → w'.heap[k]? = w.heap[k]?
theorem Kp.refl (w : World) (S : Nat → Prop) : Kp w w S := ⟨rfl, rfl, rfl, Nat.le_refl _, fun _ _ _ => rfl⟩
theorem Kp.trans {a b c : World} {S : Nat → Prop} (h : Kp a b S) (k : Kp b c S) : Kp a c S :=
  ⟨k.os.trans h.os, k.tape.trans h.tape, k.output.trans h.output, Nat.le_trans h.size k.size, fun i hi hs => (k.block i (Nat.lt_of_lt_of_le hi h.size) hs).trans (h.block i hi hs)⟩
theorem Kp.mono {a b : World} {S T : Nat → Prop} (h : Kp a b S) (hst : ∀ k, S k → T k) : Kp a b T := ⟨h.os, h.tape, h.output, h.size, fun k hk hn => h.block k hk (fun hs => hn (hst k hs))⟩
theorem Kp.alloc {a w : World} {S : Nat → Prop} (h : Kp a w S) (o : Obj) : Kp a (w.alloc o) S :=
  h.trans ⟨rfl, rfl, rfl, by simp, fun k hk _ => Below.heap_alloc _ _ _ hk⟩
theorem Kp.drewN {a w : World} {S : Nat → Prop} (h : Kp a w S) (n : Nat) : Kp a (w.drewN n) S := h.trans ⟨rfl, rfl, rfl, Nat.le_refl _, fun _ _ _ => rfl⟩
theorem Kp.setCell {a w : World} {S : Nat → Prop} (h : Kp a w S) {p : Addr} (hp : S p.block) (u : Value) : Kp a (w.setCell p u) S :=
  h.trans ⟨rfl, rfl, rfl, by simp, fun k hk hn => Below.heap_setCell _ _ _ _ (fun e => hn (e ▸ hp))⟩
theorem Kp.grown {a w w' : World} {S : Nat → Prop} {row : Option Nat} (h : Kp a w S) (hg : w.grownBy w' row) (hr : ∀ k, row = some k → S k ∨ a.heap.size ≤ k) : Kp a w' S := by
  refine ⟨hg.os.trans h.os, hg.tape.trans h.tape, hg.output.trans h.output, Nat.le_trans h.size hg.size, fun k hk hn => ?_⟩
  have hne : some k ≠ row := by
    intro e
    rcases hr k e.symm with h1 | h1
    · exact hn h1
    · omega
  rw [hg.block k (Nat.lt_of_lt_of_le hk h.size) hne]
  exact h.block k hk hn

/-- 'append(nil, u)' as one step of a region that draws its order. -/
theorem step_app_nil {P : Program} {ops : Array Oper} {o : Oper} {a : Act} {w : World} {K : Act → World → Prop} {Q : Exit → Act → World → Prop} {E : Prop}
    (hg : o.guard = none) (s x : Operand) (t : TypeId) (hop : o.op = Op.call { callee := Callee.builtin Builtin.append, args := #[s, x], argTypes := #[t, t] })
    (e : TypeId) (z : Value) (bytes : Nat) (h1 : P.underlying t = some (.slice e)) (h2 : (P.info? e).map (fun i => (i.zero, i.size, i.bytes)) = some (some z, 1, bytes))
    (hs : a.eval s = .slice none 0 0) (H : Nat) (u : Value) (hx : a.eval x = .slice (some ⟨H, 0, none⟩) 1 1) (hu : w.cell? ⟨H, 0, none⟩ = some u) (hb : bytes ≤ 281474976710656)
    (hK : ∀ g cap w', w.grownBy w' none → K (a.put o.dst (.slice (some ⟨g, 0, none⟩) 1 cap)) w') :
    if Region.wanted o (yielded ops a.tmps) = true then Oper.wp P o a w K Q else E := by
  have hw : Region.wanted o (yielded ops a.tmps) = true := by simp [Region.wanted, hg]
  rw [if_pos hw]
  obtain ⟨i, hi, hz0, hz1, hz2⟩ := info_parts h2
  have hrun := run_append_nil (P := P) w t o.type e i z h1 hi hz0 ⟨H, 0, none⟩ 1 1 [u] (by simp [hz1]) (by
    intro j y hj
    cases j with
    | zero => simp at hj; subst hj; simpa [Addr.add] using hu
    | succ j => simp at hj) (by omega) (by omega) (by rw [hz2]; omega)
  unfold Oper.wp
  simp [execOp, hop, resolve, invoke, builtin, hs, hx, hrun, Result.andThen]
  refine hK _ _ _ ⟨rfl, rfl, rfl, by simp, fun k hk _ => ?_⟩
  exact Below.heap_alloc w.drew _ k hk

def HearPost (w w' : World) (nb lo1 : Nat) (b r : Value) (C : List Int) (u : Int) (pk : Nat) : Prop :=
  ∃ b' ag ac po pc, At w' nb 52 (nodeVals b' r (.slice (some ⟨ag, 0, none⟩) 1 ac) (.slice po pk pc)) ∧ w'.cell? ⟨ag, 0, none⟩ = some (.int .i64 u) ∧
    Sl w' lo1 b' C ∧ (∀ k, b'.ownBlock = some k → b.ownBlock = some k ∨ w.heap.size ≤ k) ∧ Kp w w' (fun k => k = nb ∨ b.ownBlock = some k)

theorem hear_fin0 {w w2 : World} {nb lo1 ag ac : Nat} {b b2 r : Value} {C : List Int} {u : Int} (hN : At w2 nb 52 (nodeVals b2 r (.slice (some ⟨ag, 0, none⟩) 1 ac) (.slice none 0 0))) (hc : w2.cell? ⟨ag, 0, none⟩ = some (.int .i64 u))
    (hS : Sl w2 lo1 b2 C) (hb : ∀ k, b2.ownBlock = some k → b.ownBlock = some k ∨ w.heap.size ≤ k) (hK : Kp w w2 (fun k => k = nb ∨ b.ownBlock = some k)) : HearPost w w2 nb lo1 b r C u 0 :=
  ⟨b2, ag, ac, none, 0, hN, hc, hS, hb, hK⟩

theorem hear_fin1 {w w2 w3 : World} {nb lo1 ag ac pg pc : Nat} {b b2 r : Value} {C : List Int} {u : Int} {o : Obj} (hN : At w2 nb 52 (nodeVals b2 r (.slice (some ⟨ag, 0, none⟩) 1 ac) (.slice none 0 0))) (hc : w2.cell? ⟨ag, 0, none⟩ = some (.int .i64 u))
    (hS : Sl w2 lo1 b2 C) (hb : ∀ k, b2.ownBlock = some k → b.ownBlock = some k ∨ w.heap.size ≤ k) (hK : Kp w w2 (fun k => k = nb ∨ b.ownBlock = some k)) (hag : ag ≠ nb) (hb2 : b2.ownBlock ≠ some nb)
    (hg : (w2.alloc o).grownBy w3 none) : HearPost w (w3.setCell ⟨nb, 14, none⟩ (.slice (some ⟨pg, 0, none⟩) 1 pc)) nb lo1 b r C u 1 := by
  refine ⟨b2, ag, ac, some ⟨pg, 0, none⟩, pc, ((hN.alloc o).grown hg (by simp)).set 14 _, ?_, ⟨hS.1, ?_⟩, hb, ((hK.alloc o).grown hg (by simp)).setCell (.inl rfl) _⟩
  · rw [World.cell?_setCell_other _ _ _ _ (by intro e; simp at e)]
    exact hg.cell (by rw [World.cell?_alloc_lt _ _ _ (World.block_lt_of_cell? _ _ hc)]; exact hc) (by simp)
  · exact ownsRow_setCell_other ((hS.2.alloc o).kept hg (by cases b2.ownBlock <;> simp)) hb2 _

set_option maxHeartbeats 2000000 in
theorem hear_no (nb lo1 : Nat) (b r : Value) (B : List Int) (u : Int) (acc : Bool) (ta : Option Addr) (tl tc : Nat) (htl : tl ≤ 4096) (hBl : B.length ≤ 4096) (w : World) (hN : At w nb 52 (nodeVals b r (.slice none 0 0) (.slice none 0 0)))
    (hB : Sl w lo1 b B) (hbn : b.ownBlock ≠ some nb) (hlo : lo1 ≤ w.heap.size) :
    Calls Try.prog 26 #[.pointer (some ⟨nb, 0, none⟩), .int .i64 u, .agg #[.bool acc, .slice ta tl tc]] w fun e w' => e = .returned (.tuple #[]) ∧
      HearPost w w' nb lo1 b r (if acc then B ++ [u] else B) u (if 0 < tl then 1 else 0) := by
  obtain ⟨n0, n1, n2, n3⟩ := node_cells hN
  have hlt := hN.lt
  have f11 := hN.frozen 11
  go_enter Try.func26, Try.ntmps26
  go_wp2_with (at_builtin; refine wpList_app1_at _ rfl _ _ 22 rfl (w.heap.size) 2 (.int .i64 0) 8 Try.underlying22 h_info2 rfl _ _ _ rfl (World.ownsRow_nil _ _ _ _) (w.heap.size + 1) (.int .i64 u) rfl ?c1 rfl ?c2 ?c3 ?c4 ?_)
  case c1 => simp
  case c2 => unfold maxLen; omega
  case c3 => omega
  case c4 => simp; omega
  intro ag ac w1 hoa hgr hag
  have hgr' : ((w.alloc (Obj.cells #[Value.bool acc, Value.slice ta tl tc] 56)).alloc (Obj.cells #[Value.int IntKind.i64 u] 2)).grownBy w1 none := hgr
  have hage : ag = w.heap.size + 1 + 1 := by
    rcases hag.out with h | h
    · simp [Value.ownBlock] at h
    · exact h
  have HAG := hide hage
  have bx : At w1 w.heap.size 56 [.bool acc, .slice ta tl tc] := ((At.new w 56 [.bool acc, .slice ta tl tc]).alloc _).grown hgr' (by simp)
  have hN1 : At w1 nb 52 (nodeVals b r (.slice none 0 0) (.slice none 0 0)) := ((hN.alloc _).alloc _).grown hgr' (by simp)
  have K1 : Kp w w1 (fun k => k = nb ∨ b.ownBlock = some k) := (((Kp.refl w _).alloc _).alloc _).grown hgr' (by simp)
  have hB1 : w1.ownsRow lo1 2 1 b B.length (vI .i64 B) := ((hB.2.alloc _).alloc _).kept hgr' (by cases b.ownBlock <;> simp)
  have ca := hoa.cellAt 0 (by omega)
  simp only [List.getElem?_cons_zero] at ca
  have hsz1 := hgr'.size
  simp only [World.size_alloc] at hsz1
  have bx0 := bx.cell 0
  have bx1 := bx.cell 1
  simp only [List.getElem?_cons_zero, List.getElem?_cons_succ] at bx0 bx1
  obtain ⟨p0, p1, p2, p3⟩ := node_cells hN1
  have q11 := hN1.frozen 11
  have hN2 : At (w1.setCell ⟨nb, 11, none⟩ (.slice (some ⟨ag, 0, none⟩) 1 ac)) nb 52 (nodeVals b r (.slice (some ⟨ag, 0, none⟩) 1 ac) (.slice none 0 0)) := hN1.set 11 _
  have hB2 : (w1.setCell ⟨nb, 11, none⟩ (.slice (some ⟨ag, 0, none⟩) 1 ac)).ownsRow lo1 2 1 b B.length (vI .i64 B) := ownsRow_setCell_other hB1 hbn _
  have K2 : Kp w (w1.setCell ⟨nb, 11, none⟩ (.slice (some ⟨ag, 0, none⟩) 1 ac)) (fun k => k = nb ∨ b.ownBlock = some k) := K1.setCell (.inl rfl) _
  have bx2 : At (w1.setCell ⟨nb, 11, none⟩ (.slice (some ⟨ag, 0, none⟩) 1 ac)) w.heap.size 56 [.bool acc, .slice ta tl tc] := bx.set_ne _ _ (show w.heap.size ≠ nb by omega)
  have ca2 : (w1.setCell ⟨nb, 11, none⟩ (.slice (some ⟨ag, 0, none⟩) 1 ac)).cell? ⟨ag, 0, none⟩ = some (.int .i64 u) := by
    rw [World.cell?_setCell_other _ _ _ _ (by intro e; simp at e)]; exact ca
  clear hgr hgr' hag hage n0 n1 n2 n3 f11 hoa hN hN1 hB1 bx K1
  cases acc with
  | false =>
    by_cases ht0 : 0 < tl
    · have q14 := hN2.frozen 14
      have r14 := (node_cells hN2).2.2.2
      have bxb := bx2.cell 1
      simp only [List.getElem?_cons_zero, List.getElem?_cons_succ] at bxb
      go_wp2_with fail
      generalize w1.setCell ⟨nb, 11, none⟩ (.slice (some ⟨ag, 0, none⟩) 1 ac) = w2 at *
      have hne : nb ≠ w.heap.size := by omega
      have hnb2 := hN2.lt
      go_region_law (refine step_app_nil rfl (.tmp 36) (.tmp 39) 50 rfl 28 (.slice none 0 0) 24 Try.underlying50 info50 (by simp [Act.eval, Act.put]) w2.heap.size (.slice ta tl tc) (by simp [Act.eval, Act.put]) (by simp) (by omega) ?_; intro pg pc w3 hgp; have hN3 : At w3 nb 52 (nodeVals b r (.slice (some ⟨ag, 0, none⟩) 1 ac) (.slice none 0 0)) := At.grown (by exact hN2.alloc _) hgp (by simp); have z1 := (node_cells hN3).2.2.2; have z2 := hN3.frozen 14)
      all_goals (go_end0; exact ⟨rfl, by rw [if_pos ht0]; exact hear_fin1 hN2 ca2 ⟨hB.1, hB2⟩ (fun k hk => .inl hk) K2 (by rw [HAG.out]; omega) hbn (show (w2.alloc (.cells #[.slice ta tl tc] 28)).grownBy w3 none from ⟨hgp.os, hgp.tape, hgp.output, hgp.size, hgp.block⟩)⟩)
    · go_wp2_with fail
      go_end0
      exact ⟨rfl, hear_fin0 hN2 ca2 ⟨hB.1, hB2⟩ (fun k hk => .inl hk) K2⟩
  | true =>
    have hrow := hide hB.2.lt
    obtain ⟨⟨bo, bc, rfl⟩, hB0⟩ := hB
    clear hB0
    have hsz2 : w.heap.size + 1 + 1 ≤ (w1.setCell ⟨nb, 11, none⟩ (.slice (some ⟨ag, 0, none⟩) 1 ac)).heap.size := by simpa using hsz1
    have hag1 := World.block_lt_of_cell? _ _ ca
    go_wp2_with (at_builtin; refine wpList_app1_at _ rfl _ _ 22 rfl lo1 2 (.int .i64 0) 8 Try.underlying22 h_info2 rfl _ _ _ rfl (hB2.alloc _) w1.heap.size (.int .i64 u) rfl ?d1 rfl ?d2 ?d3 ?d4 ?_)
    case d2 => unfold maxLen; omega
    case d3 => omega
    case d4 => first | omega | (simp; omega)
    intro bg bcap w3 hob hgr hbg
    have hbg' : some bg = (Value.slice bo B.length bc).ownBlock ∨ w.heap.size ≤ bg := by
      rcases hbg.out with h | h
      · exact .inl h
      · exact .inr (by omega)
    replace hbg' := hide hbg'
    have hbgn : Hid (bg ≠ nb) := by
      show bg ≠ nb
      rcases hbg'.out with h | h
      · intro e; rw [e] at h; exact hbn h.symm
      · omega
    have hN3 : At w3 nb 52 (nodeVals (.slice bo B.length bc) r (.slice (some ⟨ag, 0, none⟩) 1 ac) (.slice none 0 0)) := (hN2.alloc _).grown hgr (fun e => hbn e.symm)
    have K3 : Kp w w3 (fun k => k = nb ∨ (Value.slice bo B.length bc).ownBlock = some k) := (K2.alloc _).grown hgr (fun k hk => .inl (.inr hk))
    have ca3 : w3.cell? ⟨ag, 0, none⟩ = some (.int .i64 u) := hgr.cell (by rw [World.cell?_alloc_lt _ _ _ (by simpa using hag1)]; exact ca2) (by
      intro e
      have := (hrow.out _ e.symm).2
      have := HAG.out
      simp only at *
      omega)
    have bx3 : At w3 w.heap.size 56 [.bool true, .slice ta tl tc] := (bx2.alloc _).grown hgr (by
      intro e
      have := (hrow.out _ e.symm).2
      omega)
    have hob3 : w3.ownsRow lo1 2 1 (.slice (some ⟨bg, 0, none⟩) (B.length + 1) bcap) (B.length + 1) (vI .i64 (B ++ [u])) := by simpa [vI] using hob
    have f0 := hN3.frozen 0
    obtain ⟨e0, e1, e2, e3⟩ := node_cells hN3
    have bxa := bx3.cell 1
    simp only [List.getElem?_cons_zero, List.getElem?_cons_succ] at bxa
    have hN4 : At (w3.setCell ⟨nb, 0, none⟩ (.slice (some ⟨bg, 0, none⟩) (B.length + 1) bcap)) nb 52 (nodeVals (.slice (some ⟨bg, 0, none⟩) (B.length + 1) bcap) r (.slice (some ⟨ag, 0, none⟩) 1 ac) (.slice none 0 0)) := hN3.set 0 _
    have K4 : Kp w (w3.setCell ⟨nb, 0, none⟩ (.slice (some ⟨bg, 0, none⟩) (B.length + 1) bcap)) (fun k => k = nb ∨ (Value.slice bo B.length bc).ownBlock = some k) := K3.setCell (.inl rfl) _
    have ca4 : (w3.setCell ⟨nb, 0, none⟩ (.slice (some ⟨bg, 0, none⟩) (B.length + 1) bcap)).cell? ⟨ag, 0, none⟩ = some (.int .i64 u) := by
      rw [World.cell?_setCell_other _ _ _ _ (by intro e; simp at e; have := HAG.out; omega)]; exact ca3
    have bx4 : At (w3.setCell ⟨nb, 0, none⟩ (.slice (some ⟨bg, 0, none⟩) (B.length + 1) bcap)) w.heap.size 56 [.bool true, .slice ta tl tc] := bx3.set_ne _ _ (show w.heap.size ≠ nb by omega)
    have hS4 : Sl (w3.setCell ⟨nb, 0, none⟩ (.slice (some ⟨bg, 0, none⟩) (B.length + 1) bcap)) lo1 (.slice (some ⟨bg, 0, none⟩) (B.length + 1) bcap) (B ++ [u]) := by
      refine ⟨⟨some ⟨bg, 0, none⟩, bcap, by simp⟩, ?_⟩
      rw [List.length_append, List.length_singleton]
      exact ownsRow_setCell_other hob3 (by simp [Value.ownBlock]; exact hbgn.out) _
    have hbb : ∀ k, (Value.slice (some ⟨bg, 0, none⟩) (B.length + 1) bcap).ownBlock = some k → (Value.slice bo B.length bc).ownBlock = some k ∨ w.heap.size ≤ k := by
      intro k hk
      simp [Value.ownBlock] at hk
      subst hk
      rcases hbg'.out with h | h
      · exact .inl h.symm
      · exact .inr h
    have HBB := hide hbb
    clear hbb hob hob3 hgr hbg hbg' hB2 hN2 K2 bx2 ca2 hN3 K3 ca3 bx3 p0 p1 p2 p3 q11 bx0 bx1 ca
    by_cases ht0 : 0 < tl
    · have q14 := hN4.frozen 14
      have r14 := (node_cells hN4).2.2.2
      have bxb := bx4.cell 1
      simp only [List.getElem?_cons_zero, List.getElem?_cons_succ] at bxb
      go_wp2_with fail
      generalize w3.setCell ⟨nb, 0, none⟩ (.slice (some ⟨bg, 0, none⟩) (B.length + 1) bcap) = w4 at *
      have hne : nb ≠ w.heap.size := by omega
      have hnb2 := hN4.lt
      clear e0 e1 e2 e3 f0 bxa
      go_region_law (refine step_app_nil rfl (.tmp 36) (.tmp 39) 50 rfl 28 (.slice none 0 0) 24 Try.underlying50 info50 (by simp [Act.eval, Act.put]) w4.heap.size (.slice ta tl tc) (by simp [Act.eval, Act.put]) (by simp) (by omega) ?_; intro pg pc w5 hgp; have hN5 : At w5 nb 52 (nodeVals (.slice (some ⟨bg, 0, none⟩) (B.length + 1) bcap) r (.slice (some ⟨ag, 0, none⟩) 1 ac) (.slice none 0 0)) := At.grown (by exact hN4.alloc _) hgp (by simp); have z1 := (node_cells hN5).2.2.2; have z2 := hN5.frozen 14)
      all_goals (go_end0; exact ⟨rfl, by rw [if_pos ht0]; exact hear_fin1 hN4 ca4 hS4 HBB.out K4 (by rw [HAG.out]; omega) (by simp [Value.ownBlock]; exact hbgn.out) (show (w4.alloc (.cells #[.slice ta tl tc] 28)).grownBy w5 none from ⟨hgp.os, hgp.tape, hgp.output, hgp.size, hgp.block⟩)⟩)
    · go_wp2_with fail
      go_end0
      exact ⟨rfl, hear_fin0 hN4 ca4 hS4 HBB.out K4⟩
end Go.Proofs.Qxb6003842a
