import Derived.Test.Qxb6003842aRows
import Derived.Test.Qxb6003842aBase
import Derived.Deep.QuietTactic
import Derived.BigQuiet
import Derived.Maps.AppendAt
import Derived.OpenShut
set_option linter.unusedVariables false
set_option linter.unusedSimpArgs false
namespace Go.Proofs.Qxb6003842a
open Go.RowKit

theorem h_info2 : (Try.prog.info? 2).map (fun i => (i.zero, i.size, i.bytes)) = some (some (.int .i64 0), 1, 8) := by kernel_rfl

/-- A slice of int64 that the call owns, at the head of its block (or nil). -/
def Sl (w : World) (lo : Nat) (v : Value) (L : List Int) : Prop := (∃ ao cap, v = .slice ao L.length cap) ∧ w.ownsRow lo 2 1 v L.length (vI .i64 L)

theorem Sl.split {w : World} {lo : Nat} {v : Value} {L : List Int} (h : Sl w lo v L) :
    (v = .slice none 0 0 ∧ L = []) ∨ ∃ g cap cur, v = .slice (some ⟨g, 0, none⟩) L.length cap ∧ lo ≤ g ∧ At w g 2 cur ∧ cur.length = cap ∧ L.length ≤ cap ∧ cur.take L.length = vI .i64 L := by
  by_cases hv : v = .slice none 0 0
  · left
    refine ⟨hv, ?_⟩
    obtain ⟨⟨ao, cap, h1⟩, _⟩ := h
    rw [hv] at h1
    simp only [Value.slice.injEq] at h1
    exact List.eq_nil_of_length_eq_zero h1.2.1.symm
  · right
    obtain ⟨g, cap, cur, h1, h2, h3, h4, h5, h6⟩ := own_parts h.2 hv
    exact ⟨g, cap, cur, h1, h2, h3, h5, h4, h6⟩

theorem Sl.cell {w : World} {lo g cap : Nat} {L : List Int} (h : Sl w lo (.slice (some ⟨g, 0, none⟩) L.length cap) L) (i : Nat) (hi : i < L.length) : w.cell? ⟨g, i, none⟩ = some (.int .i64 (L.getD i 0)) := by
  rw [h.2.cellAt i (by omega)]
  simp [vI, hi]

set_option maxHeartbeats 400000 in
theorem bytes6 (a1 a2 a3 : Option Addr) (l1 c1 l2 c2 l3 c3 : Nat) (u : Int) (b : Bool) (w : World) (h1 : l1 ≤ maxLen) (h2 : l2 ≤ maxLen) (h3 : l3 ≤ maxLen) :
    Calls Try.prog 6 #[.slice a1 l1 c1, .slice a2 l2 c2, .int .i64 u, .bool b, .slice a3 l3 c3] w fun e w' => (e = .returned (.bool (decide (l1 + l2 + l3 ≤ 1048576)))) ∧ w' = w := by
  unfold maxLen at h1 h2 h3
  by_cases k1 : l1 ≤ 1048576
  · by_cases k2 : l2 ≤ 1048576
    · by_cases k12 : l1 + l2 ≤ 1048576
      · by_cases k3 : l3 ≤ 1048576
        · by_cases k : l1 + l2 + l3 ≤ 1048576
          · go_enter Try.func6, Try.ntmps6
            go_wp2
            go_ret
            exact ⟨by simp [k], rfl⟩
          · go_enter Try.func6, Try.ntmps6
            go_wp2
            go_ret
            exact ⟨by simp; omega, rfl⟩
        · go_enter Try.func6, Try.ntmps6
          go_wp2
          go_ret
          exact ⟨by simp; omega, rfl⟩
      · go_enter Try.func6, Try.ntmps6
        go_wp2
        go_ret
        exact ⟨by simp; omega, rfl⟩
    · go_enter Try.func6, Try.ntmps6
      go_wp2
      go_ret
      exact ⟨by simp; omega, rfl⟩
  · go_enter Try.func6, Try.ntmps6
    go_wp2
    go_ret
    exact ⟨by simp; omega, rfl⟩

/-- A slice of int64 that can be read. -/
def Rs (w : World) (a : Option Addr) (len cap : Nat) (L : List Int) : Prop :=
  L.length = len ∧ ((a = none ∧ len = 0 ∧ cap = 0) ∨ ∃ x, a = some x ∧ ∀ i, i < len → w.cell? (x.add i) = some (.int .i64 (L.getD i 0)))

theorem Sl.rs {w : World} {lo : Nat} {v : Value} {L : List Int} (h : Sl w lo v L) : ∃ a cap, v = .slice a L.length cap ∧ Rs w a L.length cap L := by
  rcases h.split with ⟨rfl, rfl⟩ | ⟨g, cap, cur, rfl, hr⟩
  · exact ⟨none, 0, rfl, rfl, .inl ⟨rfl, rfl, rfl⟩⟩
  · refine ⟨_, cap, rfl, rfl, .inr ⟨_, rfl, fun i hi => ?_⟩⟩
    rw [← h.cell i hi, Addr.add_lit, Nat.zero_add]

theorem list_ext_getD {A B : List Int} (hl : A.length = B.length) (h : ∀ t, t < B.length → A.getD t 0 = B.getD t 0) : A = B := by
  apply List.ext_getElem hl
  intro i h1 h2
  have := h i h2
  simpa [List.getD_eq_getElem?_getD, h1, h2] using this

set_option maxHeartbeats 1000000 in
theorem hclone_some (x : Addr) (len cap : Nat) (zs : List Int) (w : World) (hl : zs.length = len) (hlen : len ≤ 4096) (hcell : ∀ i, i < len → w.cell? (x.add i) = some (.int .i64 (zs.getD i 0))) :
    Calls Try.prog 7 #[.slice (some x) len cap] w fun e w' => ∃ g, e = .returned (.slice (some ⟨g, 0, none⟩) len len) ∧ w.heap.size ≤ g ∧ At w' g 2 (vI .i64 zs) ∧ Below w.heap.size w w' := by
  have hnil := fun (w : World) (a : Option Addr) (n c n' c' : Nat) => Lib.run_eql_slice_nil (P := Try.prog) w 22 _ a n c n' c' Try.underlying22
  have hx : 0 < len → ∃ b off, x = ⟨b, off, none⟩ ∧ ∀ j, j < len → w.cell? ⟨b, off + j, none⟩ = some (.int .i64 (zs.getD j 0)) := by
    intro h0
    obtain ⟨b, off, h1, h2⟩ := ints_at (by rw [hl]; exact hcell) (by rw [hl]; exact h0)
    exact ⟨b, off, h1, by rw [← hl]; exact h2⟩
  have HL := hide hl
  clear hl hcell
  rcases Nat.eq_zero_or_pos len with h0 | h0
  · have hz : zs = [] := List.eq_nil_of_length_eq_zero (by rw [HL.out]; exact h0)
    subst hz
    subst h0
    clear hx HL
    go_enter Try.func7, Try.ntmps7
    go_wp2_with (at_make; refine wpList_make_at _ rfl _ _ 22 rfl 2 (.int .i64 0) 8 Try.underlying22 h_info2 rfl _ _ _ _ 0 0 rfl rfl rfl rfl (Nat.le_refl _) (by omega) (by omega) ?_)
    intro g w1 hg hsz hA hB
    clear hsz
    go_wp2_with fail
    refine wp_loop_rounds 1 ?_
    rw [rounds_succ]
    go_wp2_with fail
    go_ret
    exact ⟨g, rfl, by rw [hg.out]; exact Nat.le_refl _, hA, hB⟩
  · obtain ⟨b, off, rfl, hc⟩ := hx h0
    go_enter Try.func7, Try.ntmps7
    go_wp2_with (at_make; refine wpList_make_at _ rfl _ _ 22 rfl 2 (.int .i64 0) 8 Try.underlying22 h_info2 rfl _ _ _ _ len len rfl rfl rfl rfl (Nat.le_refl _) (by omega) (by omega) ?_)
    intro g w1 hg hsz hA hB
    clear hsz
    have A1 : At w1 g 2 (vI .i64 (List.replicate len 0)) := by simpa [vI] using hA
    clear hA
    replace hc := hide hc
    go_wp2_with fail
    go_loopw [4] (fun iv wr => ∃ (i : Nat) (C : List Int), i ≤ len ∧ iv = .int .i64 i ∧ C.length = len ∧ Hid (∀ t, t < i → C.getD t 0 = zs.getD t 0) ∧ At wr g 2 (vI .i64 C) ∧ Below w.heap.size w wr) (fun i _ => len - (intOf i).toNat)
    case atStart => exact ⟨0, _, Nat.zero_le _, rfl, by simp, fun t ht => by omega, A1, hB⟩
    case round =>
      clear A1 hB
      obtain ⟨i, C, hi, rfl, hCl, HC, hAc, hB⟩ := hrel
      by_cases hlt : i < len
      · have c0 := hc.out i hlt
        have hblt := World.block_lt_of_cell? _ _ c0
        have c1 : wr.cell? ⟨b, off + i, none⟩ = some (.int .i64 (zs.getD i 0)) := by rw [hB.cell hblt]; exact c0
        have c2 := hAc.cellI i (by omega)
        have f2 := hAc.frozen i
        obtain ⟨z, hz⟩ : ∃ z, zs.getD i 0 = z := ⟨_, rfl⟩
        rw [hz] at c1
        have HZ := hide hz
        clear c0 hblt hz
        go_wp2_with fail
        go_roundw
        case rel =>
          refine ⟨i + 1, C.set i z, by omega, by go_num, by simp [hCl], ?_, by rw [← vI_set]; exact hAc.set _ _, hB.setCell (by rw [hg.out]; exact Nat.le_refl _) _⟩
          intro t ht
          simp only [List.getD_eq_getElem?_getD, List.getElem?_set]
          by_cases e : i = t
          · subst e; rw [← HZ.out]; simp [hCl, hlt, List.getD_eq_getElem?_getD]
          · rw [if_neg e]; exact HC.out t (by omega)
        case measure => simp [intOf]; omega
      · obtain rfl : i = len := by omega
        have hCz : C = zs := list_ext_getD (by rw [hCl, HL.out]) (fun t ht => HC.out t (by rw [← HL.out]; exact ht))
        subst hCz
        go_wp2_with fail
        go_ret
        exact ⟨g, rfl, by rw [hg.out]; exact Nat.le_refl _, hAc, hB⟩

set_option maxHeartbeats 400000 in
theorem hclone_nil (w : World) : Calls Try.prog 7 #[.slice none 0 0] w fun e w' => e = .returned (.slice none 0 0) ∧ w' = w := by
  have hnil := fun (w : World) (a : Option Addr) (n c n' c' : Nat) => Lib.run_eql_slice_nil (P := Try.prog) w 22 _ a n c n' c' Try.underlying22
  go_enter Try.func7, Try.ntmps7
  go_wp2
  go_ret
  exact ⟨rfl, rfl⟩

/-- 'zzClone': whatever slice of int64: a new one of the same elements, in a block of its own (or nil). -/
theorem hclone_any (a : Option Addr) (len cap : Nat) (L : List Int) (w : World) (hlen : len ≤ 4096) (h : Rs w a len cap L) :
    Calls Try.prog 7 #[.slice a len cap] w fun e w' => ∃ v, e = .returned v ∧ Sl w' w.heap.size v L ∧ Below w.heap.size w w' := by
  obtain ⟨hl, h⟩ := h
  rcases h with ⟨rfl, rfl, rfl⟩ | ⟨x, rfl, hc⟩
  · obtain rfl := List.eq_nil_of_length_eq_zero hl
    refine (hclone_nil w).mono ?_
    rintro e w' ⟨rfl, rfl⟩
    exact ⟨_, rfl, ⟨⟨none, 0, rfl⟩, World.ownsRow_nil _ _ _ _⟩, Below.refl _ _⟩
  · refine (hclone_some x len cap L w hl hlen hc).mono ?_
    rintro e w' ⟨g, rfl, hge, hA, hB⟩
    refine ⟨_, rfl, ⟨⟨_, _, by rw [hl]⟩, ?_⟩, hB⟩
    have := own_of_at hA hge (by rw [vI_length, hl]) (by unfold maxLen; omega) len (Nat.le_refl _)
    rw [List.take_of_length_le (by rw [vI_length, hl]; exact Nat.le_refl _)] at this
    rw [hl]
    exact this

/-- What 'slices.Index' finds. -/
def IdxOf (L : List Int) (u r : Int) : Prop := (r = -1 ∧ u ∉ L) ∨ ∃ k : Nat, r = k ∧ k < L.length ∧ L.getD k 0 = u ∧ ∀ j, j < k → L.getD j 0 ≠ u

theorem not_mem_of {L : List Int} {u : Int} (h : ∀ j, j < L.length → L.getD j 0 ≠ u) : u ∉ L := by
  intro hm
  obtain ⟨i, hi, he⟩ := List.mem_iff_getElem.1 hm
  exact h i hi (by simp [List.getD_eq_getElem?_getD, hi, he])

set_option maxHeartbeats 1000000 in
theorem index_any (v : Value) (lo : Nat) (L : List Int) (u : Int) (w : World) (h : Sl w lo v L) (hl : L.length ≤ 8192) :
    Calls Try.prog 35 #[v, .int .i64 u] w fun e w' => ∃ r, e = .returned (.int .i64 r) ∧ IdxOf L u r ∧ w' = w := by
  rcases h.split with ⟨rfl, rfl⟩ | ⟨g, cap, cur, rfl, hr⟩
  · clear h
    go_enter Try.func35, Try.ntmps35
    go_wp2_with fail
    refine wp_loop_rounds 1 ?_
    rw [rounds_succ]
    go_wp2_with fail
    go_ret
    exact ⟨-1, rfl, .inl ⟨rfl, by simp⟩, rfl⟩
  · clear hr
    go_enter Try.func35, Try.ntmps35
    go_wp2_with fail
    go_loop [8] (fun iv => ∃ i : Nat, i ≤ L.length ∧ iv = .int .i64 i ∧ Hid (∀ j, j < i → L.getD j 0 ≠ u)) (fun i => L.length - (intOf i).toNat)
    case atStart => exact ⟨0, Nat.zero_le _, rfl, fun j hj => by omega⟩
    case round =>
      obtain ⟨i, hi, rfl, HI⟩ := hrel
      by_cases hlt : i < L.length
      · have c1 := h.cell i hlt
        obtain ⟨y, hy⟩ : ∃ y, L.getD i 0 = y := ⟨_, rfl⟩
        rw [hy] at c1
        by_cases he : u = y
        · have hb : (u == y) = true := beq_iff_eq.2 he
          have HE := hide (hy.trans he.symm)
          clear he hy
          go_wp2_with fail
          go_ret
          exact ⟨i, rfl, .inr ⟨i, rfl, hlt, HE.out, HI.out⟩, rfl⟩
        · have hb : (u == y) = false := beq_eq_false_iff_ne.2 he
          have HE : Hid (L.getD i 0 ≠ u) := by show _ ≠ _; rw [hy]; exact Ne.symm he
          clear he hy
          go_wp2_with fail
          go_round
          case rel =>
            refine ⟨i + 1, by omega, by go_num, fun j hj => ?_⟩
            by_cases e : j = i
            · rw [e]; exact HE.out
            · exact HI.out j (by omega)
          case measure => simp [intOf]; omega
      · obtain rfl : i = L.length := by omega
        go_wp2_with fail
        go_ret
        exact ⟨-1, rfl, .inl ⟨rfl, not_mem_of HI.out⟩, rfl⟩

set_option maxHeartbeats 400000 in
theorem contains_any (v : Value) (lo : Nat) (L : List Int) (u : Int) (w : World) (h : Sl w lo v L) (hl : L.length ≤ 8192) :
    Calls Try.prog 33 #[v, .int .i64 u] w fun e w' => e = .returned (.bool (decide (u ∈ L))) ∧ w' = w := by
  go_enter Try.func33, Try.ntmps33
  go_wp2_with fail
  refine (index_any v lo L u w h hl).mono ?_
  rintro e w' ⟨r, rfl, hr, rfl⟩
  rcases hr with ⟨rfl, hm⟩ | ⟨k, rfl, hk, hg, _⟩
  · go_wp2_with fail
    go_ret
    exact ⟨by simp [hm], rfl⟩
  · have hm : u ∈ L := by rw [← hg]; simp [List.getD_eq_getElem?_getD, hk]
    clear hg
    go_wp2_with fail
    go_ret
    exact ⟨by simp [hm], rfl⟩

set_option maxHeartbeats 1000000 in
theorem same_any (v1 v2 : Value) (lo1 lo2 : Nat) (L : List Int) (w : World) (h1 : Sl w lo1 v1 L) (h2 : Sl w lo2 v2 L) (hl : L.length ≤ 8192) :
    Calls Try.prog 13 #[v1, v2] w fun e w' => ∃ k, e = .returned (.bool true) ∧ w' = w.drewN k := by
  rcases h1.split with ⟨rfl, rfl⟩ | ⟨g1, cap1, cur1, rfl, hr1⟩
  · rcases h2.1 with ⟨ao, cap, rfl⟩
    clear h1 h2
    go_enter Try.func13, Try.ntmps13
    go_wp2_with fail
    refine wp_loop_rounds 1 ?_
    rw [rounds_succ]
    go_wp2_with fail
    go_ret
    exact ⟨0, rfl, rfl⟩
  · rcases h2.split with ⟨rfl, rfl⟩ | ⟨g2, cap2, cur2, rfl, hr2⟩
    · clear h1 h2 hr1
      go_enter Try.func13, Try.ntmps13
      go_wp2_with fail
      refine wp_loop_rounds 1 ?_
      rw [rounds_succ]
      go_wp2_with fail
      go_ret
      exact ⟨0, rfl, rfl⟩
    · clear hr1 hr2
      obtain ⟨n, hn⟩ : ∃ n, L.length = n := ⟨_, rfl⟩
      have cc1 := h1.cell
      have cc2 := h2.cell
      rw [hn] at cc1 cc2 hl ⊢
      replace cc1 := hide cc1
      replace cc2 := hide cc2
      clear h1 h2 hn
      have hnn : ((n : Int) != (n : Int)) = false := by simp
      go_enter Try.func13, Try.ntmps13
      go_wp2_with fail
      go_loopw [5] (fun iv wr => ∃ i k : Nat, i ≤ n ∧ iv = .int .i64 i ∧ wr = w.drewN k) (fun i _ => n - (intOf i).toNat)
      case atStart => exact ⟨0, 0, Nat.zero_le _, rfl, rfl⟩
      case round =>
        obtain ⟨i, k, hi, rfl, hw⟩ := hrel
        by_cases hlt : i < n
        · have c1 : wr.cell? ⟨g1, i, none⟩ = some (.int .i64 (L.getD i 0)) := by rw [hw]; exact cc1.out i hlt
          have c2 : wr.cell? ⟨g2, i, none⟩ = some (.int .i64 (L.getD i 0)) := by rw [hw]; exact cc2.out i hlt
          generalize L.getD i 0 = y at c1 c2
          have HW := hide hw
          clear hw
          have i1 : (0 : Int) ≤ (i : Int) := by omega
          have i2 : (i : Int) < (n : Int) := by omega
          go_wp2_with fail
          go_quiet (fail)
          go_wp2_with fail
          go_roundw
          case rel => exact ⟨i + 1, k + nq, by omega, by go_num, by rw [HW.out]; simp [World.drewN, Nat.add_assoc]⟩
          case measure => simp [intOf]; omega
        · go_wp2_with fail
          go_ret
          exact ⟨k, rfl, rfl⟩
end Go.Proofs.Qxb6003842a
