import Derived.Test.Qxb6003842aPlain4
import Derived.Test.Qxb6003842aW4
set_option linter.unusedVariables false
set_option linter.unusedSimpArgs false
namespace Go.Proofs.Qxb6003842a
open Go.RowKit

def dg (n : Nat) (M : List Bool) (i : Nat) : Nat := (nbTo n M i n).length

set_option maxHeartbeats 1000000 in
theorem degree_any (n : Nat) (hn : n ≤ 200) (M : List Bool) (base gb : Nat) (O A : List Nat) (hO : OffTo n M O n) (w : World) (hG : IsGraph w base gb n O A) (i : Nat) (hi : i < n) :
    Calls Try.prog 31 #[.pointer (some ⟨gb, 0, none⟩), .int .i64 i] w fun e w' => ∃ k, e = .returned (.int .i64 (dg n M i : Nat)) ∧ w' = w.drewN k := by
  obtain ⟨ib, ob, ab, acap, acur, IDS, hGc, hGi, hIl, hGo, hGa, hacl, hAle, hAt, _, _, _, _⟩ := hG
  have g1 := hGc.cell 1
  simp only [List.getElem?_cons_zero, List.getElem?_cons_succ] at g1
  have o1 := hGo.cellN i (by rw [hO.1]; omega)
  have o2 := hGo.cellN (i + 1) (by rw [hO.1]; omega)
  rw [hO.2 i (by omega)] at o1
  rw [hO.2 (i + 1) (by omega), adj_len_succ] at o2
  have hle : (adjTo n M i).length ≤ 40000 := by
    have h1 := adjTo_len n M i
    have h2 := Nat.mul_le_mul_right n (Nat.le_of_lt hi)
    have h3 := nn_le hn
    omega
  have hle2 := nbTo_len n M i n
  show Calls _ _ _ _ (fun e w' => ∃ k, e = .returned (.int .i64 ((nbTo n M i n).length : Nat)) ∧ w' = w.drewN k)
  generalize (adjTo n M i).length = lo at *
  generalize (nbTo n M i n).length = nl at *
  have o2' : w.cell? ⟨ob, i + 1, none⟩ = some (.int .i64 ((lo : Int) + (nl : Int))) := by rw [o2]; simp
  clear o2 hGc hGi hIl hGo hGa hacl hAle hAt hO
  have i1 : (0 : Int) ≤ (i : Int) := by omega
  have i2 : (i : Int) < (n : Int) + 1 := by omega
  have i3 : (i : Int) + 1 < (n : Int) + 1 := by omega
  go_enter Try.func31, Try.ntmps31
  go_wp2_with fail
  go_quiet (fail)
  go_wp2_with fail
  go_ret
  refine ⟨nq, ret_int (by omega), rfl⟩

/-- The greatest of a list's first i. -/
def IsMax (Z : List Nat) (i m : Nat) : Prop := (∃ k, k < i ∧ Z.getD k 0 = m) ∧ ∀ k, k < i → Z.getD k 0 ≤ m
theorem ismax_one (Z : List Nat) : IsMax Z 1 (Z.getD 0 0) := ⟨⟨0, by omega, rfl⟩, fun k hk => by rw [show k = 0 by omega]; exact Nat.le_refl _⟩
theorem ismax_succ {Z : List Nat} {i m : Nat} (h : IsMax Z i m) : IsMax Z (i + 1) (if m < Z.getD i 0 then Z.getD i 0 else m) := by
  by_cases hl : m < Z.getD i 0
  · rw [if_pos hl]
    refine ⟨⟨i, by omega, rfl⟩, fun k hk => ?_⟩
    by_cases e : k = i
    · rw [e]; exact Nat.le_refl _
    · have := h.2 k (by omega); omega
  · rw [if_neg hl]
    obtain ⟨k, hk, he⟩ := h.1
    refine ⟨⟨k, by omega, he⟩, fun k hk => ?_⟩
    by_cases e : k = i
    · rw [e]; omega
    · exact h.2 k (by omega)

set_option maxHeartbeats 1000000 in
theorem max_any (Z : List Nat) (g cap base : Nat) (w : World) (ho : w.ownsRow base 3 1 (.slice (some ⟨g, 0, none⟩) Z.length cap) Z.length (vN .i64 Z)) (h0 : 0 < Z.length) (h1 : Z.length ≤ 200) :
    Calls Try.prog 32 #[.slice (some ⟨g, 0, none⟩) Z.length cap] w fun e w' => ∃ m : Nat, e = .returned (.int .i64 m) ∧ IsMax Z Z.length m ∧ w' = w := by
  have c0 := own_cell ho 0 h0
  have hs := ismax_one Z
  obtain ⟨x, hx⟩ : ∃ x, Z.getD 0 0 = x := ⟨_, rfl⟩
  rw [hx] at c0 hs
  clear hx
  obtain ⟨zl, hzl⟩ : ∃ zl, Z.length = zl := ⟨_, rfl⟩
  rw [hzl] at ho h0 h1 ⊢
  have HZL := hide hzl
  clear hzl
  go_enter Try.func32, Try.ntmps32
  go_wp2_with fail
  go_loop [3, 4] (fun mv iv => ∃ i m : Nat, 1 ≤ i ∧ i ≤ zl ∧ iv = .int .i64 i ∧ mv = .int .i64 m ∧ IsMax Z i m) (fun _ i => zl - (intOf i).toNat)
  case atStart => exact ⟨1, x, by omega, by omega, rfl, rfl, hs⟩
  case round =>
    obtain ⟨i, m, hi1, hi2, rfl, rfl, hm⟩ := hrel
    by_cases hlt : i < zl
    · have ci := own_cell ho i (by rw [HZL.out]; exact hlt)
      have hms := ismax_succ hm
      generalize Z.getD i 0 = y at ci hms
      by_cases hmy : m < y
      · rw [if_pos hmy] at hms
        go_wp2_with fail
        go_round
        case rel => exact ⟨i + 1, y, by omega, by omega, by go_num, by first | rfl | simp [hmy], hms⟩
        case measure => simp [intOf]; omega
      · rw [if_neg hmy] at hms
        go_wp2_with fail
        go_round
        case rel => exact ⟨i + 1, m, by omega, by omega, by go_num, by first | rfl | (rw [if_neg (by omega)]), hms⟩
        case measure => simp [intOf]; omega
    · obtain rfl : i = zl := by omega
      go_wp2_with fail
      go_ret
      exact ⟨m, rfl, hm, rfl⟩

/-! The figures of the degrees. -/
def bigN : Nat := 9223372036854775807
def isoF (d : Nat → Nat) : Nat → Nat
  | 0 => 0
  | i + 1 => if d i = 0 then isoF d i + 1 else isoF d i
def mnF (d : Nat → Nat) : Nat → Nat
  | 0 => bigN
  | i + 1 => if d i < mnF d i then d i else mnF d i
def mxF (d : Nat → Nat) : Nat → Nat
  | 0 => 0
  | i + 1 => if mxF d i < d i then d i else mxF d i
theorem isoF_le (d : Nat → Nat) (i : Nat) : isoF d i ≤ i := by
  induction i with
  | zero => simp [isoF]
  | succ i ih => simp only [isoF]; split <;> omega

def statVals (n e a b c f g : Nat) : List Value := [.int .i64 n, .int .i64 e, .int .i64 a, .int .i64 b, .int .i64 c, .int .i64 f, .int .i64 g]

set_option maxHeartbeats 2000000 in
set_option maxRecDepth 20000 in
theorem stats_zero (M : List Bool) (base gb : Nat) (O A : List Nat) (hA : A.length = 0) (w : World) (hG : IsGraph w base gb 0 O A) :
    Calls Try.prog 24 #[.pointer (some ⟨gb, 0, none⟩)] w fun e w' => e = .returned (.agg #[.int .i64 0, .int .i64 0, .int .i64 0, .int .i64 0, .int .i64 0, .int .i64 0, .int .i64 0]) ∧ Below w.heap.size w w' := by
  obtain ⟨ib, ob, ab, acap, acur, IDS, hGc, hGi, hIl, hGo, hGa, hacl, hAle, hAt, _, _, _, _⟩ := hG
  have g0 := hGc.cell 0
  have g2 := hGc.cell 2
  simp only [List.getElem?_cons_zero, List.getElem?_cons_succ] at g0 g2
  have hlt := hGc.lt
  rw [hA] at g2
  clear hGc hGi hIl hGo hGa hacl hAle hAt hA
  go_enter Try.func24, Try.ntmps24
  go_wp2_with fail
  exact bodyPost_ret (v := .agg #[.int .i64 0, .int .i64 0, .int .i64 0, .int .i64 0, .int .i64 0, .int .i64 0, .int .i64 0]) (by simp [results, Try.results24, go_sem]) rfl ⟨rfl, (((Below.refl _ _).alloc (Nat.le_refl _) _).alloc (by simp) _)⟩

theorem stat_cells {w : World} {b n e i m x f g : Nat} (h : At w b 48 (statVals n e i m x f g)) :
    w.cell? ⟨b, 0, none⟩ = some (.int .i64 n) ∧ w.cell? ⟨b, 1, none⟩ = some (.int .i64 e) ∧ w.cell? ⟨b, 2, none⟩ = some (.int .i64 i) ∧ w.cell? ⟨b, 3, none⟩ = some (.int .i64 m) ∧
    w.cell? ⟨b, 4, none⟩ = some (.int .i64 x) ∧ w.cell? ⟨b, 5, none⟩ = some (.int .i64 f) ∧ w.cell? ⟨b, 6, none⟩ = some (.int .i64 g) := by
  simp only [h.cell]; exact ⟨rfl, rfl, rfl, rfl, rfl, rfl, rfl⟩

theorem ite_cast (p : Prop) [Decidable p] (a b : Nat) : (if p then (a : Int) else (b : Int)) = ((if p then a else b : Nat) : Int) := by split <;> rfl

set_option maxHeartbeats 2000000 in
set_option maxRecDepth 20000 in
theorem stats_pos (n : Nat) (hn : n ≤ 200) (hn0 : 0 < n) (M : List Bool) (hS : Symm n M) (R : List Nat) (hR : RootsOk n M R) (base gb : Nat) (O : List Nat) (hO : OffTo n M O n) (w : World) (hG : IsGraph w base gb n O (adjTo n M n)) :
    Calls Try.prog 24 #[.pointer (some ⟨gb, 0, none⟩)] w fun e w' => ∃ Z lg, SzOk n R n Z ∧ IsMax Z Z.length lg ∧ Below w.heap.size w w' ∧
      e = .returned (.agg #[.int .i64 n, .int .i64 ((adjTo n M n).length / 2 : Nat), .int .i64 (isoF (dg n M) n : Nat), .int .i64 (mnF (dg n M) n : Nat), .int .i64 (mxF (dg n M) n : Nat), .int .i64 (Z.length : Nat), .int .i64 (lg : Nat)]) := by
  have hG0 := hG
  obtain ⟨ib, ob, ab, acap, acur, IDS, hGc, hGi, hIl, hGo, hGa, hacl, hAle, hAt, _, _, _, _⟩ := hG
  have g0 := hGc.cell 0
  have g2 := hGc.cell 2
  simp only [List.getElem?_cons_zero, List.getElem?_cons_succ] at g0 g2
  have hlt := hGc.lt
  have hal4 : (adjTo n M n).length ≤ 40000 := by have := adjTo_len n M n; have := nn_le hn; omega
  obtain ⟨al, hal⟩ : ∃ al, (adjTo n M n).length = al := ⟨_, rfl⟩
  rw [hal] at g2 hal4 ⊢
  have hn0' : ((n : Int) == 0) = false := beq_eq_false_iff_ne.2 (by omega)
  have HG := hide hG0
  clear hGc hGi hIl hGo hGa hacl hAle hAt hal hG0
  go_enter Try.func24, Try.ntmps24
  go_wp2_with fail
  go_loopw [27] (fun iv wr => ∃ i : Nat, i ≤ n ∧ iv = .int .i64 i ∧ At wr w.heap.size 48 (statVals 0 0 0 0 0 0 0) ∧ At wr (w.heap.size + 1) 48 (statVals n (al / 2) (isoF (dg n M) i) (mnF (dg n M) i) (mxF (dg n M) i) 0 0) ∧ Below w.heap.size w wr) (fun i _ => n - (intOf i).toNat)
  case atStart =>
    refine ⟨0, Nat.zero_le _, rfl, ?_, ?_, ?_⟩
    · exact (At.new w 48 (statVals 0 0 0 0 0 0 0)).alloc _
    · have := At.new (w.alloc (.cells (statVals 0 0 0 0 0 0 0).toArray 48)) 48 (statVals n (al / 2) 0 bigN 0 0 0)
      simp only [World.size_alloc] at this
      exact this
    · exact ((Below.refl _ _).alloc (Nat.le_refl _) _).alloc (by simp) _
  case round =>
    obtain ⟨i, hi, rfl, hAr, hAs, hB⟩ := hrel
    by_cases hlt2 : i < n
    · obtain ⟨s0, s1, s2, s3, s4, s5, s6⟩ := stat_cells hAs
      have f2 := hAs.frozen 2
      have f3 := hAs.frozen 3
      have f4 := hAs.frozen 4
      have hio := isoF_le (dg n M) i
      have hG' : IsGraph wr base gb n O (adjTo n M n) := by
        obtain ⟨ib, ob, ab, acap, acur, IDS, e1, e2, e3, e4, e5, e6⟩ := HG.out
        exact ⟨ib, ob, ab, acap, acur, IDS, e1.below hB e1.lt, e2.below hB e2.lt, e3, e4.below hB e4.lt, e5.below hB e5.lt, e6⟩
      have hd : dg n M i ≤ 200 := by have := nbTo_len n M i n; unfold dg; omega
      have e1 : isoF (dg n M) (i + 1) = if dg n M i = 0 then isoF (dg n M) i + 1 else isoF (dg n M) i := rfl
      have e2 : mnF (dg n M) (i + 1) = if dg n M i < mnF (dg n M) i then dg n M i else mnF (dg n M) i := rfl
      have e3 : mxF (dg n M) (i + 1) = if mxF (dg n M) i < dg n M i then dg n M i else mxF (dg n M) i := rfl
      have E1 := hide e1
      have E2 := hide e2
      have E3 := hide e3
      clear e1 e2 e3
      go_wp2_with fail
      refine (degree_any n hn M base gb O _ hO _ hG' i hlt2).mono ?_
      rintro e wd ⟨k, rfl, rfl⟩
      generalize dg n M i = d at *
      generalize isoF (dg n M) i = io at *
      generalize mnF (dg n M) i = mn at *
      generalize mxF (dg n M) i = mx at *
      have hG2 := hide hG'
      clear hG'
      by_cases hd0 : d = 0
      · have hd1 : ((d : Int) == 0) = true := beq_iff_eq.2 (by omega)
        rw [if_pos hd0] at E1
        have HD := hide hd0
        clear hd0
        go_wp2_with fail
        go_roundw
        case rel =>
          refine ⟨i + 1, by omega, by go_num, ?_, ?_, ?_⟩
          · exact ((At.set_ne (w := wr.drewN k) hAr _ _ (by simp)).set_ne _ _ (by simp)).set_ne _ _ (by simp)
          · rw [E1.out, E2.out, E3.out, ite_cast, ite_cast]
            exact ((At.set (w := wr.drewN k) hAs 2 _).set 3 _).set 4 _
          · exact (((Below.drewN hB k).setCell (by simp) _).setCell (by simp) _).setCell (by simp) _
        case measure => simp [intOf]; omega
      · have hd1 : ((d : Int) == 0) = false := beq_eq_false_iff_ne.2 (by omega)
        rw [if_neg hd0] at E1
        have HD := hide hd0
        clear hd0
        go_wp2_with fail
        go_roundw
        case rel =>
          refine ⟨i + 1, by omega, by go_num, ?_, ?_, ?_⟩
          · exact (At.set_ne (w := wr.drewN k) hAr _ _ (by simp)).set_ne _ _ (by simp)
          · rw [E1.out, E2.out, E3.out, ite_cast, ite_cast]
            exact (At.set (w := wr.drewN k) hAs 3 _).set 4 _
          · exact ((Below.drewN hB k).setCell (by simp) _).setCell (by simp) _
        case measure => simp [intOf]; omega
    · obtain rfl : i = n := by omega
      have hG' : IsGraph wr base gb i O (adjTo i M i) := by
        obtain ⟨ib, ob, ab, acap, acur, IDS, e1, e2, e3, e4, e5, e6⟩ := HG.out
        exact ⟨ib, ob, ab, acap, acur, IDS, e1.below hB e1.lt, e2.below hB e2.lt, e3, e4.below hB e4.lt, e5.below hB e5.lt, e6⟩
      go_wp2_with fail
      refine (comps_any i hn M hS R hR base gb O hO _ hG').mono ?_
      rintro e w5 ⟨lb, ao, L, Z, zc, rfl, hlb, hL, hZ, hAl, hoz, hb5⟩
      have hAr5 := hAr.below hb5 hAr.lt
      have hAs5 := hAs.below hb5 hAs.lt
      have B5 : Below w.heap.size w w5 := hB.trans (hb5.mono hB.size)
      have hrpos : 0 < rk R i := by
        have h0 := (hR.2.1 0 hn0).1
        have : R.getD 0 0 = 0 := by omega
        have := rk_lt R hn0 this
        omega
      have hZl := hZ.1
      have hrn := rk_le R i
      rw [← hZl] at hrpos hrn
      have hs1 := hAs.lt
      obtain ⟨zg, zcap, zcur, hv, hzg, _⟩ := own_parts hoz (by intro e; simp only [Value.slice.injEq] at e; omega)
      simp only [Value.slice.injEq, true_and] at hv
      obtain ⟨rfl, rfl⟩ := hv
      obtain ⟨s0, s1, s2, s3, s4, s5, s6⟩ := stat_cells hAs5
      have f5 := hAs5.frozen 5
      clear hZl hG' hAr hAs hB hAl hb5
      obtain ⟨io, hio⟩ : ∃ io, isoF (dg i M) i = io := ⟨_, rfl⟩
      obtain ⟨mn, hmn⟩ : ∃ mn, mnF (dg i M) i = mn := ⟨_, rfl⟩
      obtain ⟨mx, hmx⟩ : ∃ mx, mxF (dg i M) i = mx := ⟨_, rfl⟩
      rw [hio, hmn, hmx] at hAs5
      rw [hio] at s2
      rw [hmn] at s3
      rw [hmx] at s4
      have HIO := hide hio
      have HMN := hide hmn
      have HMX := hide hmx
      clear hio hmn hmx
      go_wp2_with fail
      have hAs6 := hAs5.set 5 (.int .i64 Z.length)
      have hAr6 := hAr5.set_ne ⟨w.heap.size + 1, 5, none⟩ (.int .i64 Z.length) (by simp)
      have B6 := B5.setCell (p := ⟨w.heap.size + 1, 5, none⟩) (by simp) (.int .i64 Z.length)
      have hoz6 := ownsRow_setCell_below hoz (show (⟨w.heap.size + 1, 5, none⟩ : Addr).block < lb + 1 by simp; omega) (.int .i64 Z.length)
      generalize w5.setCell ⟨w.heap.size + 1, 5, none⟩ (.int .i64 Z.length) = w6 at *
      refine (max_any Z zg zc _ w6 hoz6 hrpos (by omega)).mono ?_
      rintro e w6' ⟨lg, rfl, hlg, rfl⟩
      have hAs7 : At w6' (w.heap.size + 1) 48 (statVals i (al / 2) io mn mx Z.length 0) := hAs6
      clear s0 s1 s2 s3 s4 s5 s6 hAs6 hAs5 hAr5 hoz6 hoz f5 B5
      obtain ⟨s0, s1, s2, s3, s4, s5, s6⟩ := stat_cells hAs7
      obtain ⟨q0, q1, q2, q3, q4, q5, q6⟩ := stat_cells hAr6
      have f6 := hAs7.frozen 6
      have p0 := hAr6.frozen 0
      have p1 := hAr6.frozen 1
      have p2 := hAr6.frozen 2
      have p3 := hAr6.frozen 3
      have p4 := hAr6.frozen 4
      have p5 := hAr6.frozen 5
      have p6 := hAr6.frozen 6
      go_wp2_with fail
      refine bodyPost_ret (v := .agg #[.int .i64 i, .int .i64 (al / 2 : Nat), .int .i64 io, .int .i64 mn, .int .i64 mx, .int .i64 Z.length, .int .i64 lg]) (by simp [results, Try.results24, go_sem, *]) rfl ⟨Z, lg, hZ, hlg, ?_, by rw [HIO.out, HMN.out, HMX.out]⟩
      iterate 8 refine Below.setCell ?_ (by simp) _
      exact B6
end Go.Proofs.Qxb6003842a
