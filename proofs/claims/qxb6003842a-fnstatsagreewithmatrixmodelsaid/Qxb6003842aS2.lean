import Derived.Test.Qxb6003842aPlain5
import Derived.Test.Qxb6003842aS1
import Derived.Test.Qxb6003842aW3
set_option linter.unusedVariables false
set_option linter.unusedSimpArgs false
namespace Go.Proofs.Qxb6003842a
open Go.RowKit

set_option maxHeartbeats 400000 in
theorem bytes23 (n : Int) (a1 a2 : Option Addr) (l1 c1 l2 c2 : Nat) (w : World) (h1 : l1 ≤ maxLen) (h2 : l2 ≤ maxLen) :
    Calls Try.prog 23 #[.int .i64 n, .slice a1 l1 c1, .slice a2 l2 c2] w fun e w' => (e = .returned (.bool (decide (l1 + l2 ≤ 1048576)))) ∧ w' = w := by
  unfold maxLen at h1 h2
  by_cases ha : l1 ≤ 1048576
  · by_cases hb : l2 ≤ 1048576
    · by_cases hc : l1 + l2 ≤ 1048576
      · go_enter Try.func23, Try.ntmps23
        go_wp2
        go_ret
        exact ⟨by simp [hc], rfl⟩
      · go_enter Try.func23, Try.ntmps23
        go_wp2
        go_ret
        exact ⟨by simp; omega, rfl⟩
    · go_enter Try.func23, Try.ntmps23
      go_wp2
      go_ret
      exact ⟨by simp; omega, rfl⟩
  · go_enter Try.func23, Try.ntmps23
    go_wp2
    go_ret
    exact ⟨by simp; omega, rfl⟩


/-- Whatever n: what 'Stats' leaves. -/
theorem stats_any (n : Nat) (hn : n ≤ 200) (M : List Bool) (hS : Symm n M) (R : List Nat) (hR : RootsOk n M R) (base gb : Nat) (O : List Nat) (hO : OffTo n M O n) (w : World) (hG : IsGraph w base gb n O (adjTo n M n)) :
    Calls Try.prog 24 #[.pointer (some ⟨gb, 0, none⟩)] w fun e w' => Below w.heap.size w w' ∧
      e = .returned (.agg #[.int .i64 n, .int .i64 ((adjTo n M n).length / 2 : Nat), .int .i64 (isoF (dg n M) n : Nat), .int .i64 (mnG (dg n M) n : Nat), .int .i64 (mxF (dg n M) n : Nat), .int .i64 (rk R n : Nat), .int .i64 (mxF (cnt n R) n : Nat)]) := by
  by_cases h0 : n = 0
  · subst h0
    refine (stats_zero M base gb O _ rfl w hG).mono ?_
    rintro e w' ⟨rfl, hb⟩
    exact ⟨hb, by simp [adjTo, isoF, mnG, mxF, rk]⟩
  · refine (stats_pos n hn (by omega) M hS R hR base gb O hO w hG).mono ?_
    rintro e w' ⟨Z, lg, hZ, hm, hb, rfl⟩
    refine ⟨hb, ?_⟩
    have hd : dg n M 0 < bigN := by have := nbTo_len n M 0 n; unfold dg bigN; omega
    rw [mnG_eq _ hd n (by omega), lg_eq hR hZ hm, hZ.1]

set_option maxHeartbeats 4000000 in
set_option maxRecDepth 20000 in
theorem stats_core (n : Nat) (hn : n ≤ 200) (a1 a2 : Option Addr) (l1 c1 l2 c2 : Nat) (L1 L2 : List Int) (w : World) (hl1 : L1.length = l1) (hl2 : L2.length = l2) (h1 : l1 ≤ 65536) (h2 : l2 ≤ 65536) (h3 : 8 * l1 + 8 * l2 ≤ 1048576)
    (r1 : (a1 = none ∧ l1 = 0 ∧ c1 = 0) ∨ ∃ x, a1 = some x ∧ ∀ i, i < l1 → w.cell? (x.add i) = some (.int .i64 (L1.getD i 0)))
    (r2 : (a2 = none ∧ l2 = 0 ∧ c2 = 0) ∨ ∃ x, a2 = some x ∧ ∀ i, i < l2 → w.cell? (x.add i) = some (.int .i64 (L2.getD i 0))) :
    Calls Try.prog 5 #[.int .i64 n, .slice a1 l1 c1, .slice a2 l2 c2] w fun e w' => e = .returned (.bool true) ∧ Below w.heap.size w w' := by
  have hbytes : decide (l1 + l2 ≤ 1048576) = true := by simp; omega
  have R1 := hide r1
  have R2 := hide r2
  have HL1 := hide hl1
  have HL2 := hide hl2
  clear r1 r2 hl1 hl2
  go_enter Try.func5, Try.ntmps5
  go_wp2_with fail
  refine (bytes23 _ _ _ _ _ _ _ _ (by unfold maxLen; omega) (by unfold maxLen; omega)).mono ?_
  rintro e w ⟨rfl, rfl⟩
  rw [hbytes]
  clear hbytes
  go_wp2_with fail
  refine (clone_any a1 l1 c1 L1 _ HL1.out (by omega) R1.out).mono ?_
  rintro e w1 ⟨v1, rfl, hv1, hb1⟩
  have R2' : Hid ((a2 = none ∧ l2 = 0 ∧ c2 = 0) ∨ ∃ x, a2 = some x ∧ ∀ i, i < l2 → w1.cell? (x.add i) = some (.int .i64 (L2.getD i 0))) := by
    rcases R2.out with h | ⟨x, hx, hc⟩
    · exact Or.inl h
    · exact Or.inr ⟨x, hx, fun i hi => by rw [hb1.cell (World.block_lt_of_cell? _ _ (hc i hi))]; exact hc i hi⟩
  go_wp2_with fail
  refine (clone_any a2 l2 c2 L2 _ HL2.out (by omega) R2'.out).mono ?_
  rintro e w2 ⟨v2, rfl, hv2, hb2⟩
  have hv1' := hv1.below hb2 (Nat.le_refl _)
  have B2 : Below w.heap.size w w2 := hb1.trans (hb2.mono hb1.size)
  clear hv1 hb1 hb2 R2' R1 R2
  go_wp2_with fail
  refine (matrix_any n hn v1 v2 L1 L2 _ (by rw [HL1.out]; exact h1) (by rw [HL2.out]; exact h2) hv1' hv2).mono ?_
  rintro e w3 ⟨mb, M, rfl, hmb, hMl, hMs, hMA, hb3⟩
  have B3 : Below w.heap.size w w3 := B2.trans (hb3.mono B2.size)
  clear hv1' hv2 hb3 B2
  go_wp2_with fail
  refine (build_any n hn mb M hMl _ hMA).mono ?_
  rintro e w4 ⟨gb, O, rfl, hO, hG, hb4⟩
  have hMA4 := hMA.below hb4 hMA.lt
  have B4 : Below w.heap.size w w4 := B3.trans (hb4.mono B3.size)
  clear hMA hb4 B3
  obtain ⟨R, hR⟩ := roots_exist hMs
  go_wp2_with fail
  refine (stats_any n hn M hMs R hR _ gb O hO _ hG).mono ?_
  rintro e w5 ⟨hb5, rfl⟩
  have hMA5 := hMA4.below hb5 hMA4.lt
  have B5 : Below w.heap.size w w5 := B4.trans (hb5.mono B4.size)
  clear hMA4 hb5 B4 hG hO
  obtain ⟨fe, hfe⟩ : ∃ fe, (adjTo n M n).length / 2 = fe := ⟨_, rfl⟩
  obtain ⟨fi, hfi⟩ : ∃ fi, isoF (dg n M) n = fi := ⟨_, rfl⟩
  obtain ⟨fm, hfm⟩ : ∃ fm, mnG (dg n M) n = fm := ⟨_, rfl⟩
  obtain ⟨fx, hfx⟩ : ∃ fx, mxF (dg n M) n = fx := ⟨_, rfl⟩
  obtain ⟨fc, hfc⟩ : ∃ fc, rk R n = fc := ⟨_, rfl⟩
  obtain ⟨fl, hfl⟩ : ∃ fl, mxF (cnt n R) n = fl := ⟨_, rfl⟩
  rw [hfe, hfi, hfm, hfx, hfc, hfl]
  have HFE := hide hfe
  have HFI := hide hfi
  have HFM := hide hfm
  have HFX := hide hfx
  have HFC := hide hfc
  have HFL := hide hfl
  clear hfe hfi hfm hfx hfc hfl
  go_wp2_with fail
  have hSB := At.new w5 48 (statVals n fe fi fm fx fc fl)
  have hMA6 := hMA5.alloc (.cells (statVals n fe fi fm fx fc fl).toArray 48)
  have B6 : Below w.heap.size w (w5.alloc (.cells (statVals n fe fi fm fx fc fl).toArray 48)) := B5.alloc B5.size _
  have hwd : w5.alloc (Obj.cells #[Value.int IntKind.i64 n, Value.int IntKind.i64 fe, Value.int IntKind.i64 fi, Value.int IntKind.i64 fm, Value.int IntKind.i64 fx, Value.int IntKind.i64 fc, Value.int IntKind.i64 fl] 48) = w5.alloc (.cells (statVals n fe fi fm fx fc fl).toArray 48) := rfl
  rw [hwd]
  clear hwd hMA5 B5
  generalize w5.alloc (.cells (statVals n fe fi fm fx fc fl).toArray 48) = w6 at *
  generalize w5.heap.size = sb at *
  refine (roots_any n hn mb M hMl hMs _ hMA6).mono ?_
  rintro e w7 ⟨rb, R', rfl, hR', hrb, hRA, hb7⟩
  obtain rfl := roots_uniq hR hR'
  have hMA7 := hMA6.below hb7 hMA6.lt
  have hSB7 := hSB.below hb7 hSB.lt
  have B7 : Below w.heap.size w w7 := B6.trans (hb7.mono B6.size)
  clear hMA6 hSB hb7 B6 hR' hrb
  go_wp2_with (at_make; refine wpList_make_at _ rfl _ _ 36 rfl 3 (.int .i64 0) 8 Try.underlying36 info3 rfl _ _ _ _ n n rfl rfl rfl rfl (Nat.le_refl _) (by omega) (by omega) ?_)
  intro cb w8 hcb hsz8 hA8 hb8
  have A8 : At w8 cb 3 (vN .i64 (List.replicate n 0)) := by rw [← vN_rep]; exact hA8
  have hMA8 := hMA7.below hb8 hMA7.lt
  have hSB8 := hSB7.below hb8 hSB7.lt
  have hRA8 := hRA.below hb8 hRA.lt
  have B8 : Below w.heap.size w w8 := B7.trans (hb8.mono B7.size)
  have hlts : mb < cb ∧ sb < cb ∧ rb < cb ∧ w.heap.size ≤ cb := by rw [hcb.out]; exact ⟨hMA7.lt, hSB7.lt, hRA.lt, B7.size⟩
  obtain ⟨k1, k2, k3, k4⟩ := hlts
  clear hMA7 hSB7 hRA B7 hb8 hA8 hcb hsz8
  have hRl := hR.1
  obtain ⟨N2, hN2⟩ : ∃ N2, N2 = n * n := ⟨_, rfl⟩
  have hN2b : N2 ≤ 40000 := by rw [hN2]; exact nn_le hn
  rw [← hN2] at hMl ⊢
  have HN2 := hide hN2
  clear hN2
  go_wp2_with fail
  go_loopw [12] (fun iv wr => ∃ (i : Nat) (C : List Nat), i ≤ n ∧ iv = .int .i64 i ∧ CnTo n R C i ∧ At wr cb 3 (vN .i64 C) ∧ Below cb w8 wr) (fun i _ => n - (intOf i).toNat)
  case atStart => exact ⟨0, _, Nat.zero_le _, rfl, cnto_zero n R, A8, Below.refl _ _⟩
  case round =>
    clear A8
    obtain ⟨i, C, hi, rfl, hC, hAc, hb⟩ := hrel
    by_cases hlt : i < n
    · have cr := (hRA8.below hb k3).cellN i (by omega)
      have hri := (hR.2.1 i hlt).1
      have hCl := hC.1
      have cc := hAc.cellN (R.getD i 0) (by omega)
      have fc' := hAc.frozen (R.getD i 0)
      have HC' := hide (cnto_succ hC (by omega))
      have hcv : C.getD (R.getD i 0) 0 ≤ 200 := by rw [hC.2 _ (by omega)]; have := cntTo_le R i (R.getD i 0); omega
      clear hC
      generalize C.getD (R.getD i 0) 0 = cv at *
      generalize R.getD i 0 = r at *
      go_wp2_with fail
      go_roundw
      case rel => exact ⟨i + 1, C.set r (cv + 1), by omega, by go_num, HC'.out, by rw [← vN_set]; exact hAc.set _ _, hb.setCell (Nat.le_refl _) _⟩
      case measure => simp [intOf]; omega
    · obtain rfl : i = n := by omega
      have hMA9 := hMA8.below hb k1
      have hSB9 := hSB8.below hb k2
      have hRA9 := hRA8.below hb k3
      have B9 : Below w.heap.size w wr := B8.trans (hb.mono k4)
      clear hMA8 hSB8 hRA8 B8 hb
      go_wp2_with fail
      go_loop [13, 14, 15, 16, 17, 18, 19] (fun v13 v14 v15 v16 v17 v18 v19 => ∃ k : Nat, k ≤ i ∧ v19 = .int .i64 k ∧ v13 = .int .i64 ((adjTo i M k).length : Nat) ∧ v14 = .int .i64 (isoF (dg i M) k : Nat) ∧ v15 = .int .i64 (mnG (dg i M) k : Nat) ∧ v16 = .int .i64 (mxF (dg i M) k : Nat) ∧ v17 = .int .i64 (rk R k : Nat) ∧ v18 = .int .i64 (mxF (cnt i R) k : Nat)) (fun _ _ _ _ _ _ k => i - (intOf k).toNat)
      case atStart => exact ⟨0, Nat.zero_le _, rfl, rfl, rfl, rfl, rfl, rfl, rfl⟩
      case round =>
        obtain ⟨k, hk, rfl, rfl, rfl, rfl, rfl, rfl, rfl⟩ := hrel
        by_cases hklt : k < i
        · have hkn : (k : Int) * (i : Int) = ((k * i : Nat) : Int) := by rw [Int.natCast_mul]
          have hknb : k * i + i ≤ N2 := by rw [HN2.out]; have := Nat.mul_le_mul_right i (show k + 1 ≤ i from hklt); rw [Nat.add_mul] at this; omega
          have cr := hRA9.cellN k (by omega)
          have hCl := hC.1
          have cc := hAc.cellN k (by omega)
          rw [hC.2 k hklt, cntTo_n] at cc
          have W1 := way1 (dg i M) k
          have W2 := way2 (dg i M) k
          have W3 := way3 (dg i M) k
          have W4 := way4 R k
          have W5 := way3 (cnt i R) k
          have WE := hide (adj_len_succ i M k)
          have hd200 : dg i M k ≤ 200 := by have := nbTo_len i M k i; unfold dg; omega
          have b1 : (adjTo i M k).length ≤ 40000 := by have := adjTo_len i M k; have := Nat.mul_le_mul_right i (Nat.le_of_lt hklt); rw [← HN2.out] at this; omega
          have b2 := isoF_le (dg i M) k
          have b3 := rk_le R k
          have b4 := cnt_le i R k
          have HW : Hid ((nbTo i M k i).length = dg i M k) := rfl
          have hnb : ∀ j, (nbTo i M k j).length ≤ j := nbTo_len i M k
          generalize (adjTo i M k).length = al at *
          generalize isoF (dg i M) k = io at *
          generalize mnG (dg i M) k = mn at *
          generalize mxF (dg i M) k = mx at *
          generalize rk R k = rkk at *
          generalize mxF (cnt i R) k = lg at *
          generalize dg i M k = d at *
          generalize cnt i R k = ct at *
          generalize R.getD k 0 = rv at *
          replace W1 := hide W1
          replace W2 := hide W2
          replace W3 := hide W3
          replace W4 := hide W4
          replace W5 := hide W5
          replace hnb := hide hnb
          go_wp2_with fail
          go_loop [20, 21] (fun v20 v21 => ∃ j dj : Nat, j ≤ i ∧ v21 = .int .i64 j ∧ v20 = .int .i64 dj ∧ dj ≤ j ∧ Hid (dj = (nbTo i M k j).length)) (fun _ j => i - (intOf j).toNat)
          case atStart => exact ⟨0, 0, Nat.zero_le _, rfl, rfl, Nat.le_refl _, rfl⟩
          case round =>
            obtain ⟨j, dj, hj, rfl, rfl, hdj, HDJ⟩ := hrel
            by_cases hjlt : j < i
            · have hij : k * i + j < M.length := by omega
              have hnx := nbTo_succ i M k j
              generalize k * i = p at *
              have cm := hMA9.cellB (p + j) hij
              by_cases hbit : M.getD (p + j) false = true
              · rw [hbit] at cm
                rw [if_pos hbit] at hnx
                have HX := hide hnx
                clear hnx hbit
                go_wp2_with fail
                go_round
                case rel => exact ⟨j + 1, dj + 1, by omega, by go_num, by go_num, by omega, by show _ = _; rw [HX.out, HDJ.out]; simp⟩
                case measure => simp [intOf]; omega
              · have hbit' : M.getD (p + j) false = false := by simpa using hbit
                rw [hbit'] at cm
                rw [if_neg hbit, List.append_nil] at hnx
                have HX := hide hnx
                clear hnx hbit hbit'
                go_wp2_with fail
                go_round
                case rel => exact ⟨j + 1, dj, by omega, by go_num, rfl, by omega, by show _ = _; rw [HX.out, HDJ.out]⟩
                case measure => simp [intOf]; omega
            · obtain rfl : j = i := by omega
              obtain rfl : dj = d := by rw [HDJ.out]; exact HW.out
              have W1' := W1.out
              have W2' := W2.out
              have W3' := W3.out
              have W4' := W4.out
              have W5' := W5.out
              have we : (adjTo j M (k + 1)).length = al + dj := by rw [WE.out, HDJ.out]
              have WE' : (((adjTo j M (k + 1)).length : Nat) : Int) = (al : Int) + (dj : Int) := by rw [we]; simp
              replace WE' := hide WE'
              clear W1 W2 W3 W4 W5 HDJ HW hkn hknb hnb WE we
              rcases W1' with ⟨a1, E1⟩ | ⟨a1, E1⟩
              all_goals replace E1 := hide E1
              all_goals rcases W2' with ⟨a2, E2, a2'⟩ | ⟨a2, E2, a2'⟩ | ⟨a2, E2, a2'⟩
              all_goals replace E2 := hide E2
              all_goals rcases W3' with ⟨a3, E3⟩ | ⟨a3, E3⟩
              all_goals replace E3 := hide E3
              all_goals rcases W4' with ⟨a4, E4⟩ | ⟨a4, E4⟩
              all_goals replace E4 := hide E4
              all_goals rcases W5' with ⟨a5, E5⟩ | ⟨a5, E5⟩
              all_goals replace E5 := hide E5
              all_goals go_wp2_with fail
              all_goals go_round
              all_goals first | (refine ⟨k + 1, ?_, ?_, ?_, ?_, ?_, ?_, ?_, ?_⟩) | (simp [intOf]; omega)
              all_goals first | omega | (rw [WE'.out]) | (rw [E1.out]; go_num) | (rw [E1.out]) | (rw [E2.out]) | (rw [E3.out]) | (rw [E4.out]; go_num) | (rw [E4.out]) | (rw [E5.out]) | go_num
        · obtain rfl : k = i := by omega
          obtain ⟨s0, s1, s2, s3, s4, s5, s6⟩ := stat_cells hSB9
          have hal4 : (adjTo k M k).length ≤ 40000 := by have := adjTo_len k M k; have := nn_le hn; omega
          rw [HFI.out, HFM.out, HFX.out, HFC.out, HFL.out]
          rw [← HFE.out] at s1
          generalize (adjTo k M k).length = al at *
          have s1' : wr.cell? ⟨sb, 1, none⟩ = some (.int .i64 ((al : Int) / 2)) := by rw [s1]; simp
          clear s1
          go_wp2_with fail
          go_ret
          exact ⟨rfl, B9⟩
end Go.Proofs.Qxb6003842a
