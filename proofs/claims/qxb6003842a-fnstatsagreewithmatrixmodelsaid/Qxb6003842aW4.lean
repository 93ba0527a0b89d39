import Derived.Test.Qxb6003842aRows
import Derived.Test.Qxb6003842aBase
import Derived.Test.Qxb6003842aPlain3
import Derived.Test.Qxb6003842aW2
import Derived.Deep.QuietTactic
import Derived.BigQuiet
set_option linter.unusedVariables false
set_option linter.unusedSimpArgs false
namespace Go.Proofs.Qxb6003842a
open Go.RowKit

theorem Below.drewN {B : Nat} {a w : World} (h : Below B a w) (n : Nat) : Below B a (w.drewN n) := h.trans ⟨rfl, rfl, rfl, Nat.le_refl _, fun _ _ => rfl⟩

set_option maxHeartbeats 4000000 in
set_option maxRecDepth 20000 in
theorem comps_any (n : Nat) (hn : n ≤ 200) (M : List Bool) (hS : Symm n M) (R : List Nat) (hR : RootsOk n M R) (base gb : Nat) (O : List Nat) (hO : OffTo n M O n) (w : World) (hG : IsGraph w base gb n O (adjTo n M n)) :
    Calls Try.prog 29 #[.pointer (some ⟨gb, 0, none⟩)] w fun e w' =>
      ∃ lb ao L Z zc, e = .returned (.tuple #[.slice (some ⟨lb, 0, none⟩) n n, .slice ao (Z.length) zc]) ∧ w.heap.size ≤ lb ∧ LabS n R n [] L ∧ SzOk n R n Z ∧ At w' lb 21 (vI .i32 L) ∧ w'.ownsRow (lb + 1) 3 1 (.slice ao Z.length zc) Z.length (vN .i64 Z) ∧ Below w.heap.size w w' := by
  obtain ⟨ib, ob, ab, acap, acur, IDS, hGc, hGi, hIl, hGo, hGa, hacl, hAle, hAt, _, _, _, _⟩ := hG
  have g0 := hGc.cell 0
  have g1 := hGc.cell 1
  have g2 := hGc.cell 2
  simp only [List.getElem?_cons_zero, List.getElem?_cons_succ] at g0 g1 g2
  have hglt := hGc.lt
  have HAT := hide hAt
  have HACL := hide hacl
  clear hAt hacl
  go_enter Try.func29, Try.ntmps29
  go_wp2_with (at_make; refine wpList_make_at _ rfl _ _ 43 rfl 21 (.int .i32 0) 4 Try.underlying43 info21 rfl _ _ _ _ n n rfl rfl rfl rfl (Nat.le_refl _) (by omega) (by omega) ?_)
  intro lb w1 hlb hsz1 hA1 hB1
  clear g0 g1 g2
  have A1 : At w1 lb 21 (vI .i32 (List.replicate n 0)) := by simpa [vI] using hA1
  have hsz1' : lb + 1 ≤ w1.heap.size := by rw [hsz1.out]; exact Nat.le_refl _
  clear hA1 hsz1
  go_wp2_with fail
  go_loopw [22] (fun iv wr => ∃ (i : Nat) (L : List Int), i ≤ n ∧ iv = .int .i64 i ∧ L.length = n ∧ Hid (∀ t, t < i → L.getD t 0 = -1) ∧ At wr lb 21 (vI .i32 L) ∧ lb + 1 ≤ wr.heap.size ∧ Below w.heap.size w wr) (fun i _ => n - (intOf i).toNat)
  case atStart => exact ⟨0, _, Nat.zero_le _, rfl, by simp, fun t ht => by omega, A1, hsz1', hB1⟩
  case round =>
    clear A1 hB1 hsz1'
    obtain ⟨i, L, hi, rfl, hLl, HL, hAl, hsz, hB⟩ := hrel
    by_cases hlt : i < n
    · have c1 := hAl.cellI i (by omega)
      have f1 := hAl.frozen i
      go_wp2_with fail
      go_roundw
      case rel => exact ⟨i + 1, L.set i (-1), by omega, by go_num, by simp [hLl], (fun t ht => by
          rw [getD_setI]
          by_cases e : i = t
          · rw [if_pos ⟨e, by omega⟩]
          · rw [if_neg (by simp [e])]; exact HL.out t (by omega)), by rw [← vI_set]; exact hAl.set _ _, by simpa using hsz, hB.setCell (by rw [hlb.out]; exact Nat.le_refl _) _⟩
      case measure => simp [intOf]; omega
    · have hL0 : LabS n R 0 [] L := lab_zero n R L hLl (fun t ht => HL.out t (by omega))
      clear HL hLl
      go_wp2_with (at_make; refine wpList_make_at _ rfl _ _ 43 rfl 21 (.int .i32 0) 4 Try.underlying43 info21 rfl _ _ _ _ 0 n rfl rfl rfl rfl (Nat.zero_le _) (by omega) (by omega) ?_)
      intro qb w2 hqb hsz2 hA2 hB2
      have hlq : lb < qb := by rw [hqb.out]; omega
      have hsz2' : qb + 1 ≤ w2.heap.size := by rw [hsz2.out]; exact Nat.le_refl _
      have B2 : Below w.heap.size w w2 := hB.trans (hB2.mono hB.size)
      have hAl2 := hAl.below hB2 (by rw [← hqb.out]; exact hlq)
      have hoq : w2.ownsRow qb 21 1 (.slice (some ⟨qb, 0, none⟩) 0 n) 0 [] := own_of_at hA2 (Nat.le_refl _) (by simp) (by unfold maxLen; omega) 0 (Nat.zero_le _)
      clear hsz2 hA2 hB2 hAl hB hsz hqb
      go_wp2_with fail
      go_loopw [3, 6, 32] (fun sv qv iv wr => ∃ (s : Nat) (L : List Int) (Z : List Nat) (ao : Option Addr) (zc ql : Nat) (xs : List Value), s ≤ n ∧ iv = .int .i64 s ∧ LabS n R s [] L ∧ SzOk n R s Z ∧ At wr lb 21 (vI .i32 L) ∧ sv = .slice ao Z.length zc ∧
          wr.ownsRow (qb + 1) 3 1 (.slice ao Z.length zc) Z.length (vN .i64 Z) ∧ qv = .slice (some ⟨qb, 0, none⟩) ql n ∧ wr.ownsRow qb 21 1 (.slice (some ⟨qb, 0, none⟩) ql n) ql xs ∧ qb + 1 ≤ wr.heap.size ∧ Below w.heap.size w wr) (fun _ _ i _ => n - (intOf i).toNat)
      case atStart => exact ⟨0, L, [], none, 0, 0, [], Nat.zero_le _, rfl, hL0, sz_zero n R, hAl2, rfl, World.ownsRow_nil _ _ _ _, rfl, hoq, hsz2', B2⟩
      case round =>
        clear hL0 hAl2 hoq hsz2' B2 hi hlt
        obtain ⟨s, L, Z, ao, zc, ql, xs, hs, rfl, hL, hZ, hAl, rfl, hoz, rfl, hoq, hsz, hB⟩ := hrel
        by_cases hlt : s < n
        · have hLl := hL.1
          have c1 := hAl.cellI s (by omega)
          have hqln := (own_at hoq).2.1
          by_cases hroot : R.getD s 0 = s
          · have hLs := (lab_neg hL hlt (by omega)).1 (by simp)
            have hrk := rk_le R s
            have hZl := hZ.1
            rw [hLs] at c1
            have f1 := hAl.frozen s
            have hL1 : LabS n R s [s] (L.set s (rk R s)) := lab_push (Q := []) hL hlt hroot
            have hQ1 : QOk n R s [s] := qok_one hlt hroot
            have hC1 : Clo n M [s] 0 := fun t ht => by omega
            rw [← hZl] at hrk hL1
            have hoq0 := own_zero hoq
            have HZL := hide hZl
            have hAl1 : At (wr.setCell ⟨lb, s, none⟩ (.int .i32 (Z.length : Int))) lb 21 (vI .i32 (L.set s (Z.length : Int))) := by rw [← vI_set]; exact hAl.set _ _
            have hoq1 := ownsRow_setCell_below hoq0 (show (⟨lb, s, none⟩ : Addr).block < qb from hlq) (.int .i32 (Z.length : Int))
            have hoz1 := ownsRow_setCell_below hoz (show (⟨lb, s, none⟩ : Addr).block < qb + 1 from by show lb < qb + 1; omega) (.int .i32 (Z.length : Int))
            have hsz1 : qb + 1 ≤ (wr.setCell ⟨lb, s, none⟩ (.int .i32 (Z.length : Int))).heap.size := by simpa using hsz
            have hB1 : Below w.heap.size w (wr.setCell ⟨lb, s, none⟩ (.int .i32 (Z.length : Int))) := hB.setCell (by rw [hlb.out]; exact Nat.le_refl _) _
            clear hLs hZl hoq0 hoq hoz hL hLl hqln
            go_wp2_with (at_builtin; refine wpList_appfit _ rfl _ _ 43 rfl qb 21 (.int .i32 0) 4 Try.underlying43 info21 qb 0 n _ rfl (hoq1.alloc _) wr.heap.size (.int .i32 s) rfl ?d1 rfl ?d2 ?_)
            case d1 => have e : wr.heap.size = (wr.setCell ⟨lb, s, none⟩ (.int .i32 (Z.length : Int))).heap.size := by simp
                       rw [e, World.cell?_alloc_new]; rfl
            case d2 => omega
            intro wq hoq2 hgr
            have hAl2 := (hAl1.alloc (.cells #[Value.int IntKind.i32 s] 21)).grown hgr (by simp; omega)
            have hoz2 := own_grown (hoz1.alloc (.cells #[Value.int IntKind.i32 s] 21)) hgr (by omega)
            have hB2 : Below w.heap.size w wq := (hB1.alloc (by simp; have := hB.size; omega) _).grown hgr (by simp; have := hB.size; omega) (by intro k hk; simp at hk; have := hlb.out; omega)
            have hsz2 : qb + 1 ≤ wq.heap.size := by have := hgr.size; simp at this; omega
            have hoq3 : wq.ownsRow qb 21 1 (.slice (some ⟨qb, 0, none⟩) [s].length n) [s].length (vN .i32 [s]) := hoq2
            clear hoq2 hgr hAl1 hoq1 hoz1 hsz1 hB1 c1 f1 hAl hsz
            have hBsz := hB.size
            clear hB
            go_wp2_with fail
            go_loopw [6, 9] (fun qv hv wr => ∃ (h : Nat) (Q : List Nat) (L : List Int), h ≤ Q.length ∧ hv = .int .i64 h ∧ QOk n R s Q ∧ Hid (s ∈ Q) ∧ Clo n M Q h ∧ LabS n R s Q L ∧ At wr lb 21 (vI .i32 L) ∧ qv = .slice (some ⟨qb, 0, none⟩) Q.length n ∧
                wr.ownsRow qb 21 1 (.slice (some ⟨qb, 0, none⟩) Q.length n) Q.length (vN .i32 Q) ∧ wr.ownsRow (qb + 1) 3 1 (.slice ao Z.length zc) Z.length (vN .i64 Z) ∧ qb + 1 ≤ wr.heap.size ∧ Below w.heap.size w wr) (fun _ h _ => n - (intOf h).toNat)
            case atStart => exact ⟨0, [s], _, Nat.zero_le _, rfl, hQ1, by show _ ∈ _; simp, hC1, hL1, hAl2, rfl, hoq3, hoz2, hsz2, hB2⟩
            case round =>
              clear hQ1 hC1 hL1 hAl2 hoq3 hoz2 hsz2 hB2 wq
              obtain ⟨hp, Q, L, hh, rfl, hQ, HsQ, hC, hL, hAl, rfl, hoq, hoz, hsz, hB⟩ := hrel
              have hQn := qlen_le hQ
              by_cases hhlt : hp < Q.length
              · have cq := own_cell hoq hp hhlt
                have hu1 : (Q.getD hp 0) ∈ Q := by rw [List.getD_eq_getElem?_getD, List.getElem?_eq_getElem hhlt]; simp
                have hu2 := hQ.2 _ hu1
                obtain ⟨u, hu⟩ : ∃ u, Q.getD hp 0 = u := ⟨_, rfl⟩
                rw [hu] at cq hu2
                have HU := hide hu
                obtain ⟨hun, hur⟩ := hu2
                have HUR := hide hur
                clear hu1 hu hur
                have g1 := (hGc.below hB hGc.lt).cell 1
                have g2 := (hGc.below hB hGc.lt).cell 2
                simp only [List.getElem?_cons_zero, List.getElem?_cons_succ] at g1 g2
                have o1 := (hGo.below hB hGo.lt).cellN u (by rw [hO.1]; omega)
                have o2 := (hGo.below hB hGo.lt).cellN (u + 1) (by rw [hO.1]; omega)
                rw [hO.2 u (by omega)] at o1
                rw [hO.2 (u + 1) (by omega), adj_len_succ] at o2
                have hle1 := adj_len_mono n M (show u + 1 ≤ n by omega)
                rw [adj_len_succ] at hle1
                have hseg := adj_seg n M u n hun
                have hnbn := nbTo_len n M u n
                obtain ⟨al, hal⟩ : ∃ al, (adjTo n M n).length = al := ⟨_, rfl⟩
                obtain ⟨lo, hlo⟩ : ∃ lo, (adjTo n M u).length = lo := ⟨_, rfl⟩
                obtain ⟨nl, hnl⟩ : ∃ nl, (nbTo n M u n).length = nl := ⟨_, rfl⟩
                rw [hal] at g2 hle1
                rw [hlo] at o1 o2 hle1 hseg
                rw [hnl] at o2 hle1 hseg hnbn
                have hale : al ≤ acap := by rw [← hal]; exact hAle
                have hal4 : al ≤ 40000 := by rw [← hal]; have := adjTo_len n M n; have := nn_le hn; omega
                have HAL := hide hal
                have HNL := hide hnl
                have HLO := hide hlo
                have HSEG := hide hseg
                clear hal hlo hnl hseg
                have o2' : wr.cell? ⟨ob, u + 1, none⟩ = some (.int .i64 ((lo : Int) + (nl : Int))) := by rw [o2]; simp
                clear o2
                have i1 : (0 : Int) ≤ (u : Int) := by omega
                have i2 : (u : Int) < (n : Int) + 1 := by omega
                have i3 : (u : Int) + 1 < (n : Int) + 1 := by omega
                have i4 : (lo : Int) ≤ (lo : Int) + (nl : Int) := by omega
                have i5 : (lo : Int) + (nl : Int) ≤ (acap : Int) := by omega
                by_cases hnl0 : nl = 0
                · have hC' : Clo n M Q (hp + 1) := clo_succ hC (by rw [HU.out, HNL.out, hnl0]; intro t ht; omega)
                  have HC' := hide hC'
                  clear hC hC'
                  go_wp2_with fail
                  go_quiet (fail)
                  all_goals go_wp2_with fail
                  all_goals (refine wp_loop_rounds 1 ?_; rw [rounds_succ])
                  all_goals go_wp2_with fail
                  all_goals
                    go_roundw
                    case rel => exact ⟨hp + 1, Q, L, by omega, by go_num, hQ, HsQ, HC'.out, hL, hAl, rfl, hoq, hoz, hsz, Below.drewN hB nq⟩
                    case measure => simp [intOf]; omega
                · go_wp2_with fail
                  go_quiet (fail)
                  have hAl' : At (wr.drewN nq) lb 21 (vI .i32 L) := hAl
                  have hoq' : (wr.drewN nq).ownsRow qb 21 1 (.slice (some ⟨qb, 0, none⟩) Q.length n) Q.length (vN .i32 Q) := hoq
                  have hoz' : (wr.drewN nq).ownsRow (qb + 1) 3 1 (.slice ao Z.length zc) Z.length (vN .i64 Z) := hoz
                  have hsz' : qb + 1 ≤ (wr.drewN nq).heap.size := hsz
                  have hB' : Below w.heap.size w (wr.drewN nq) := Below.drewN hB nq
                  clear hAl hoq hoz hsz hB cq g1 g2 o1 o2' i1 i2 i3 i4 i5
                  go_wp2_with fail
                  rw [Nat.add_sub_cancel_left]
                  generalize wr.drewN nq = wq at *
                  go_loopw [6, 84] (fun qv kv wr => ∃ (k : Nat) (Q : List Nat) (L : List Int), k ≤ nl ∧ kv = .int .i64 k ∧ hp < Q.length ∧ Hid (Q.getD hp 0 = u) ∧ QOk n R s Q ∧ Hid (s ∈ Q) ∧ Clo n M Q hp ∧ CloK n M Q u k ∧ LabS n R s Q L ∧ At wr lb 21 (vI .i32 L) ∧ qv = .slice (some ⟨qb, 0, none⟩) Q.length n ∧
                    wr.ownsRow qb 21 1 (.slice (some ⟨qb, 0, none⟩) Q.length n) Q.length (vN .i32 Q) ∧ wr.ownsRow (qb + 1) 3 1 (.slice ao Z.length zc) Z.length (vN .i64 Z) ∧ qb + 1 ≤ wr.heap.size ∧ Below w.heap.size w wr) (fun _ k _ => nl - (intOf k).toNat)
                  case atStart => exact ⟨0, Q, L, Nat.zero_le _, rfl, hhlt, HU, hQ, HsQ, hC, fun t ht => by omega, hL, hAl', rfl, hoq', hoz', hsz', hB'⟩
                  case round =>
                    clear HU hQ HsQ hC hL hAl' hoq' hoz' hsz' hB' hQn hhlt hh
                    obtain ⟨k, Q, L, hk, rfl, hhlt, HU, hQ, HsQ, hC, hK, hL, hAl, rfl, hoq, hoz, hsz, hB⟩ := hrel
                    have hQn := qlen_le hQ
                    by_cases hklt : k < nl
                    · have hvm : (nbTo n M u n).getD k 0 ∈ nbTo n M u n := by
                        rw [List.getD_eq_getElem?_getD, List.getElem?_eq_getElem (by rw [HNL.out]; exact hklt)]; simp
                      have hvv := (mem_nbTo n M u n _).1 hvm
                      have hsk := HSEG.out k hklt
                      have hks := clok_succ hK
                      obtain ⟨v, hv⟩ : ∃ v, (nbTo n M u n).getD k 0 = v := ⟨_, rfl⟩
                      rw [hv] at hvv hsk hks
                      have hRv : R.getD v 0 = s := by rw [← root_edge hR hun hvv.1 hvv.2]; exact HUR.out
                      have hvn := hvv.1
                      have ca : wr.cell? ⟨ab, lo + k, none⟩ = some (.int .i32 v) := by
                        rw [(hGa.below hB hGa.lt).cell]
                        have e1 : (acur.take (adjTo n M n).length)[lo + k]? = acur[lo + k]? := by rw [List.getElem?_take, if_pos (by rw [HAL.out]; omega)]
                        rw [← e1, HAT.out, ← hsk]
                        have : lo + k < (adjTo n M n).length := by rw [HAL.out]; omega
                        simp [vN, this]
                      have hLl := hL.1
                      have cl := hAl.cellI v (by omega)
                      have hLn := lab_neg hL hvn (by omega)
                      have HV := hide hv
                      clear hvm hvv hsk hv
                      by_cases hvQ : v ∈ Q
                      · rw [hLn.2 hvQ] at cl
                        have HK' := hide (hks hvQ)
                        clear hks hLn hvQ hRv hK
                        generalize rk R s = rks at *
                        go_wp2_with fail
                        go_roundw
                        case rel => exact ⟨k + 1, Q, L, by omega, by go_num, hhlt, HU, hQ, HsQ, hC, HK'.out, hL, hAl, rfl, hoq, hoz, hsz, hB⟩
                        case measure => simp [intOf]; omega
                      · rw [hLn.1 hvQ] at cl
                        have hQ' := qok_push hQ hvn hRv hvQ
                        have hL' := lab_push hL hvn hRv
                        have hC' := clo_push hC (Nat.le_of_lt hhlt) v
                        have hK' : CloK n M (Q ++ [v]) u (k + 1) := clok_succ (clok_push hK v) (by rw [HV.out]; simp)
                        have hQn' := qlen_le hQ'
                        rw [List.length_append, List.length_singleton] at hQn'
                        have fl := hAl.frozen v
                        rw [← HZL.out] at hL'
                        have hAl1 : At (wr.setCell ⟨lb, v, none⟩ (.int .i32 (Z.length : Int))) lb 21 (vI .i32 (L.set v (Z.length : Int))) := by rw [← vI_set]; exact hAl.set _ _
                        have hoq1 := ownsRow_setCell_below hoq (show (⟨lb, v, none⟩ : Addr).block < qb from hlq) (.int .i32 (Z.length : Int))
                        have hoz1 := ownsRow_setCell_below hoz (show (⟨lb, v, none⟩ : Addr).block < qb + 1 from by show lb < qb + 1; omega) (.int .i32 (Z.length : Int))
                        have hB1 : Below w.heap.size w (wr.setCell ⟨lb, v, none⟩ (.int .i32 (Z.length : Int))) := hB.setCell (by rw [hlb.out]; exact Nat.le_refl _) _
                        have HU' : Hid ((Q ++ [v]).getD hp 0 = u) := by show _ = _; rw [getD_app Q v hp hhlt]; exact HU.out
                        have HsQ' : Hid (s ∈ Q ++ [v]) := List.mem_append_left _ HsQ.out
                        have hBs := hB.size
                        clear hks hLn hvQ hRv hK hQ hL hC hAl hoq hoz hB
                        go_wp2_with (at_builtin; refine wpList_appfit _ rfl _ _ 43 rfl qb 21 (.int .i32 0) 4 Try.underlying43 info21 qb Q.length n _ rfl (hoq1.alloc _) wr.heap.size (.int .i32 v) rfl ?e1 rfl ?e2 ?_)
                        case e1 => have e : wr.heap.size = (wr.setCell ⟨lb, v, none⟩ (.int .i32 (Z.length : Int))).heap.size := by simp
                                   rw [e, World.cell?_alloc_new]; rfl
                        case e2 => omega
                        intro wv hoq2 hgr
                        have hAl2 := (hAl1.alloc (.cells #[Value.int IntKind.i32 v] 21)).grown hgr (by simp; omega)
                        have hoz2 := own_grown (hoz1.alloc (.cells #[Value.int IntKind.i32 v] 21)) hgr (by omega)
                        have hB2 : Below w.heap.size w wv := (hB1.alloc (by simp; omega) _).grown hgr (by simp; omega) (by intro k hk; simp at hk; have := hlb.out; omega)
                        have hsz2 : qb + 1 ≤ wv.heap.size := by have := hgr.size; simp at this; omega
                        rw [vN_snoc] at hoq2
                        clear hgr hAl1 hoq1 hoz1 hB1 cl fl ca
                        go_wp2_with fail
                        go_roundw
                        case rel => exact ⟨k + 1, Q ++ [v], L.set v (Z.length : Int), by omega, by go_num, by simp; omega, HU', hQ', HsQ', hC', hK', hL', hAl2, by simp, by simpa using hoq2, hoz2, hsz2, hB2⟩
                        case measure => simp [intOf]; omega
                    · obtain rfl : k = nl := by omega
                      have hC' : Clo n M Q (hp + 1) := clo_succ hC (by rw [HU.out, HNL.out]; exact hK)
                      have HC' := hide hC'
                      clear hC hC'
                      go_wp2_with fail
                      go_roundw
                      case rel => exact ⟨hp + 1, Q, L, by omega, by go_num, hQ, HsQ, HC'.out, hL, hAl, rfl, hoq, hoz, hsz, hB⟩
                      case measure => simp [intOf]; omega
              · obtain rfl : hp = Q.length := by omega
                have hall := clo_all hS hR hlt HsQ.out hC
                have HL' := hide (lab_done hL hQ hall)
                have HZ' := hide (sz_push hZ hroot (qok_cnt hQ hall))
                have hZl : Z.length ≤ 200 := by omega
                clear hall hL hQ hZ hC hroot
                go_wp2_with (at_builtin; refine wpList_app1 _ rfl _ _ 36 rfl (qb + 1) 3 (.int .i64 0) 8 Try.underlying36 info3 rfl _ _ _ rfl (hoz.alloc _) wr.heap.size (.int .i64 Q.length) rfl ?f1 rfl ?f2 ?f3 ?f4 ?_)
                case f1 => simp
                case f2 => unfold maxLen; omega
                case f3 => omega
                case f4 => simp; omega
                intro zg zcap wv hoz2 hgr
                have hrow := hoz.lt
                generalize (Value.slice ao Z.length zc).ownBlock = row at hgr hrow
                have hAl2 := (hAl.alloc (.cells #[Value.int IntKind.i64 Q.length] 3)).grown hgr (fun e => by have := hrow _ e.symm; omega)
                have hoq2 : wv.ownsRow qb 21 1 (.slice (some ⟨qb, 0, none⟩) Q.length n) Q.length (vN .i32 Q) := (hoq.alloc (.cells #[Value.int IntKind.i64 Q.length] 3)).kept hgr (.inr (fun e => by simp [Value.ownBlock] at e; have := hrow _ e.symm; omega))
                have hBs := hB.size
                have hB2 : Below w.heap.size w wv := (hB.alloc hBs _).grown hgr (by simp; omega) (by intro k hk; have := hrow _ hk; have := hlb.out; omega)
                have hsz2 : qb + 1 ≤ wv.heap.size := by have := hgr.size; simp at this; omega
                rw [vN_snoc] at hoz2
                clear hgr hrow hAl hoq hoz hB hsz
                go_wp2_with fail
                go_roundw
                case rel => exact ⟨s + 1, L, Z ++ [Q.length], some ⟨zg, 0, none⟩, zcap, Q.length, _, by omega, by go_num, HL'.out, HZ'.out, hAl2, by simp, by simpa using hoz2, rfl, hoq2, hsz2, hB2⟩
                case measure => simp [intOf]; omega
          · have hRs := (hR.2.1 s hlt).1
            have hLs := hL.2 s hlt
            rw [if_pos (by omega)] at hLs
            rw [hLs] at c1
            have HL' := hide (lab_skip hR hL hroot)
            have HZ' := hide (sz_skip hZ hroot)
            clear hLs hroot hRs hL hZ
            generalize rk R (R.getD s 0) = q at c1
            go_wp2_with fail
            go_roundw
            case rel => exact ⟨s + 1, L, Z, ao, zc, ql, xs, by omega, by go_num, HL'.out, HZ'.out, hAl, rfl, hoz, rfl, hoq, hsz, hB⟩
            case measure => simp [intOf]; omega
        · obtain rfl : s = n := by omega
          go_wp2_with fail
          go_ret2
          exact ⟨lb, ao, L, Z, zc, rfl, by rw [hlb.out]; exact Nat.le_refl _, hL, hZ, hAl, own_base hoz (by omega), hB⟩
end Go.Proofs.Qxb6003842a
