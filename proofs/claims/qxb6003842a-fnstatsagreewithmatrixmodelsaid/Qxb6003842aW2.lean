import Derived.Test.Qxb6003842aRows
import Derived.Test.Qxb6003842aBase
import Derived.Test.Qxb6003842aPlain
import Derived.Test.Qxb6003842aW1
set_option linter.unusedVariables false
set_option linter.unusedSimpArgs false
namespace Go.Proofs.Qxb6003842a
open Go.RowKit

set_option maxHeartbeats 400000 in
theorem graph_any (v0 v1 v2 : Value) (a0 a1 a2 : Option Addr) (l0 c0 l1 c1 l2 c2 : Nat) (w : World) (h0 : v0 = .slice a0 l0 c0) (h1 : v1 = .slice a1 l1 c1) (h2 : v2 = .slice a2 l2 c2) :
    Calls Try.prog 28 #[v0, v1, v2] w fun e w' => ∃ g, e = .returned (.pointer (some ⟨g, 0, none⟩)) ∧ g = w.heap.size ∧ w' = w.alloc (.cells #[v0, v1, v2] 62) := by
  subst h0 h1 h2
  go_enter Try.func28, Try.ntmps28
  go_wp2
  go_ret
  exact ⟨_, rfl, rfl, rfl⟩

/-- A graph in memory: the pointer's block g; ids, off, adj. -/
def IsGraph (w : World) (base g n : Nat) (O A : List Nat) : Prop :=
  ∃ ib ob ab cap cur IDS, At w g 62 [.slice (some ⟨ib, 0, none⟩) n n, .slice (some ⟨ob, 0, none⟩) (n + 1) (n + 1), .slice (some ⟨ab, 0, none⟩) A.length cap] ∧
    At w ib 2 (vN .i64 IDS) ∧ IDS.length = n ∧ At w ob 3 (vN .i64 O) ∧ At w ab 21 cur ∧ cur.length = cap ∧ A.length ≤ cap ∧ cur.take A.length = vN .i32 A ∧ base ≤ g ∧ base ≤ ib ∧ base ≤ ob ∧ base ≤ ab

set_option maxHeartbeats 1000000 in
theorem build_any (n : Nat) (hn : n ≤ 200) (mb : Nat) (M : List Bool) (hM : M.length = n * n) (w : World) (hA : At w mb 4 (vB M)) :
    Calls Try.prog 20 #[.int .i64 n, .slice (some ⟨mb,0,none⟩) (n*n) (n*n)] w fun e w' =>
      ∃ g O, e = .returned (.pointer (some ⟨g, 0, none⟩)) ∧ OffTo n M O n ∧ IsGraph w' w.heap.size g n O (adjTo n M n) ∧ Below w.heap.size w w' := by
  obtain ⟨N2, hN2⟩ : ∃ N2, N2 = n * n := ⟨_, rfl⟩
  have hN2b : N2 ≤ 40000 := by rw [hN2]; exact nn_le hn
  rw [← hN2] at hM ⊢
  have HN2 := hide hN2
  clear hN2
  go_enter Try.func20, Try.ntmps20
  go_wp2_with (at_make; refine wpList_make_at _ rfl _ _ 22 rfl 2 (.int .i64 0) 8 Try.underlying22 info2 rfl _ _ _ _ n n rfl rfl rfl rfl (Nat.le_refl _) (by omega) (by omega) ?_)
  intro ib w1 hib hsz1 hA1 hB1
  go_wp2_with (at_make; refine wpList_make_at _ rfl _ _ 36 rfl 3 (.int .i64 0) 8 Try.underlying36 info3 rfl _ _ _ _ (n+1) (n+1) rfl rfl (by omega) (by omega) (Nat.le_refl _) (by omega) (by omega) ?_)
  intro ob w2 hob hsz2 hA2 hB2
  go_wp2_with (at_make; refine wpList_make_at _ rfl _ _ 43 rfl 21 (.int .i32 0) 4 Try.underlying43 info21 rfl _ _ _ _ 0 0 rfl rfl (by omega) (by omega) (Nat.le_refl _) (by omega) (by omega) ?_)
  intro ab w3 hab hsz3 hA3 hB3
  have e1 := hib.out
  have e2 := hsz1.out
  have e3 := hob.out
  have e4 := hsz2.out
  have e5 := hab.out
  have e6 := hsz3.out
  have B3 : Below w.heap.size w w3 := (hB1.trans (hB2.mono (by omega))).trans (hB3.mono (by omega))
  have A1 : At w3 ib 2 (vN .i64 (List.replicate n 0)) := by rw [← vN_rep]; exact (hA1.below hB2 (by omega)).below hB3 (by omega)
  have A2 : At w3 ob 3 (vN .i64 (List.replicate (n+1) 0)) := by rw [← vN_rep]; exact hA2.below hB3 (by omega)
  have OW : w3.ownsRow ab 21 1 (.slice (some ⟨ab, 0, none⟩) 0 0) 0 (vN .i32 []) := own_of_at hA3 (Nat.le_refl _) (by simp) (by simp [maxLen]) 0 (Nat.le_refl _)
  have hio : ib < ob ∧ ob < ab ∧ w.heap.size = ib := by omega
  clear hA1 hA2 hA3 hB1 hB2 hB3 hib hsz1 hob hsz2 hab hsz3 e1 e2 e3 e4 e5
  have hsz3 : ab + 1 ≤ w3.heap.size := by omega
  clear e6
  obtain ⟨hio1, hio2, hio3⟩ := hio
  have HIB := hide hio3
  clear hio3
  go_wp2_with fail
  go_loopw [7, 8] (fun v iv wr => ∃ (i : Nat) (IDS O A : List Nat) (g cap : Nat), i ≤ n ∧ iv = .int .i64 i ∧ IDS.length = n ∧ OffTo n M O i ∧ At wr ib 2 (vN .i64 IDS) ∧ At wr ob 3 (vN .i64 O) ∧ Hid (A = adjTo n M i) ∧
      v = .slice (some ⟨g, 0, none⟩) A.length cap ∧ wr.ownsRow ab 21 1 v A.length (vN .i32 A) ∧ ab + 1 ≤ wr.heap.size ∧ Below w.heap.size w wr) (fun _ i _ => n - (intOf i).toNat)
  case atStart => exact ⟨0, _, _, [], ab, 0, Nat.zero_le _, rfl, by simp, offTo_zero n M, A1, A2, rfl, rfl, OW, hsz3, B3⟩
  case round =>
    obtain ⟨i, IDS, O, A, g, cap, hi, rfl, hIl, hO, hAi, hAo, HA, rfl, hown, hsz, hB⟩ := hrel
    clear A1 A2 OW B3 hsz3
    by_cases hlt : i < n
    · have c1 := hAi.cellN i (by omega)
      have f1 := hAi.frozen i
      have hin : (i : Int) * (n : Int) = ((i * n : Nat) : Int) := by rw [Int.natCast_mul]
      have hinb : i * n + n ≤ N2 := by rw [HN2.out]; have := Nat.mul_le_mul_right n (show i + 1 ≤ n from hlt); rw [Nat.add_mul] at this; omega
      have hgi : ib ≠ g := by have := (own_at hown).1; omega
      have hAi' : At (wr.setCell ⟨ib, i, none⟩ (.int .i64 i)) ib 2 (vN .i64 (IDS.set i i)) := by rw [← vN_set]; exact hAi.set _ _
      have hAo' : At (wr.setCell ⟨ib, i, none⟩ (.int .i64 i)) ob 3 (vN .i64 O) := hAo.set_ne _ _ (show ob ≠ ib by omega)
      have hown' : (wr.setCell ⟨ib, i, none⟩ (.int .i64 i)).ownsRow ab 21 1 (.slice (some ⟨g, 0, none⟩) A.length cap) A.length (vN .i32 A) := ownsRow_setCell_below hown (show ib < ab by omega) _
      have hB' : Below w.heap.size w (wr.setCell ⟨ib, i, none⟩ (.int .i64 i)) := hB.setCell (show w.heap.size ≤ ib by rw [HIB.out]; exact Nat.le_refl _) _
      have hsz' : ab + 1 ≤ (wr.setCell ⟨ib, i, none⟩ (.int .i64 i)).heap.size := by simpa using hsz
      go_wp2_with fail
      clear c1 f1 hAi hown hB hsz hAo
      generalize wr.setCell ⟨ib, i, none⟩ (.int .i64 i) = wr1 at *
      go_loopw [7, 9] (fun v jv wq => ∃ (j : Nat) (A' : List Nat) (g cap : Nat), j ≤ n ∧ jv = .int .i64 j ∧ At wq ib 2 (vN .i64 (IDS.set i i)) ∧ At wq ob 3 (vN .i64 O) ∧ Hid (A' = adjTo n M i ++ nbTo n M i j) ∧
          v = .slice (some ⟨g, 0, none⟩) A'.length cap ∧ wq.ownsRow ab 21 1 v A'.length (vN .i32 A') ∧ ab + 1 ≤ wq.heap.size ∧ Below w.heap.size w wq) (fun _ j _ => n - (intOf j).toNat)
      case atStart => exact ⟨0, A, g, cap, Nat.zero_le _, rfl, hAi', hAo', by show _ = _; rw [HA.out]; simp [nbTo], rfl, hown', hsz', hB'⟩
      case round =>
        clear hAi' hAo' hown' hB' hsz' hgi HA
        obtain ⟨j, A, g, cap, hj, rfl, hAi, hAo, HA, rfl, hown, hsz, hB⟩ := hrel
        have hAl : A.length ≤ 40000 := by
          rw [HA.out, List.length_append]
          have h1 := adjTo_len n M i
          have h2 := nbTo_len n M i j
          omega
        by_cases hjlt : j < n
        · have hij : i * n + j < M.length := by rw [hM]; omega
          have hnx := nbTo_succ n M i j
          generalize i * n = p at *
          have cm := (hA.below hB hA.lt).cellB (p + j) hij
          by_cases hbit : M.getD (p + j) false = true
          · rw [hbit] at cm
            rw [if_pos hbit] at hnx
            have HX := hide hnx
            clear hnx hbit
            go_wp2_with (at_builtin; refine wpList_app1 _ rfl _ _ 43 rfl ab 21 (.int .i32 0) 4 Try.underlying43 info21 rfl _ _ _ rfl (hown.alloc _) wr.heap.size (.int .i32 j) rfl ?c1 rfl ?c2 ?c3 ?c4 ?_)
            case c1 => simp
            case c2 => unfold maxLen; omega
            case c3 => omega
            case c4 => simp; omega
            intro g' cap' wv hown2 hgr
            have hgr' : some g = (Value.slice (some ⟨g, 0, none⟩) A.length cap).ownBlock := rfl
            rw [← hgr'] at hgr
            have hge := (own_at hown).1
            have hAi2 := (hAi.alloc (.cells #[Value.int IntKind.i32 j] 21)).grown hgr (by simp; omega)
            have hAo2 := (hAo.alloc (.cells #[Value.int IntKind.i32 j] 21)).grown hgr (by simp; omega)
            have hB2 : Below w.heap.size w wv := (hB.alloc (by rw [HIB.out]; omega) _).grown hgr (by simp; rw [HIB.out]; omega) (by intro k hk; simp at hk; rw [HIB.out]; omega)
            have hsz2 : ab + 1 ≤ wv.heap.size := by have := hgr.size; simp at this; omega
            rw [vN_snoc] at hown2
            clear hAi hAo hB hsz hown hgr cm
            go_wp2_with fail
            go_roundw
            case rel => exact ⟨j + 1, A ++ [j], g', cap', by omega, by go_num, hAi2, hAo2, by show _ = _; rw [HX.out, HA.out]; simp, by simp, by simpa using hown2, hsz2, hB2⟩
            case measure => simp [intOf]; omega
          · have hbit' : M.getD (p + j) false = false := by simpa using hbit
            rw [hbit'] at cm
            rw [if_neg hbit, List.append_nil] at hnx
            have HX := hide hnx
            clear hnx hbit hbit'
            go_wp2_with fail
            go_roundw
            case rel => exact ⟨j + 1, A, g, cap, by omega, by go_num, hAi, hAo, by show _ = _; rw [HX.out, HA.out], rfl, hown, hsz, hB⟩
            case measure => simp [intOf]; omega
        · have hAe : A = adjTo n M (i + 1) := by rw [HA.out]; simp only [adjTo]; rw [show j = n by omega]
          have HAE := hide hAe
          have hcl : i + 1 < O.length := by rw [hO.1]; omega
          have c1 := hAo.cellN (i + 1) hcl
          have f1 := hAo.frozen (i + 1)
          have hge := (own_at hown).1
          clear hAe hcl HA
          go_wp2_with fail
          go_roundw
          case rel => exact ⟨i + 1, IDS.set i i, O.set (i + 1) A.length, A, g, cap, by omega, by go_num, by simp [hIl], by rw [HAE.out]; exact offTo_succ hO hlt, hAi.set_ne _ _ (show ib ≠ ob by omega), by rw [← vN_set]; exact hAo.set _ _, HAE, rfl, ownsRow_setCell_below hown (show ob < ab by omega) _, by simpa using hsz, hB.setCell (show w.heap.size ≤ ob by rw [HIB.out]; omega) _⟩
          case measure => simp [intOf]; omega
    · obtain rfl : i = n := by omega
      have hge := own_at hown
      obtain ⟨hg1, hg2, cur, hAc, hcl, hct⟩ := hge
      have hAcl := hAc.lt
      go_wp2_with (go_at_call 28; refine (graph_any _ _ _ _ _ _ _ _ _ _ _ _ _ rfl rfl rfl).mono ?_; rintro e w' ⟨gg, rfl, hgg, rfl⟩; replace hgg := hide hgg)
      go_ret
      refine ⟨gg, O, rfl, hO, ⟨ib, ob, g, cap, cur, IDS, ?_, hAi.alloc _, hIl, hAo.alloc _, hAc.alloc _, hcl, ?_, ?_, ?_, by rw [HIB.out]; exact Nat.le_refl _, by rw [HIB.out]; omega, by rw [HIB.out]; omega⟩, hB.alloc (by rw [HIB.out]; omega) _⟩
      · rw [hgg.out, ← HA.out]; exact At.new _ _ _
      · rw [← HA.out]; exact hg2
      · rw [← HA.out]; exact hct
      · rw [hgg.out, HIB.out]; omega
end Go.Proofs.Qxb6003842a
