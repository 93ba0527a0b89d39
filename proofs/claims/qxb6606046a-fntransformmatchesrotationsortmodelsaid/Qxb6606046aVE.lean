import Derived.Test.Qxb6606046aVD
set_option linter.unusedVariables false
set_option linter.unusedSimpArgs false
namespace Go.Proofs.Qxb6606046a
open Go.RowKit

set_option maxHeartbeats 4000000 in
set_option maxRecDepth 20000 in
theorem law3 (HS : ∀ n, SortSpec 16 .u8 n) (a0 : Option Addr) (len0 cap0 : Nat) (zs : List Int) (w : World)
    (w0 : (a0 = none ∧ len0 = 0 ∧ cap0 = 0 ∧ zs = []) ∨ ∃ x, a0 = some x ∧ len0 ≤ cap0 ∧ cap0 ≤ maxLen ∧ zs.length = cap0 ∧ (∀ i, i < zs.length → w.cell? (x.add i) = some (.int .u8 (zs.getD i 0))) ∧ ∀ n ∈ zs, (Lit.int .u8 n).wf = true) :
    Calls Try.prog 3 #[.slice a0 len0 cap0] w fun e w' => e = .returned (.bool true) ∧ Below w.heap.size w w' := by
  have hlm : len0 ≤ maxLen := by
    rcases w0 with ⟨_, h, _⟩ | ⟨x, _, h1, h2, _⟩
    · omega
    · omega
  have hlm2 := hlm
  unfold maxLen at hlm2
  by_cases hb : len0 ≤ 1048576
  · by_cases hc : len0 ≤ 1024
    · by_cases hd : len0 = 0
      · subst hd
        go_enter Try.func3, Try.ntmps3
        go_wp2_with fail
        refine (bytes6 a0 _ cap0 w hlm).mono ?_
        rintro e w1 ⟨rfl, rfl⟩
        go_wp2_with fail
        go_ret
        exact ⟨rfl, Below.refl _ _⟩
      · rcases w0 with ⟨_, h, _⟩ | ⟨x, rfl, h1, h2, h3, hcell, hw⟩
        · exact (hd h).elim
        · obtain ⟨S, hS, hcl⟩ := clone_row x len0 cap0 zs w (by omega) (by omega) hcell hw
          clear hcell hw h1 h2 h3
          generalize hln : len0 = n at *
          have n1 : 1 ≤ n := by omega
          have db : decide (n ≤ 1048576) = true := decide_eq_true hb
          have d1 : ¬ (1024 : Int) < (n : Int) := by omega
          have d1b : decide ((1024 : Int) < (n : Int)) = false := decide_eq_false (by omega)
          have d2 : ((n : Int) == 0) = false := by simp; omega
          have d3 : ¬ (n : Int) = 0 := by omega
          go_enter Try.func3, Try.ntmps3
          go_wp2_with fail
          refine (bytes6 _ _ cap0 w hlm).mono ?_
          rintro e w1 ⟨rfl, he⟩
          have he' := he.symm
          subst he'
          clear he
          rw [db]
          go_wp2_with fail
          refine hcl.mono ?_
          rintro e w1 ⟨xb, rfl, hgx, hx, hF1⟩
          clear hcl
          go_wp2_with (at_make; refine wpList_make_at _ rfl _ _ 22 rfl 5 (.int .u8 0) 1 Try.underlying22 info5 rfl _ _ _ _ n n rfl rfl rfl rfl (Nat.le_refl _) (by omega) (by omega) ?_)
          intro yb w2 hg hsz hA hB
          have hP := tr_pre n1 (by omega) hS hx hg.out hA hB
          have hF2 : Fr w1 w2 XN := Fr.of_below hB XN
          clear hA
          go_wp2_with fail
          refine (zz_transform HS n S _ xb yb _ _ _ _ hP).mono ?_
          intro e w3 hq
          obtain ⟨⟨P, L, i0, rfl, hPs, hi0, hi0P, hL, hLM⟩, hF3⟩ := hq
          have l1 := World.block_lt_of_cell? _ _ (hP.x 0 n1)
          simp only [] at l1
          have hx4 := hP.x.fr hF3 (fun i _ e => e.elim (fun e => hP.tx e.symm) (fun e => hP.xy e))
          have sz1 := hF1.size
          have sz2 := hF2.size
          have hW : Fr w w3 XN := by
            have h1 : Fr w (w2.alloc (Obj.cells #[.slice none 0 0, .slice none 0 0] 28)) XN := (hF1.trans hF2).alloc _
            refine h1.then hF3 (fun k o hk e => ?_)
            rcases e with e | e
            · omega
            · have := hg.out; omega
          have hL4 : RdI w3 yb 0 .u8 (fun j => (S (lastM n P i0 j) : Int)) n := hL.congr (fun j hj => by rw [hLM j hj])
          clear hL hLM hF3 hP hF1 hF2 hB sz1 sz2 l1
          go_wp2_with fail
          refine (rotation n n1 (by omega) S P i0 hPs hi0 hi0P xb n w3 hx4).mono ?_
          rintro e w4 ⟨y2, rfl, hy2, hF4⟩
          have hL5 := hL4.fr hF4 (fun _ _ e => e)
          have hW4 := hW.trans hF4
          clear hL4 hx4 hW hF4 hPs
          have e5 : (((i0 : Int) + 1) == ((i0 : Int) + 1)) = true := by simp
          go_wp2_with fail
          refine (bytes_equal n (by omega) (fun j => S (lastM n P i0 j)) yb 0 n y2 0 n w4 hL5 hy2).mono ?_
          rintro e w5 ⟨rfl, hF5⟩
          have hbel : Below w.heap.size w w5 := (hW4.trans hF5).below (X := XN) (Nat.le_refl _) (fun _ _ e => e.elim)
          clear hL5 hy2 hF5 hW4
          go_wp2_with fail
          go_ret
          exact ⟨rfl, hbel⟩
    · have db : decide (len0 ≤ 1048576) = true := decide_eq_true hb
      have d1 : (1024 : Int) < (len0 : Int) := by omega
      go_enter Try.func3, Try.ntmps3
      go_wp2_with fail
      refine (bytes6 a0 _ cap0 w hlm).mono ?_
      rintro e w1 ⟨rfl, rfl⟩
      rw [db]
      go_wp2_with fail
      go_ret
      exact ⟨rfl, Below.refl _ _⟩
  · have db : decide (len0 ≤ 1048576) = false := decide_eq_false hb
    go_enter Try.func3, Try.ntmps3
    go_wp2_with fail
    refine (bytes6 a0 _ cap0 w hlm).mono ?_
    rintro e w1 ⟨rfl, rfl⟩
    rw [db]
    go_wp2_with fail
    go_ret
    exact ⟨rfl, Below.refl _ _⟩
end Go.Proofs.Qxb6606046a
