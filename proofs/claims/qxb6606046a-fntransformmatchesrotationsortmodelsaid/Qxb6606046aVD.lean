import Derived.Test.Qxb6606046aVC
set_option linter.unusedVariables false
set_option linter.unusedSimpArgs false
namespace Go.Proofs.Qxb6606046a
open Go.RowKit

theorem u8_wf {n : Int} (h : (Lit.int .u8 n).wf = true) : 0 ≤ n ∧ n < 256 := by
  have h2 : (decide (IntKind.u8.min ≤ n) && decide (n ≤ IntKind.u8.max)) = true := h
  rw [Bool.and_eq_true, decide_eq_true_eq, decide_eq_true_eq, show IntKind.u8.min = 0 by decide, show IntKind.u8.max = 255 by decide] at h2
  omega
/-- Bytes as small numbers. -/
theorem row_S (zs : List Int) (len : Nat) (hl : len ≤ zs.length) (hw : ∀ n ∈ zs, (Lit.int .u8 n).wf = true) : ∃ S : Nat → Nat, ∀ i, i < len → zs.getD i 0 = (S i : Int) ∧ S i < 256 := by
  refine ⟨fun i => (zs.getD i 0).toNat, fun i hi => ?_⟩
  have h1 : zs.getD i 0 ∈ zs := by
    have h2 : i < zs.length := by omega
    have h3 : zs.getD i 0 = zs[i] := by simp [h2]
    rw [h3]
    exact List.getElem_mem h2
  have := u8_wf (hw _ h1)
  show zs.getD i 0 = (((zs.getD i 0).toNat : Nat) : Int) ∧ (zs.getD i 0).toNat < 256
  omega
theorem take_getD (zs : List Int) (len i : Nat) (hi : i < len) : (zs.take len).getD i 0 = zs.getD i 0 := by simp [List.getD, hi]
def z256 : List Value := List.replicate 256 (.int .i64 0)
theorem zero34 (w : World) : (zeroValue 34).run Try.prog w = .ok (.agg z256.toArray) w := by kernel_rfl
theorem clone_row (x : Addr) (len cap : Nat) (zs : List Int) (w : World) (hl : len ≤ zs.length) (hlen : len ≤ 65536) (hcell : ∀ i, i < zs.length → w.cell? (x.add i) = some (.int .u8 (zs.getD i 0))) (hw : ∀ n ∈ zs, (Lit.int .u8 n).wf = true) :
    ∃ S : Nat → Nat, (∀ i, i < len → S i < 256) ∧ Calls Try.prog 7 #[.slice (some x) len cap] w fun e w' => ∃ g, e = .returned (.slice (some ⟨g, 0, none⟩) len len) ∧ w.heap.size ≤ g ∧ RdI w' g 0 .u8 (fun i => (S i : Int)) len ∧ Fr w w' XN := by
  obtain ⟨S, hS⟩ := row_S zs len hl hw
  refine ⟨S, fun i hi => (hS i hi).2, (clone_some x len cap (zs.take len) w (by simp; omega) (by omega) (fun i hi => ?_)).mono ?_⟩
  · rw [hcell i (by omega), take_getD _ _ _ hi]
  · rintro e w' ⟨g, rfl, hg, hA, hB⟩
    refine ⟨g, rfl, hg, fun i hi => ?_, Fr.of_below hB _⟩
    rw [Nat.zero_add, hA.cellI i (by simp; omega), take_getD _ _ _ hi, (hS i hi).1]
/-- The set-up of a transform: a fresh column, a fresh sorter. -/
theorem tr_pre {n : Nat} {S : Nat → Nat} {xb yb : Nat} {w w2 : World} (n1 : 1 ≤ n) (hn : n ≤ 65536) (hS : ∀ i, i < n → S i < 256) (hx : RdI w xb 0 .u8 (fun i => (S i : Int)) n) (hyb : yb = w.heap.size) (hA : At w2 yb 5 (List.replicate n (.int .u8 0))) (hB : Below w.heap.size w w2) :
    TrPre n S w2.heap.size xb yb (fun _ => 0) (w2.alloc (.cells #[.slice none 0 0, .slice none 0 0] 28)) := by
  have hxl := World.block_lt_of_cell? _ _ (hx 0 n1)
  simp only [] at hxl
  have hyl := hA.lt
  have hG : Fr w2 (w2.alloc (.cells #[.slice none 0 0, .slice none 0 0] 28)) XN := (Fr.refl _ _).alloc _
  have hT : At (w2.alloc (.cells #[.slice none 0 0, .slice none 0 0] 28)) w2.heap.size 28 [.slice none 0 0, .slice none 0 0] := At.new w2 28 _
  have hz := hB.size
  exact ⟨n1, hn, hS, (hx.fr (Fr.of_below hB XN) (fun _ _ e => e)).fr hG (fun _ _ e => e), hA.rdI.fr hG (fun _ _ e => e), hA.fz.fr hyl hG, by rw [hT.cell]; rfl, by rw [hT.cell]; rfl, hT.frozen 0, hT.frozen 1, by omega, by omega, by omega⟩

theorem lastM_lt {n : Nat} {S P : Nat → Nat} (h : Ps n S P) {i0 j : Nat} (hj : j < n) : lastM n P i0 j < n := by
  unfold lastM
  by_cases e : j = 0
  · rw [if_pos e]; omega
  · rw [if_neg e]
    have : P (if j ≤ i0 then j - 1 else j) < n := h.lt _ (by split <;> omega)
    omega
theorem ct_down (f : Nat → Int) (L : Nat → Nat) (i : Nat) : (fun c => f c - ((ct (i + 1) L c : Nat) : Int)) = upd (fun c => f c - ((ct i L c : Nat) : Int)) (L i) (f (L i) - ((ct i L (L i) : Nat) : Int) - 1) := by
  funext c
  have h := congrFun (ct_upd L i) c
  by_cases e : c = L i
  · subst e
    rw [upd_same] at h ⊢
    omega
  · rw [upd_ne _ _ e] at h ⊢
    omega

set_option maxHeartbeats 4000000 in
set_option maxRecDepth 20000 in
theorem law5 (HS : ∀ n, SortSpec 16 .u8 n) (a0 : Option Addr) (len0 cap0 : Nat) (zs : List Int) (w : World)
    (w0 : (a0 = none ∧ len0 = 0 ∧ cap0 = 0 ∧ zs = []) ∨ ∃ x, a0 = some x ∧ len0 ≤ cap0 ∧ cap0 ≤ maxLen ∧ zs.length = cap0 ∧ (∀ i, i < zs.length → w.cell? (x.add i) = some (.int .u8 (zs.getD i 0))) ∧ ∀ n ∈ zs, (Lit.int .u8 n).wf = true) :
    Calls Try.prog 5 #[.slice a0 len0 cap0] w fun e w' => e = .returned (.bool true) ∧ Below w.heap.size w w' := by
  have hlm : len0 ≤ maxLen := by
    rcases w0 with ⟨_, h, _⟩ | ⟨x, _, h1, h2, _⟩
    · omega
    · omega
  have hlm2 := hlm
  unfold maxLen at hlm2
  by_cases hb : len0 ≤ 1048576
  · by_cases hc : len0 ≤ 65536
    · by_cases hd : len0 = 0
      · subst hd
        go_enter Try.func5, Try.ntmps5
        go_wp2_with fail
        refine (bytes12 a0 _ cap0 w hlm).mono ?_
        rintro e w1 ⟨rfl, rfl⟩
        go_wp2_with fail
        go_ret
        exact ⟨rfl, Below.refl _ _⟩
      · rcases w0 with ⟨_, h, _⟩ | ⟨x, rfl, h1, h2, h3, hcell, hw⟩
        · exact (hd h).elim
        · obtain ⟨S, hS, hcl⟩ := clone_row x len0 cap0 zs w (by omega) hc hcell hw
          clear hcell hw h1 h2 h3
          generalize hln : len0 = n at *
          have n1 : 1 ≤ n := by omega
          have db : decide (n ≤ 1048576) = true := decide_eq_true hb
          have d1 : ¬ (65536 : Int) < (n : Int) := by omega
          have d1b : decide ((65536 : Int) < (n : Int)) = false := decide_eq_false (by omega)
          have d2 : ((n : Int) == 0) = false := by simp; omega
          have d3 : ¬ (n : Int) = 0 := by omega
          go_enter Try.func5, Try.ntmps5
          go_wp2_with fail
          refine (bytes12 _ _ cap0 w hlm).mono ?_
          rintro e w1 ⟨rfl, he⟩
          have he' := he.symm
          subst he'
          clear he
          rw [db]
          go_wp2_with fail
          refine hcl.mono ?_
          rintro e w1 ⟨xb, rfl, hgx, hx, hF1⟩
          clear hcl
          go_wp2_with (at_make; refine wpList_make_at _ rfl _ _ 22 rfl 5 (.int .u8 0) 1 Try.underlying22 info5 rfl _ _ _ _ n n rfl rfl rfl rfl (Nat.le_refl _) (by omega) (by omega) ?_)
          intro yb w2 hg hsz hA hB
          have hP := tr_pre n1 hc hS hx hg.out hA hB
          have hF2 : Fr w1 w2 XN := Fr.of_below hB XN
          clear hA
          go_wp2_with fail
          refine (zz_transform HS n S _ xb yb _ _ _ _ hP).mono ?_
          intro e w3 hq
          obtain ⟨⟨P, L, i0, rfl, hPs, hi0, hi0P, hL, hLM⟩, hF3⟩ := hq
          have e1 : ¬ (i0 : Int) + 1 < 1 := by omega
          have e2 : ¬ (n : Int) < (i0 : Int) + 1 := by omega
          have e3 : decide ((i0 : Int) + 1 < 1) = false := decide_eq_false (by omega)
          have e4 : decide ((n : Int) < (i0 : Int) + 1) = false := decide_eq_false (by omega)
          have hz34 := zero34 w3
          go_wp2_with fail
          clear hz34 e1 e2 e3 e4 db d1 d1b d2 d3
          have hA3 : At (w3.alloc (Obj.cells z256.toArray 34)) w3.heap.size 34 z256 := At.new w3 34 _
          have hF4 : Fr w3 (w3.alloc (Obj.cells z256.toArray 34)) XN := (Fr.refl _ _).alloc _
          have hr0 : RdI (w3.alloc (Obj.cells z256.toArray 34)) w3.heap.size 0 .i64 (fun c => ((ct 0 S c : Nat) : Int)) 256 := by
            have := At.rdI (n := 256) (v := 0) (k := .i64) hA3
            exact this
          have hz0 := hA3.fz
          have l1 := World.block_lt_of_cell? _ _ (hP.x 0 n1)
          have l2 := World.block_lt_of_cell? _ _ (hP.y 0 n1)
          simp only [] at l1 l2
          have g3 := hF3.size
          have hxc : xb ≠ w3.heap.size := by omega
          have hyc : yb ≠ w3.heap.size := by omega
          have sz1 := hF1.size
          have sz2 := hF2.size
          have hcw : w.heap.size ≤ w3.heap.size := by
            have : (w2.alloc (Obj.cells #[.slice none 0 0, .slice none 0 0] 28)).heap.size = w2.heap.size + 1 := by simp
            omega
          have hx4 := (hP.x.fr hF3 (fun i _ e => e.elim (fun e => hP.tx e.symm) (fun e => hP.xy e))).fr hF4 (fun _ _ e => e)
          have hL4 := hL.fr hF4 (fun _ _ e => e)
          have hW : Fr w (w3.alloc (Obj.cells z256.toArray 34)) XN := by
            have h1 : Fr w (w2.alloc (Obj.cells #[.slice none 0 0, .slice none 0 0] 28)) XN := (hF1.trans hF2).alloc _
            refine (h1.then hF3 (fun k o hk e => ?_)).trans hF4
            rcases e with e | e
            · omega
            · have := hg.out; omega
          have hLk : ∀ j, j < n → L j < 256 := fun j hj => by rw [hLM j hj]; exact hS _ (lastM_lt hPs hj)
          have HC := hide (last_count hPs hi0 hi0P hLM)
          clear hA3 hF4 hF3 hP hL hLM hF1 hF2 hB g3 l1 l2 sz1 sz2 hPs hi0P
          generalize w3.alloc (Obj.cells z256.toArray 34) = w4 at *
          generalize w3.heap.size = cb at *
          go_loopw [8] (fun iv wr => ∃ i : Nat, i ≤ n ∧ iv = .int .i64 i ∧ RdI wr cb 0 .i64 (fun c => ((ct i S c : Nat) : Int)) 256 ∧ Fz wr cb ∧ Fr w4 wr (OnlyB cb)) (fun i _ => n - (intOf i).toNat)
          case atStart => exact ⟨0, Nat.zero_le _, rfl, hr0, hz0, Fr.refl _ _⟩
          case round =>
            clear hr0 hz0
            obtain ⟨i, hi, rfl, hr, hz, hF⟩ := hrel
            by_cases hlt : i < n
            · have c1 := (hx4.fr hF (fun _ _ e => hxc e)).at0 hlt
              have hs := hS i hlt
              have c2 := hr.at0 hs
              have f2 := hz (S i)
              have hr2 := hr.set0 hs ((ct i S (S i) : Int) + 1)
              rw [← ct_upd S i] at hr2
              have hz2 := hz.set ⟨cb, S i, none⟩ (.int .i64 ((ct i S (S i) : Int) + 1))
              have hF2 : Fr w4 (wr.setCell ⟨cb, S i, none⟩ (.int .i64 ((ct i S (S i) : Int) + 1))) (OnlyB cb) := hF.setCell _ (fun _ => rfl)
              have hcl := cn_le i (fun j => decide (S j = S i))
              have hcl2 : ct i S (S i) ≤ i := hcl
              clear hcl hr hz hF
              try simp only [] at c1 c2
              generalize ct i S (S i) = v at *
              generalize hSi : S i = s at c1 c2 f2 hr2 hz2 hF2 hs ⊢
              have HSi := hide hSi
              clear hSi
              have i1 : (i : Int) < (n : Int) := by omega
              have i2 : (s : Int) < 256 := by omega
              go_wp2_with fail
              go_roundw
              case rel => exact ⟨i + 1, by omega, rfl, hr2, hz2, hF2⟩
              case measure => first | (simp [intOf]; done) | (simp [intOf]; omega)
            · have hin : n = i := by omega
              subst hin
              clear hlt hi
              go_wp2_with fail
              go_loopw [9] (fun iv wr => ∃ i : Nat, i ≤ n ∧ iv = .int .i64 i ∧ RdI wr cb 0 .i64 (fun c => ((ct n S c : Nat) : Int) - ((ct i L c : Nat) : Int)) 256 ∧ Fz wr cb ∧ Fr w4 wr (OnlyB cb)) (fun i _ => n - (intOf i).toNat)
              case atStart => exact ⟨0, Nat.zero_le _, rfl, hr.congr (fun c _ => by rw [ct_zero]; omega), hz, hF⟩
              case round =>
                clear hr hz hF
                obtain ⟨i, hi, rfl, hr, hz, hF⟩ := hrel
                by_cases hlt : i < n
                · have c1 := (hL4.fr hF (fun _ _ e => hyc e)).at0 hlt
                  have hs := hLk i hlt
                  have c2 := hr.at0 hs
                  have f2 := hz (L i)
                  have hr2 := hr.set0 hs ((ct n S (L i) : Int) - (ct i L (L i) : Int) - 1)
                  rw [← ct_down (fun c => ((ct n S c : Nat) : Int)) L i] at hr2
                  have hz2 := hz.set ⟨cb, L i, none⟩ (.int .i64 ((ct n S (L i) : Int) - (ct i L (L i) : Int) - 1))
                  have hF2 : Fr w4 (wr.setCell ⟨cb, L i, none⟩ (.int .i64 ((ct n S (L i) : Int) - (ct i L (L i) : Int) - 1))) (OnlyB cb) := hF.setCell _ (fun _ => rfl)
                  have hcl2 : ct i L (L i) ≤ i := cn_le i (fun j => decide (L j = L i))
                  have hcl3 : ct n S (L i) ≤ n := cn_le n (fun j => decide (S j = L i))
                  clear hr hz hF
                  try simp only [] at c1 c2
                  generalize ct n S (L i) = u at *
                  generalize ct i L (L i) = v at *
                  generalize hSi : L i = s at c1 c2 f2 hr2 hz2 hF2 hs ⊢
                  have HSi := hide hSi
                  clear hSi
                  have i1 : (i : Int) < (n : Int) := by omega
                  have i2 : (s : Int) < 256 := by omega
                  have wv : IntKind.i64.wrap ((u : Int) - (v : Int) - 1) = (u : Int) - (v : Int) - 1 := by rw [IntKind.wrap_i64]; omega
                  go_wp2_with fail
                  go_roundw
                  case rel => exact ⟨i + 1, by omega, rfl, hr2, hz2, hF2⟩
                  case measure => first | (simp [intOf]; done) | (simp [intOf]; omega)
                · have hin : n = i := by omega
                  subst hin
                  clear hlt hi
                  have hr9 : RdI wr cb 0 .i64 (fun _ => 0) 256 := hr.congr (fun c _ => by
                    have h1 : ct n L c = ct n S c := HC.out c
                    rw [h1]; omega)
                  have hbel : Below w.heap.size w wr := (hW.then hF (fun k o hk e => by have : k = cb := e; omega)).below (X := XN) (Nat.le_refl _) (fun _ _ e => e.elim)
                  clear hr hz hF
                  go_wp2_with fail
                  go_loopw [10] (fun iv wr2 => ∃ c : Nat, c ≤ 256 ∧ iv = .int .i64 c ∧ RdI wr2 cb 0 .i64 (fun _ => 0) 256 ∧ Below w.heap.size w wr2) (fun i _ => 256 - (intOf i).toNat)
                  case atStart => exact ⟨0, by omega, rfl, hr9, hbel⟩
                  case round =>
                    clear hr9 hbel
                    obtain ⟨c, hc2, rfl, hr9, hbel⟩ := hrel
                    by_cases hlt : c < 256
                    · have c1 := hr9.at0 hlt
                      have i1 : (c : Int) < 256 := by omega
                      go_wp2_with fail
                      go_roundw
                      case rel => exact ⟨c + 1, by omega, rfl, hr9, hbel⟩
                      case measure => first | (simp [intOf]; done) | (simp [intOf]; omega)
                    · have hin : c = 256 := by omega
                      subst hin
                      go_wp2_with fail
                      go_ret
                      exact ⟨rfl, hbel⟩
    · have db : decide (len0 ≤ 1048576) = true := decide_eq_true hb
      have d1 : (65536 : Int) < (len0 : Int) := by omega
      go_enter Try.func5, Try.ntmps5
      go_wp2_with fail
      refine (bytes12 a0 _ cap0 w hlm).mono ?_
      rintro e w1 ⟨rfl, rfl⟩
      rw [db]
      go_wp2_with fail
      go_ret
      exact ⟨rfl, Below.refl _ _⟩
  · have db : decide (len0 ≤ 1048576) = false := decide_eq_false hb
    go_enter Try.func5, Try.ntmps5
    go_wp2_with fail
    refine (bytes12 a0 _ cap0 w hlm).mono ?_
    rintro e w1 ⟨rfl, rfl⟩
    rw [db]
    go_wp2_with fail
    go_ret
    exact ⟨rfl, Below.refl _ _⟩
end Go.Proofs.Qxb6606046a
