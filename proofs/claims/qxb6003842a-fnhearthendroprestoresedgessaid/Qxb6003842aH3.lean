import Derived.Test.Qxb6003842aH2
set_option linter.unusedVariables false
set_option linter.unusedSimpArgs false
namespace Go.Proofs.Qxb6003842a
open Go.RowKit

set_option maxHeartbeats 400000 in
theorem zzhear_any (nb lo1 : Nat) (b r : Value) (B : List Int) (u : Int) (acc : Bool) (ta : Option Addr) (tl tc : Nat) (htl : tl ≤ 4096) (hBl : B.length ≤ 4096) (w : World) (hN : At w nb 52 (nodeVals b r (.slice none 0 0) (.slice none 0 0)))
    (hB : Sl w lo1 b B) (hbn : b.ownBlock ≠ some nb) (hlo : lo1 ≤ w.heap.size) :
    Calls Try.prog 10 #[.pointer (some ⟨nb, 0, none⟩), .int .i64 u, .bool acc, .slice ta tl tc] w fun e w' => e = .returned (.tuple #[]) ∧
      HearPost w w' nb lo1 b r (if acc then B ++ [u] else B) u (if 0 < tl then 1 else 0) := by
  have base := hide (hear_no nb lo1 b r B u acc ta tl tc htl hBl w hN hB hbn hlo)
  generalize (if acc then B ++ [u] else B) = C at base ⊢
  generalize (if 0 < tl then 1 else 0) = pk at base ⊢
  go_enter Try.func10, Try.ntmps10
  go_wp2_with fail
  refine base.out.mono ?_
  rintro e w' ⟨rfl, hp⟩
  go_wp2_with fail
  go_end0
  exact ⟨rfl, hp⟩

set_option maxHeartbeats 1000000 in
theorem drop_last (nb lo1 lo2 g cap : Nat) (r a p : Value) (B R : List Int) (u : Int) (w : World) (hN : At w nb 52 (nodeVals (.slice (some ⟨g, 0, none⟩) (B.length + 1) cap) r a p))
    (hB : Sl w lo1 (.slice (some ⟨g, 0, none⟩) (B.length + 1) cap) (B ++ [u])) (hR : Sl w lo2 r R) (hBl : B.length ≤ 4096) (hRl : R.length ≤ 4096) (hu1 : u ∉ B) (hu2 : u ∉ R) (hg : g ≠ nb) :
    Calls Try.prog 27 #[.pointer (some ⟨nb, 0, none⟩), .int .i64 u] w fun e w' => e = .returned (.tuple #[]) ∧ At w' nb 52 (nodeVals (.slice (some ⟨g, 0, none⟩) B.length cap) r a p) ∧
      Sl w' lo1 (.slice (some ⟨g, 0, none⟩) B.length cap) B ∧ Kp w w' (fun k => k = nb ∨ k = g) := by
  obtain ⟨n0, n1, n2, n3⟩ := node_cells hN
  have hd : decide (u ∈ R) = false := by simpa using hu2
  go_enter Try.func27, Try.ntmps27
  go_wp2_with fail
  refine (contains_any r lo2 R u w hR (by omega)).mono ?_
  rintro e w ⟨rfl, rfl⟩
  rw [hd]
  clear hd
  go_wp2_with fail
  refine (remove_last g cap lo1 B u w hB hBl hu1).mono ?_
  rintro e w' ⟨rfl, hS, rfl⟩
  have hN2 := hN.set_ne ⟨g, B.length, none⟩ (.int .i64 u) (show nb ≠ g from Ne.symm hg)
  have f0 := hN2.frozen 0
  obtain ⟨e0, e1, e2, e3⟩ := node_cells hN2
  have K1 : Kp w (w.setCell ⟨g, B.length, none⟩ (.int .i64 u)) (fun k => k = nb ∨ k = g) := (Kp.refl _ _).setCell (.inr rfl) _
  clear n0 n1 n2 n3 hN hB hR
  generalize w.setCell ⟨g, B.length, none⟩ (.int .i64 u) = w2 at *
  go_wp2_with fail
  go_end0
  exact ⟨rfl, hN2.set 0 _, ⟨hS.1, ownsRow_setCell_other hS.2 (by simp [Value.ownBlock]; exact hg) _⟩, K1.setCell (.inl rfl) _⟩

set_option maxHeartbeats 400000 in
theorem zzdrop_last (nb lo1 lo2 g cap : Nat) (r a p : Value) (B R : List Int) (u : Int) (w : World) (hN : At w nb 52 (nodeVals (.slice (some ⟨g, 0, none⟩) (B.length + 1) cap) r a p))
    (hB : Sl w lo1 (.slice (some ⟨g, 0, none⟩) (B.length + 1) cap) (B ++ [u])) (hR : Sl w lo2 r R) (hBl : B.length ≤ 4096) (hRl : R.length ≤ 4096) (hu1 : u ∉ B) (hu2 : u ∉ R) (hg : g ≠ nb) :
    Calls Try.prog 16 #[.pointer (some ⟨nb, 0, none⟩), .int .i64 u] w fun e w' => e = .returned (.tuple #[]) ∧ At w' nb 52 (nodeVals (.slice (some ⟨g, 0, none⟩) B.length cap) r a p) ∧
      Sl w' lo1 (.slice (some ⟨g, 0, none⟩) B.length cap) B ∧ Kp w w' (fun k => k = nb ∨ k = g) := by
  go_enter Try.func16, Try.ntmps16
  go_wp2_with fail
  refine (drop_last nb lo1 lo2 g cap r a p B R u w hN hB hR hBl hRl hu1 hu2 hg).mono ?_
  rintro e w' ⟨rfl, h1, h2, h3⟩
  go_wp2_with fail
  go_end0
  exact ⟨rfl, h1, h2, h3⟩

/-- 'make([]T, n)', T of several cells: a new block; of its cells only how many they are. -/
theorem wpList_make_some {P : Program} (w : World) {ops : Array Oper} {rest : List Oper} {o : Oper} {a : Act} {Q : Exit → Act → World → Prop}
    (hg : o.guard = none) (l c : Operand) (t : TypeId) (hop : o.op = Op.makeSlice t l c)
    (e : TypeId) (z : Value) (size bytes : Nat) (h1 : P.underlying t = some (.slice e)) (h2 : (P.info? e).map (fun i => (i.zero, i.size, i.bytes)) = some (some z, size, bytes))
    (kl kc : IntKind) (L C : Int) (m n : Nat) (hl : a.eval l = .int kl L) (hc : a.eval c = .int kc C) (hL : L = (m : Int)) (hC : C = (n : Int)) (hmn : m ≤ n) (b2 : bytes * n ≤ 281474976710656) (b3 : n ≤ 9223372036854775807)
    (hK : ∀ g w' cs, Hid (g = w.heap.size) → Hid (w'.heap.size = g + 1) → At w' g e cs → Hid (cs.length = n * size) → Below w.heap.size w w' → wpList P ops Q rest (a.put o.dst (.slice (some ⟨g, 0, none⟩) m n)) w') :
    wpList P ops Q (o :: rest) a w := by
  refine wpList_plain hg fun K hK' => ?_
  obtain ⟨i, hi, hz0, hz1, hz2⟩ := info_parts h2
  subst hL hC
  have b2' : (i.bytes : Int) * (n : Int) ≤ 281474976710656 := by
    rw [hz2]
    have h : ((bytes * n : Nat) : Int) ≤ 281474976710656 := by omega
    rwa [Int.natCast_mul] at h
  have hr := run_make (P := P) w t e i z h1 hi hz0 kl kc m n (by omega) (by omega) b2' (by omega)
  unfold Oper.wp
  simp [execOp, hop, hl, hc, hr, Result.andThen]
  refine hK' _ _ (hK _ _ (madeCells z.cells (n * i.size)).toList (show _ = _ from rfl) (show _ = _ by simp) ?_ ?_ ?_)
  · exact At.new w e _
  · show _ = _; rw [Array.length_toList, size_madeCells, hz1]
  · exact (Below.refl _ _).alloc (Nat.le_refl _) _

theorem info30 : (Try.prog.info? 30).map (fun i => (i.zero, i.size, i.bytes)) = some (some (.agg #[.int .i64 0, .int .i64 0, .bool false]), 3, 24) := by kernel_rfl

theorem Sl.below {w w' : World} {lo B : Nat} {v : Value} {L : List Int} (h : Sl w lo v L) (hb : Below B w w') (hB : w.heap.size ≤ B) : Sl w' lo v L := ⟨h.1, own_below h.2 hb hB⟩
theorem Sl.lt {w : World} {lo : Nat} {v : Value} {L : List Int} (h : Sl w lo v L) : ∀ k, v.ownBlock = some k → lo ≤ k ∧ k < w.heap.size := h.2.lt
theorem Sl.kp {w w' : World} {lo : Nat} {v : Value} {L : List Int} {S : Nat → Prop} (h : Sl w lo v L) (hk : Kp w w' S) (hn : ∀ k, v.ownBlock = some k → ¬ S k) : Sl w' lo v L := by
  refine ⟨h.1, h.2.1, ?_⟩
  rcases h.2.2 with h' | ⟨g, cap, cur, rfl, hg, hh, r⟩
  · exact .inl h'
  · exact .inr ⟨g, cap, cur, rfl, hg, by rw [hk.block g (h.lt g rfl).2 (hn g rfl)]; exact hh, r⟩


theorem Rs.keep {W W' : World} {a : Option Addr} {l c : Nat} {L : List Int} (h : Rs W a l c L) (hb : Below W.heap.size W W') : Rs W' a l c L := by
  refine ⟨h.1, ?_⟩
  rcases h.2 with h' | ⟨x, hx, hc⟩
  · exact .inl h'
  · exact .inr ⟨x, hx, fun i hi => by rw [hb.cell (World.block_lt_of_cell? _ _ (hc i hi))]; exact hc i hi⟩

theorem own_keep' {w w' : World} {base B : Nat} {e : TypeId} {v : Value} {n : Nat} {xs : List Value} (h : w.ownsRow base e 1 v n xs) (hb : Below B w w') (hB : ∀ k, v.ownBlock = some k → k < B) : w'.ownsRow base e 1 v n xs := by
  refine ⟨h.1, ?_⟩
  rcases h.2 with hn | ⟨g, cap, cur, rfl, hg, hh, r⟩
  · exact .inl hn
  · exact .inr ⟨g, cap, cur, rfl, hg, by rw [hb.block g (hB g rfl)]; exact hh, r⟩

theorem below_of_kp {w w' : World} {S : Nat → Prop} {B : Nat} (h : Kp w w' S) (hS : ∀ k, S k → B ≤ k) (hB : B ≤ w.heap.size) : Below B w w' :=
  ⟨h.os, h.tape, h.output, h.size, fun k hk => h.block k (by omega) (fun hs => by have := hS k hs; omega)⟩

set_option maxHeartbeats 4000000 in
set_option maxRecDepth 20000 in
theorem hear_core (a1 a2 a3 : Option Addr) (l1 c1 l2 c2 l3 c3 : Nat) (B R P : List Int) (u : Int) (acc : Bool) (w : World) (h1 : l1 ≤ 4096) (h2 : l2 ≤ 4096) (h3 : l3 ≤ 4096)
    (r1 : Rs w a1 l1 c1 B) (r2 : Rs w a2 l2 c2 R) (r3 : Rs w a3 l3 c3 P) :
    Calls Try.prog 3 #[.slice a1 l1 c1, .slice a2 l2 c2, .int .i64 u, .bool acc, .slice a3 l3 c3] w fun e w' => e = .returned (.bool true) ∧ Below w.heap.size w w' := by
  have hbytes : decide (l1 + l2 + l3 ≤ 1048576) = true := by simp; omega
  have hBl : B.length ≤ 4096 := by rw [r1.1]; exact h1
  have hRl : R.length ≤ 4096 := by rw [r2.1]; exact h2
  have hPl : P.length ≤ 4096 := by rw [r3.1]; exact h3
  replace r1 := hide r1
  replace r2 := hide r2
  replace r3 := hide r3
  go_enter Try.func3, Try.ntmps3
  go_wp2_with fail
  refine (bytes6 _ _ _ _ _ _ _ _ _ _ _ _ (by unfold maxLen; omega) (by unfold maxLen; omega) (by unfold maxLen; omega)).mono ?_
  rintro e w ⟨rfl, rfl⟩
  rw [hbytes]
  clear hbytes
  go_wp2_with fail
  refine (hclone_any a1 l1 c1 B _ h1 r1.out).mono ?_
  rintro e w1 ⟨v1, rfl, s1, b1⟩
  have r2' := hide (r2.out.keep b1)
  have r3' := r3.out.keep b1
  clear r1 r2 r3
  go_wp2_with fail
  refine (hclone_any a2 l2 c2 R _ h2 r2'.out).mono ?_
  rintro e w2 ⟨v2, rfl, s2, b2⟩
  have r3'' := hide (r3'.keep b2)
  have s1' := s1.below b2 (Nat.le_refl _)
  have s1l := hide s1.lt
  clear r2' r3'
  go_wp2_with fail
  refine (hclone_any a3 l3 c3 P _ h3 r3''.out).mono ?_
  rintro e w3 ⟨v3, rfl, s3, b3⟩
  have s1'' := s1'.below b3 (Nat.le_refl _)
  have s2' := s2.below b3 (Nat.le_refl _)
  have s2l := hide s2.lt
  clear r3'' s1 s1' s2
  obtain ⟨q1, k1, rfl, rs1⟩ := s1''.rs
  go_wp2_with fail
  refine (hclone_any q1 B.length k1 B _ hBl rs1).mono ?_
  rintro e w4 ⟨v4, rfl, s4, b4⟩
  have t1 := s1''.below b4 (Nat.le_refl _)
  have t2 := s2'.below b4 (Nat.le_refl _)
  have t3 := s3.below b4 (Nat.le_refl _)
  have s3l := hide s3.lt
  clear rs1 s1'' s2' s3
  obtain ⟨q2, k2, rfl, rs2⟩ := t2.rs
  go_wp2_with fail
  refine (hclone_any q2 R.length k2 R _ hRl rs2).mono ?_
  rintro e w5 ⟨v5, rfl, s5, b5⟩
  have t1' := t1.below b5 (Nat.le_refl _)
  have t2' := t2.below b5 (Nat.le_refl _)
  have t3' := t3.below b5 (Nat.le_refl _)
  have t4' := s4.below b5 (Nat.le_refl _)
  have s4l := hide s4.lt
  have s5l := hide s5.lt
  have B5 : Below w.heap.size w w5 := (((b1.trans (b2.mono b1.size)).trans (b3.mono (Nat.le_trans b1.size b2.size))).trans (b4.mono (Nat.le_trans b1.size (Nat.le_trans b2.size b3.size)))).trans (b5.mono (Nat.le_trans b1.size (Nat.le_trans b2.size (Nat.le_trans b3.size b4.size))))
  have z1 := b1.size
  have z2 := b2.size
  have z3 := b3.size
  have z4 := b4.size
  have z5 := b5.size
  clear rs2 t1 t2 t3 s4 b1 b2 b3 b4 b5
  go_wp2_with fail
  refine (make_node _ _ q1 q2 _ _ _ _ rfl rfl _).mono ?_
  rintro e w6 ⟨rfl, rfl⟩
  have hN := At.new w5 52 (nodeVals (.slice q1 B.length k1) (.slice q2 R.length k2) (.slice none 0 0) (.slice none 0 0))
  have KA : Kp w5 (w5.alloc (.cells (nodeVals (.slice q1 B.length k1) (.slice q2 R.length k2) (.slice none 0 0) (.slice none 0 0)).toArray 52)) (fun _ => False) := (Kp.refl _ _).alloc _
  have y1 := t1'.kp KA (by simp)
  have y2 := t2'.kp KA (by simp)
  have y3 := t3'.kp KA (by simp)
  have y4 := t4'.kp KA (by simp)
  have y5 := s5.kp KA (by simp)
  have B6 : Below w.heap.size w (w5.alloc (.cells (nodeVals (.slice q1 B.length k1) (.slice q2 R.length k2) (.slice none 0 0) (.slice none 0 0)).toArray 52)) := B5.alloc B5.size _
  have hw6 : (w5.alloc (.cells (nodeVals (.slice q1 B.length k1) (.slice q2 R.length k2) (.slice none 0 0) (.slice none 0 0)).toArray 52)).heap.size = w5.heap.size + 1 := by simp
  replace hw6 := hide hw6
  clear KA t1' t2' t3' t4' s5 B5
  go_wp2_with fail
  generalize w5.alloc (.cells (nodeVals (.slice q1 B.length k1) (.slice q2 R.length k2) (.slice none 0 0) (.slice none 0 0)).toArray 52) = w6 at *
  obtain ⟨nb, hnb⟩ : ∃ nb, w5.heap.size = nb := ⟨_, rfl⟩
  rw [hnb] at hN hw6 z5 ⊢
  have s5l' : Hid (∀ k, v5.ownBlock = some k → w4.heap.size ≤ k ∧ k < nb) := by rw [← hnb]; exact s5l.out
  have HNB := hide hnb
  clear hnb s5l
  refine (zzlinked_any nb _ _ _ _ _ _ B R u _ hN y1 y2 (by omega) (by omega)).mono ?_
  rintro e w6 ⟨rfl, rfl⟩
  obtain ⟨was, hwas⟩ : ∃ was, (decide (u ∈ B) || decide (u ∈ R)) = was := ⟨_, rfl⟩
  rw [hwas]
  have HWAS := hide hwas
  clear hwas
  have hneq := fun (w : World) (a : Option Addr) (n c n' c' : Nat) => run_neq_slice_nil_any (P := Try.prog) w 22 _ a n c n' c' Try.underlying22
  rcases y3.split with ⟨rfl, rfl⟩ | ⟨pg, pc, pcur, rfl, hpr⟩
  · clear y3
    go_wp2_with fail
    have BX : Below w.heap.size w w6 := B6
    have hzx : nb + 1 ≤ w6.heap.size := by rw [hw6.out]; exact Nat.le_refl _
    clear B6
    generalize w6 = wx at *
    have hd2 : ∀ k, (Value.slice q2 R.length k2).ownBlock = some k → ¬ (k = nb ∨ (Value.slice q1 B.length k1).ownBlock = some k) := by
      intro k hk hh
      have e2 := s2l.out k hk
      rcases hh with hh | hh
      · omega
      · have e1 := s1l.out k hh; omega
    have hd4 : ∀ k, v4.ownBlock = some k → ¬ (k = nb ∨ (Value.slice q1 B.length k1).ownBlock = some k) := by
      intro k hk hh
      have e2 := s4l.out k hk
      rcases hh with hh | hh
      · omega
      · have e1 := s1l.out k hh; omega
    have hd5 : ∀ k, v5.ownBlock = some k → ¬ (k = nb ∨ (Value.slice q1 B.length k1).ownBlock = some k) := by
      intro k hk hh
      have e2 := s5l'.out k hk
      rcases hh with hh | hh
      · omega
      · have e1 := s1l.out k hh; omega
    have hbn : (Value.slice q1 B.length k1).ownBlock ≠ some nb := by
      intro e
      have := s1l.out nb e; omega
    refine (zzhear_any nb _ _ _ B u acc none 0 0 (by omega) hBl wx hN y1 hbn (by omega)).mono ?_
    rintro e w7 ⟨rfl, b', ag, ac, po, pc', hN7, hc7, hS7, hb7, hK7⟩
    have u2 := y2.kp hK7 hd2
    have u4 := y4.kp hK7 hd4
    have u5 := y5.kp hK7 hd5
    have B7 : Below w.heap.size w w7 := BX.trans (below_of_kp hK7 (by
      intro k hh
      rcases hh with hh | hh
      · omega
      · have e1 := s1l.out k hh; omega) (by omega))
    have hb7' : Hid (∀ k, b'.ownBlock = some k → (w.heap.size ≤ k ∧ k < w1.heap.size) ∨ nb + 1 ≤ k) := by
      intro k hk
      rcases hb7 k hk with hh | hh
      · exact .inl (s1l.out k hh)
      · exact .inr (by omega)
    clear hK7 hb7 hd2 hd4 hd5 hN y1 y2 y4 y5 BX
    simp only [Nat.lt_irrefl, if_false] at hN7
    go_wp2_with fail
    refine (zzfield nb _ _ _ _ w7 hN7).1.mono ?_
    rintro e w7 ⟨rfl, rfl⟩
    go_wp2_with fail
    refine (zzpackages nb _ _ _ _ _ _ w7 hN7).mono ?_
    rintro e w7 ⟨rfl, rfl⟩
    cases acc with
    | true =>
      simp only [if_true] at hS7
      go_wp2_with fail
      refine (zzlinked_any nb _ _ _ _ _ _ (B ++ [u]) R u _ hN7 hS7 u2 (by simp; omega) (by omega)).mono ?_
      rintro e w7 ⟨rfl, rfl⟩
      have hlk : (decide (u ∈ B ++ [u]) || decide (u ∈ R)) = true := by simp
      rw [hlk]
      clear hlk
      cases was with
      | true =>
        go_wp2_with fail
        refine (zzfield nb _ _ _ _ w7 hN7).2.1.mono ?_
        rintro e w7 ⟨rfl, rfl⟩
        go_wp2_with fail
        refine (same_any _ _ _ _ R w7 u2 u5 (by omega)).mono ?_
        rintro e w8 ⟨kk, rfl, rfl⟩
        go_wp2_with fail
        go_ret
        exact ⟨rfl, B7.trans ⟨rfl, rfl, rfl, Nat.le_refl _, fun _ _ => rfl⟩⟩
      | false =>
        have hnu : u ∉ B ∧ u ∉ R := by
          have := HWAS.out
          simp only [Bool.or_eq_false_iff, decide_eq_false_iff_not] at this
          exact this
        obtain ⟨hnu1, hnu2⟩ := hnu
        rcases hS7.split with ⟨_, hne⟩ | ⟨bg, bcap, bcur, rfl, _⟩
        · simp at hne
        rw [List.length_append, List.length_singleton] at hS7 hN7
        have hbg := hb7'.out bg rfl
        have hbgn : bg ≠ nb := by omega
        go_wp2_with fail
        refine (zzfield nb _ _ _ _ w7 hN7).2.1.mono ?_
        rintro e w7 ⟨rfl, rfl⟩
        go_wp2_with fail
        refine (same_any _ _ _ _ R w7 u2 u5 (by omega)).mono ?_
        rintro e w8 ⟨kk, rfl, rfl⟩
        have K8 : Kp w7 (w7.drewN kk) (fun _ => False) := (Kp.refl _ _).drewN kk
        have x2 := u2.kp K8 (by simp)
        have x4 := u4.kp K8 (by simp)
        have x5 := u5.kp K8 (by simp)
        have xS := hS7.kp K8 (by simp)
        have xN : At (w7.drewN kk) nb 52 (nodeVals (.slice (some ⟨bg, 0, none⟩) (B.length + 1) bcap) (.slice q2 R.length k2) (.slice (some ⟨ag, 0, none⟩) 1 ac) (.slice po _ pc')) := hN7
        have B8 : Below w.heap.size w (w7.drewN kk) := B7.trans ⟨rfl, rfl, rfl, Nat.le_refl _, fun _ _ => rfl⟩
        clear u2 u4 u5 hS7 hN7 hc7 B7 K8
        go_wp2_with fail
        generalize w7.drewN kk = w8 at *
        refine (zzdrop_last nb _ _ bg bcap _ _ _ B R u w8 xN xS x2 hBl hRl hnu1 hnu2 hbgn).mono ?_
        rintro e w9 ⟨rfl, yN, yS, K9⟩
        have y2 := x2.kp K9 (by
          intro k hk hh
          have e2 := s2l.out k hk
          omega)
        have y4 := x4.kp K9 (by
          intro k hk hh
          have e2 := s4l.out k hk
          omega)
        have y5 := x5.kp K9 (by
          intro k hk hh
          have e2 := s5l'.out k hk
          omega)
        have B9 : Below w.heap.size w w9 := B8.trans (below_of_kp K9 (by intro k hh; omega) (by have := B8.size; omega))
        clear x2 x4 x5 xS xN K9 B8
        go_wp2_with fail
        refine (zzfield nb _ _ _ _ w9 yN).2.2.mono ?_
        rintro e w9 ⟨rfl, rfl⟩
        go_wp2_with fail
        refine (same_any _ _ _ _ B w9 yS y4 (by omega)).mono ?_
        rintro e w10 ⟨k10, rfl, rfl⟩
        have K10 : Kp w9 (w9.drewN k10) (fun _ => False) := (Kp.refl _ _).drewN k10
        have p2 := y2.kp K10 (by simp)
        have p5 := y5.kp K10 (by simp)
        have pS := yS.kp K10 (by simp)
        have pN : At (w9.drewN k10) nb 52 (nodeVals (.slice (some ⟨bg, 0, none⟩) B.length bcap) (.slice q2 R.length k2) (.slice (some ⟨ag, 0, none⟩) 1 ac) (.slice po _ pc')) := yN
        have B10 : Below w.heap.size w (w9.drewN k10) := B9.trans ⟨rfl, rfl, rfl, Nat.le_refl _, fun _ _ => rfl⟩
        clear y2 y4 y5 yS yN K10 B9
        go_wp2_with fail
        generalize w9.drewN k10 = w10 at *
        refine (zzfield nb _ _ _ _ w10 pN).2.1.mono ?_
        rintro e w10 ⟨rfl, rfl⟩
        go_wp2_with fail
        refine (same_any _ _ _ _ R w10 p2 p5 (by omega)).mono ?_
        rintro e w11 ⟨k11, rfl, rfl⟩
        have K11 : Kp w10 (w10.drewN k11) (fun _ => False) := (Kp.refl _ _).drewN k11
        have o2 := p2.kp K11 (by simp)
        have oS := pS.kp K11 (by simp)
        have oN : At (w10.drewN k11) nb 52 (nodeVals (.slice (some ⟨bg, 0, none⟩) B.length bcap) (.slice q2 R.length k2) (.slice (some ⟨ag, 0, none⟩) 1 ac) (.slice po _ pc')) := pN
        have B11 : Below w.heap.size w (w10.drewN k11) := B10.trans ⟨rfl, rfl, rfl, Nat.le_refl _, fun _ _ => rfl⟩
        clear p2 p5 pS pN K11 B10
        go_wp2_with fail
        generalize w10.drewN k11 = w11 at *
        refine (zzlinked_any nb _ _ _ _ _ _ B R u _ oN oS o2 (by omega) (by omega)).mono ?_
        rintro e w11 ⟨rfl, rfl⟩
        rw [HWAS.out]
        go_wp2_with fail
        go_ret
        exact ⟨rfl, B11⟩
    | false =>
      simp only [Bool.false_eq_true, if_false] at hS7
      go_wp2_with fail
      refine (zzlinked_any nb _ _ _ _ _ _ B R u _ hN7 hS7 u2 (by omega) (by omega)).mono ?_
      rintro e w7 ⟨rfl, rfl⟩
      rw [HWAS.out]
      have hww : (was != was) = false := by cases was <;> rfl
      have hwo : (was || false) = was := by cases was <;> rfl
      cases was with
      | true =>
        go_wp2_with fail
        refine (zzfield nb _ _ _ _ w7 hN7).2.1.mono ?_
        rintro e w7 ⟨rfl, rfl⟩
        go_wp2_with fail
        refine (same_any _ _ _ _ R w7 u2 u5 (by omega)).mono ?_
        rintro e w8 ⟨kk, rfl, rfl⟩
        have K8 : Kp w7 (w7.drewN kk) (fun _ => False) := (Kp.refl _ _).drewN kk
        have x4 := u4.kp K8 (by simp)
        have xS := hS7.kp K8 (by simp)
        have xN : At (w7.drewN kk) nb 52 (nodeVals b' (.slice q2 R.length k2) (.slice (some ⟨ag, 0, none⟩) 1 ac) (.slice po _ pc')) := hN7
        have B8 : Below w.heap.size w (w7.drewN kk) := B7.trans ⟨rfl, rfl, rfl, Nat.le_refl _, fun _ _ => rfl⟩
        clear u2 u4 u5 hS7 hN7 hc7 B7 K8
        go_wp2_with fail
        generalize w7.drewN kk = w8 at *
        refine (zzfield nb _ _ _ _ w8 xN).2.2.mono ?_
        rintro e w8 ⟨rfl, rfl⟩
        go_wp2_with fail
        refine (same_any _ _ _ _ B w8 xS x4 (by omega)).mono ?_
        rintro e w9 ⟨k9, rfl, rfl⟩
        go_wp2_with fail
        go_ret
        exact ⟨rfl, B8.trans ⟨rfl, rfl, rfl, Nat.le_refl _, fun _ _ => rfl⟩⟩
      | false =>
        go_wp2_with fail
        refine (zzfield nb _ _ _ _ w7 hN7).2.1.mono ?_
        rintro e w7 ⟨rfl, rfl⟩
        go_wp2_with fail
        refine (same_any _ _ _ _ R w7 u2 u5 (by omega)).mono ?_
        rintro e w8 ⟨kk, rfl, rfl⟩
        have K8 : Kp w7 (w7.drewN kk) (fun _ => False) := (Kp.refl _ _).drewN kk
        have x4 := u4.kp K8 (by simp)
        have xS := hS7.kp K8 (by simp)
        have xN : At (w7.drewN kk) nb 52 (nodeVals b' (.slice q2 R.length k2) (.slice (some ⟨ag, 0, none⟩) 1 ac) (.slice po _ pc')) := hN7
        have B8 : Below w.heap.size w (w7.drewN kk) := B7.trans ⟨rfl, rfl, rfl, Nat.le_refl _, fun _ _ => rfl⟩
        clear u2 u4 u5 hS7 hN7 hc7 B7 K8
        go_wp2_with fail
        generalize w7.drewN kk = w8 at *
        refine (zzfield nb _ _ _ _ w8 xN).2.2.mono ?_
        rintro e w8 ⟨rfl, rfl⟩
        go_wp2_with fail
        refine (same_any _ _ _ _ B w8 xS x4 (by omega)).mono ?_
        rintro e w9 ⟨k9, rfl, rfl⟩
        go_wp2_with fail
        go_ret
        exact ⟨rfl, B8.trans ⟨rfl, rfl, rfl, Nat.le_refl _, fun _ _ => rfl⟩⟩
  · obtain ⟨n, hn⟩ : ∃ n, P.length = n := ⟨_, rfl⟩
    have cp := y3.cell
    have s3l2 := s3l.out pg rfl
    rw [hn] at cp hPl ⊢
    have CP := hide cp
    have HN := hide hn
    clear cp hn hpr
    go_wp2_with (at_make; refine wpList_make_some _ rfl _ _ 28 rfl 30 (.agg #[.int .i64 0, .int .i64 0, .bool false]) 3 24 Try.underlying28 info30 _ _ _ _ n n rfl rfl rfl rfl (Nat.le_refl _) (by omega) (by omega) ?_)
    intro tb w7 tcs htb hsz7 hA7 htl hb7
    have hN7 := hN.below hb7 hN.lt
    have x1 := y1.below hb7 (Nat.le_refl _)
    have x2 := y2.below hb7 (Nat.le_refl _)
    have x4 := y4.below hb7 (Nat.le_refl _)
    have x5 := y5.below hb7 (Nat.le_refl _)
    have B7 : Below w.heap.size w w7 := B6.trans (hb7.mono B6.size)
    have hntb : nb < tb := by rw [htb.out, hw6.out]; omega
    have CP7 : Hid (∀ i, i < n → w7.cell? ⟨pg, i, none⟩ = some (.int .i64 (P.getD i 0))) := by
      intro i hi
      rw [hb7.cell (show pg < w6.heap.size from (y3.lt pg rfl).2)]
      exact CP.out i hi
    have hsz7' : tb + 1 ≤ w7.heap.size := by rw [hsz7.out]; exact Nat.le_refl _
    have hl1 : ∀ k, (Value.slice q1 B.length k1).ownBlock = some k → k < tb := fun k hk => by rw [htb.out]; exact (y1.lt k hk).2
    have hl2 : ∀ k, (Value.slice q2 R.length k2).ownBlock = some k → k < tb := fun k hk => by rw [htb.out]; exact (y2.lt k hk).2
    have hl4 : ∀ k, v4.ownBlock = some k → k < tb := fun k hk => by rw [htb.out]; exact (y4.lt k hk).2
    have hl5 : ∀ k, v5.ownBlock = some k → k < tb := fun k hk => by rw [htb.out]; exact (y5.lt k hk).2
    have hpt : pg < tb := by rw [htb.out]; exact (y3.lt pg rfl).2
    replace hl1 := hide hl1
    replace hl2 := hide hl2
    replace hl4 := hide hl4
    replace hl5 := hide hl5
    clear hN y1 y2 y4 y5 y3 B6 hb7 CP htb hsz7 hneq hw6
    go_wp2_with fail
    go_loopw [16] (fun iv wr => ∃ (i : Nat) (cs : List Value), i ≤ n ∧ iv = .int .i64 i ∧ At wr tb 30 cs ∧ Hid (cs.length = n * 3) ∧ Below tb w7 wr) (fun i _ => n - (intOf i).toNat)
    case atStart => exact ⟨0, tcs, Nat.zero_le _, rfl, hA7, htl, Below.refl _ _⟩
    case round =>
      obtain ⟨i, cs, hi, rfl, hAt, hcl, hbt⟩ := hrel
      by_cases hlt : i < n
      · have c1 : wr.cell? ⟨pg, i, none⟩ = some (.int .i64 (P.getD i 0)) := by rw [hbt.cell hpt]; exact CP7.out i hlt
        have f0 := hAt.frozen (i * 3)
        have f1 := hAt.frozen (i * 3 + 1)
        have f2 := hAt.frozen (i * 3 + 2)
        have d0 : ∃ q, wr.cell? ⟨tb, i * 3, none⟩ = some q := ⟨_, by rw [hAt.cell]; exact List.getElem?_eq_getElem (by rw [hcl.out]; omega)⟩
        have d1 : ∃ q, wr.cell? ⟨tb, i * 3 + 1, none⟩ = some q := ⟨_, by rw [hAt.cell]; exact List.getElem?_eq_getElem (by rw [hcl.out]; omega)⟩
        have d2 : ∃ q, wr.cell? ⟨tb, i * 3 + 2, none⟩ = some q := ⟨_, by rw [hAt.cell]; exact List.getElem?_eq_getElem (by rw [hcl.out]; omega)⟩
        obtain ⟨q0, d0⟩ := d0
        obtain ⟨q1', d1⟩ := d1
        obtain ⟨q2', d2⟩ := d2
        generalize P.getD i 0 = y at c1
        go_wp2_with fail
        go_roundw
        case rel => exact ⟨i + 1, ((cs.set (i * 3) _).set (i * 3 + 1) _).set (i * 3 + 2) _, by omega, by go_num, ((hAt.set _ _).set _ _).set _ _, by show _ = _; simp [hcl.out], ((hbt.setCell (Nat.le_refl _) _).setCell (Nat.le_refl _) _).setCell (Nat.le_refl _) _⟩
        case measure => simp [intOf]; omega
      · obtain rfl : i = n := by omega
        have hN := hN7.below hbt hntb
        have y1 : Sl wr w.heap.size (.slice q1 B.length k1) B := ⟨x1.1, own_keep' x1.2 hbt hl1.out⟩
        have y2 : Sl wr w1.heap.size (.slice q2 R.length k2) R := ⟨x2.1, own_keep' x2.2 hbt hl2.out⟩
        have y4 : Sl wr w3.heap.size v4 B := ⟨x4.1, own_keep' x4.2 hbt hl4.out⟩
        have y5 : Sl wr w4.heap.size v5 R := ⟨x5.1, own_keep' x5.2 hbt hl5.out⟩
        have BX : Below w.heap.size w wr := B7.trans (hbt.mono (by omega))
        have hzx : nb + 1 ≤ wr.heap.size := by have := hbt.size; omega
        clear hN7 x1 x2 x4 x5 B7 CP7 hbt hAt hcl htl hA7 hsz7'
        by_cases hi0 : 0 < i
        · go_wp2_with fail
          generalize wr = wx at *
          have hd2 : ∀ k, (Value.slice q2 R.length k2).ownBlock = some k → ¬ (k = nb ∨ (Value.slice q1 B.length k1).ownBlock = some k) := by
            intro k hk hh
            have e2 := s2l.out k hk
            rcases hh with hh | hh
            · omega
            · have e1 := s1l.out k hh; omega
          have hd4 : ∀ k, v4.ownBlock = some k → ¬ (k = nb ∨ (Value.slice q1 B.length k1).ownBlock = some k) := by
            intro k hk hh
            have e2 := s4l.out k hk
            rcases hh with hh | hh
            · omega
            · have e1 := s1l.out k hh; omega
          have hd5 : ∀ k, v5.ownBlock = some k → ¬ (k = nb ∨ (Value.slice q1 B.length k1).ownBlock = some k) := by
            intro k hk hh
            have e2 := s5l'.out k hk
            rcases hh with hh | hh
            · omega
            · have e1 := s1l.out k hh; omega
          have hbn : (Value.slice q1 B.length k1).ownBlock ≠ some nb := by
            intro e
            have := s1l.out nb e; omega
          refine (zzhear_any nb _ _ _ B u acc (some ⟨tb, 0, none⟩) i i (by omega) hBl wx hN y1 hbn (by omega)).mono ?_
          rintro e w7 ⟨rfl, b', ag, ac, po, pc', hN7, hc7, hS7, hb7, hK7⟩
          have u2 := y2.kp hK7 hd2
          have u4 := y4.kp hK7 hd4
          have u5 := y5.kp hK7 hd5
          have B7 : Below w.heap.size w w7 := BX.trans (below_of_kp hK7 (by
            intro k hh
            rcases hh with hh | hh
            · omega
            · have e1 := s1l.out k hh; omega) (by omega))
          have hb7' : Hid (∀ k, b'.ownBlock = some k → (w.heap.size ≤ k ∧ k < w1.heap.size) ∨ nb + 1 ≤ k) := by
            intro k hk
            rcases hb7 k hk with hh | hh
            · exact .inl (s1l.out k hh)
            · exact .inr (by omega)
          clear hK7 hb7 hd2 hd4 hd5 hN y1 y2 y4 y5 BX
          simp only [hi0, if_true] at hN7
          go_wp2_with fail
          refine (zzfield nb _ _ _ _ w7 hN7).1.mono ?_
          rintro e w7 ⟨rfl, rfl⟩
          go_wp2_with fail
          refine (zzpackages nb _ _ _ _ _ _ w7 hN7).mono ?_
          rintro e w7 ⟨rfl, rfl⟩
          cases acc with
          | true =>
            simp only [if_true] at hS7
            go_wp2_with fail
            refine (zzlinked_any nb _ _ _ _ _ _ (B ++ [u]) R u _ hN7 hS7 u2 (by simp; omega) (by omega)).mono ?_
            rintro e w7 ⟨rfl, rfl⟩
            have hlk : (decide (u ∈ B ++ [u]) || decide (u ∈ R)) = true := by simp
            rw [hlk]
            clear hlk
            cases was with
            | true =>
              go_wp2_with fail
              refine (zzfield nb _ _ _ _ w7 hN7).2.1.mono ?_
              rintro e w7 ⟨rfl, rfl⟩
              go_wp2_with fail
              refine (same_any _ _ _ _ R w7 u2 u5 (by omega)).mono ?_
              rintro e w8 ⟨kk, rfl, rfl⟩
              go_wp2_with fail
              go_ret
              exact ⟨rfl, B7.trans ⟨rfl, rfl, rfl, Nat.le_refl _, fun _ _ => rfl⟩⟩
            | false =>
              have hnu : u ∉ B ∧ u ∉ R := by
                have := HWAS.out
                simp only [Bool.or_eq_false_iff, decide_eq_false_iff_not] at this
                exact this
              obtain ⟨hnu1, hnu2⟩ := hnu
              rcases hS7.split with ⟨_, hne⟩ | ⟨bg, bcap, bcur, rfl, _⟩
              · simp at hne
              rw [List.length_append, List.length_singleton] at hS7 hN7
              have hbg := hb7'.out bg rfl
              have hbgn : bg ≠ nb := by omega
              go_wp2_with fail
              refine (zzfield nb _ _ _ _ w7 hN7).2.1.mono ?_
              rintro e w7 ⟨rfl, rfl⟩
              go_wp2_with fail
              refine (same_any _ _ _ _ R w7 u2 u5 (by omega)).mono ?_
              rintro e w8 ⟨kk, rfl, rfl⟩
              have K8 : Kp w7 (w7.drewN kk) (fun _ => False) := (Kp.refl _ _).drewN kk
              have x2 := u2.kp K8 (by simp)
              have x4 := u4.kp K8 (by simp)
              have x5 := u5.kp K8 (by simp)
              have xS := hS7.kp K8 (by simp)
              have xN : At (w7.drewN kk) nb 52 (nodeVals (.slice (some ⟨bg, 0, none⟩) (B.length + 1) bcap) (.slice q2 R.length k2) (.slice (some ⟨ag, 0, none⟩) 1 ac) (.slice po _ pc')) := hN7
              have B8 : Below w.heap.size w (w7.drewN kk) := B7.trans ⟨rfl, rfl, rfl, Nat.le_refl _, fun _ _ => rfl⟩
              clear u2 u4 u5 hS7 hN7 hc7 B7 K8
              go_wp2_with fail
              generalize w7.drewN kk = w8 at *
              refine (zzdrop_last nb _ _ bg bcap _ _ _ B R u w8 xN xS x2 hBl hRl hnu1 hnu2 hbgn).mono ?_
              rintro e w9 ⟨rfl, yN, yS, K9⟩
              have y2 := x2.kp K9 (by
                intro k hk hh
                have e2 := s2l.out k hk
                omega)
              have y4 := x4.kp K9 (by
                intro k hk hh
                have e2 := s4l.out k hk
                omega)
              have y5 := x5.kp K9 (by
                intro k hk hh
                have e2 := s5l'.out k hk
                omega)
              have B9 : Below w.heap.size w w9 := B8.trans (below_of_kp K9 (by intro k hh; omega) (by have := B8.size; omega))
              clear x2 x4 x5 xS xN K9 B8
              go_wp2_with fail
              refine (zzfield nb _ _ _ _ w9 yN).2.2.mono ?_
              rintro e w9 ⟨rfl, rfl⟩
              go_wp2_with fail
              refine (same_any _ _ _ _ B w9 yS y4 (by omega)).mono ?_
              rintro e w10 ⟨k10, rfl, rfl⟩
              have K10 : Kp w9 (w9.drewN k10) (fun _ => False) := (Kp.refl _ _).drewN k10
              have p2 := y2.kp K10 (by simp)
              have p5 := y5.kp K10 (by simp)
              have pS := yS.kp K10 (by simp)
              have pN : At (w9.drewN k10) nb 52 (nodeVals (.slice (some ⟨bg, 0, none⟩) B.length bcap) (.slice q2 R.length k2) (.slice (some ⟨ag, 0, none⟩) 1 ac) (.slice po _ pc')) := yN
              have B10 : Below w.heap.size w (w9.drewN k10) := B9.trans ⟨rfl, rfl, rfl, Nat.le_refl _, fun _ _ => rfl⟩
              clear y2 y4 y5 yS yN K10 B9
              go_wp2_with fail
              generalize w9.drewN k10 = w10 at *
              refine (zzfield nb _ _ _ _ w10 pN).2.1.mono ?_
              rintro e w10 ⟨rfl, rfl⟩
              go_wp2_with fail
              refine (same_any _ _ _ _ R w10 p2 p5 (by omega)).mono ?_
              rintro e w11 ⟨k11, rfl, rfl⟩
              have K11 : Kp w10 (w10.drewN k11) (fun _ => False) := (Kp.refl _ _).drewN k11
              have o2 := p2.kp K11 (by simp)
              have oS := pS.kp K11 (by simp)
              have oN : At (w10.drewN k11) nb 52 (nodeVals (.slice (some ⟨bg, 0, none⟩) B.length bcap) (.slice q2 R.length k2) (.slice (some ⟨ag, 0, none⟩) 1 ac) (.slice po _ pc')) := pN
              have B11 : Below w.heap.size w (w10.drewN k11) := B10.trans ⟨rfl, rfl, rfl, Nat.le_refl _, fun _ _ => rfl⟩
              clear p2 p5 pS pN K11 B10
              go_wp2_with fail
              generalize w10.drewN k11 = w11 at *
              refine (zzlinked_any nb _ _ _ _ _ _ B R u _ oN oS o2 (by omega) (by omega)).mono ?_
              rintro e w11 ⟨rfl, rfl⟩
              rw [HWAS.out]
              go_wp2_with fail
              go_ret
              exact ⟨rfl, B11⟩
          | false =>
            simp only [Bool.false_eq_true, if_false] at hS7
            go_wp2_with fail
            refine (zzlinked_any nb _ _ _ _ _ _ B R u _ hN7 hS7 u2 (by omega) (by omega)).mono ?_
            rintro e w7 ⟨rfl, rfl⟩
            rw [HWAS.out]
            have hww : (was != was) = false := by cases was <;> rfl
            have hwo : (was || false) = was := by cases was <;> rfl
            cases was with
            | true =>
              go_wp2_with fail
              refine (zzfield nb _ _ _ _ w7 hN7).2.1.mono ?_
              rintro e w7 ⟨rfl, rfl⟩
              go_wp2_with fail
              refine (same_any _ _ _ _ R w7 u2 u5 (by omega)).mono ?_
              rintro e w8 ⟨kk, rfl, rfl⟩
              have K8 : Kp w7 (w7.drewN kk) (fun _ => False) := (Kp.refl _ _).drewN kk
              have x4 := u4.kp K8 (by simp)
              have xS := hS7.kp K8 (by simp)
              have xN : At (w7.drewN kk) nb 52 (nodeVals b' (.slice q2 R.length k2) (.slice (some ⟨ag, 0, none⟩) 1 ac) (.slice po _ pc')) := hN7
              have B8 : Below w.heap.size w (w7.drewN kk) := B7.trans ⟨rfl, rfl, rfl, Nat.le_refl _, fun _ _ => rfl⟩
              clear u2 u4 u5 hS7 hN7 hc7 B7 K8
              go_wp2_with fail
              generalize w7.drewN kk = w8 at *
              refine (zzfield nb _ _ _ _ w8 xN).2.2.mono ?_
              rintro e w8 ⟨rfl, rfl⟩
              go_wp2_with fail
              refine (same_any _ _ _ _ B w8 xS x4 (by omega)).mono ?_
              rintro e w9 ⟨k9, rfl, rfl⟩
              go_wp2_with fail
              go_ret
              exact ⟨rfl, B8.trans ⟨rfl, rfl, rfl, Nat.le_refl _, fun _ _ => rfl⟩⟩
            | false =>
              go_wp2_with fail
              refine (zzfield nb _ _ _ _ w7 hN7).2.1.mono ?_
              rintro e w7 ⟨rfl, rfl⟩
              go_wp2_with fail
              refine (same_any _ _ _ _ R w7 u2 u5 (by omega)).mono ?_
              rintro e w8 ⟨kk, rfl, rfl⟩
              have K8 : Kp w7 (w7.drewN kk) (fun _ => False) := (Kp.refl _ _).drewN kk
              have x4 := u4.kp K8 (by simp)
              have xS := hS7.kp K8 (by simp)
              have xN : At (w7.drewN kk) nb 52 (nodeVals b' (.slice q2 R.length k2) (.slice (some ⟨ag, 0, none⟩) 1 ac) (.slice po _ pc')) := hN7
              have B8 : Below w.heap.size w (w7.drewN kk) := B7.trans ⟨rfl, rfl, rfl, Nat.le_refl _, fun _ _ => rfl⟩
              clear u2 u4 u5 hS7 hN7 hc7 B7 K8
              go_wp2_with fail
              generalize w7.drewN kk = w8 at *
              refine (zzfield nb _ _ _ _ w8 xN).2.2.mono ?_
              rintro e w8 ⟨rfl, rfl⟩
              go_wp2_with fail
              refine (same_any _ _ _ _ B w8 xS x4 (by omega)).mono ?_
              rintro e w9 ⟨k9, rfl, rfl⟩
              go_wp2_with fail
              go_ret
              exact ⟨rfl, B8.trans ⟨rfl, rfl, rfl, Nat.le_refl _, fun _ _ => rfl⟩⟩
        · go_wp2_with fail
          generalize wr = wx at *
          have hd2 : ∀ k, (Value.slice q2 R.length k2).ownBlock = some k → ¬ (k = nb ∨ (Value.slice q1 B.length k1).ownBlock = some k) := by
            intro k hk hh
            have e2 := s2l.out k hk
            rcases hh with hh | hh
            · omega
            · have e1 := s1l.out k hh; omega
          have hd4 : ∀ k, v4.ownBlock = some k → ¬ (k = nb ∨ (Value.slice q1 B.length k1).ownBlock = some k) := by
            intro k hk hh
            have e2 := s4l.out k hk
            rcases hh with hh | hh
            · omega
            · have e1 := s1l.out k hh; omega
          have hd5 : ∀ k, v5.ownBlock = some k → ¬ (k = nb ∨ (Value.slice q1 B.length k1).ownBlock = some k) := by
            intro k hk hh
            have e2 := s5l'.out k hk
            rcases hh with hh | hh
            · omega
            · have e1 := s1l.out k hh; omega
          have hbn : (Value.slice q1 B.length k1).ownBlock ≠ some nb := by
            intro e
            have := s1l.out nb e; omega
          refine (zzhear_any nb _ _ _ B u acc (some ⟨tb, 0, none⟩) i i (by omega) hBl wx hN y1 hbn (by omega)).mono ?_
          rintro e w7 ⟨rfl, b', ag, ac, po, pc', hN7, hc7, hS7, hb7, hK7⟩
          have u2 := y2.kp hK7 hd2
          have u4 := y4.kp hK7 hd4
          have u5 := y5.kp hK7 hd5
          have B7 : Below w.heap.size w w7 := BX.trans (below_of_kp hK7 (by
            intro k hh
            rcases hh with hh | hh
            · omega
            · have e1 := s1l.out k hh; omega) (by omega))
          have hb7' : Hid (∀ k, b'.ownBlock = some k → (w.heap.size ≤ k ∧ k < w1.heap.size) ∨ nb + 1 ≤ k) := by
            intro k hk
            rcases hb7 k hk with hh | hh
            · exact .inl (s1l.out k hh)
            · exact .inr (by omega)
          clear hK7 hb7 hd2 hd4 hd5 hN y1 y2 y4 y5 BX
          simp only [hi0, if_false] at hN7
          go_wp2_with fail
          refine (zzfield nb _ _ _ _ w7 hN7).1.mono ?_
          rintro e w7 ⟨rfl, rfl⟩
          go_wp2_with fail
          refine (zzpackages nb _ _ _ _ _ _ w7 hN7).mono ?_
          rintro e w7 ⟨rfl, rfl⟩
          cases acc with
          | true =>
            simp only [if_true] at hS7
            go_wp2_with fail
            refine (zzlinked_any nb _ _ _ _ _ _ (B ++ [u]) R u _ hN7 hS7 u2 (by simp; omega) (by omega)).mono ?_
            rintro e w7 ⟨rfl, rfl⟩
            have hlk : (decide (u ∈ B ++ [u]) || decide (u ∈ R)) = true := by simp
            rw [hlk]
            clear hlk
            cases was with
            | true =>
              go_wp2_with fail
              refine (zzfield nb _ _ _ _ w7 hN7).2.1.mono ?_
              rintro e w7 ⟨rfl, rfl⟩
              go_wp2_with fail
              refine (same_any _ _ _ _ R w7 u2 u5 (by omega)).mono ?_
              rintro e w8 ⟨kk, rfl, rfl⟩
              go_wp2_with fail
              go_ret
              exact ⟨rfl, B7.trans ⟨rfl, rfl, rfl, Nat.le_refl _, fun _ _ => rfl⟩⟩
            | false =>
              have hnu : u ∉ B ∧ u ∉ R := by
                have := HWAS.out
                simp only [Bool.or_eq_false_iff, decide_eq_false_iff_not] at this
                exact this
              obtain ⟨hnu1, hnu2⟩ := hnu
              rcases hS7.split with ⟨_, hne⟩ | ⟨bg, bcap, bcur, rfl, _⟩
              · simp at hne
              rw [List.length_append, List.length_singleton] at hS7 hN7
              have hbg := hb7'.out bg rfl
              have hbgn : bg ≠ nb := by omega
              go_wp2_with fail
              refine (zzfield nb _ _ _ _ w7 hN7).2.1.mono ?_
              rintro e w7 ⟨rfl, rfl⟩
              go_wp2_with fail
              refine (same_any _ _ _ _ R w7 u2 u5 (by omega)).mono ?_
              rintro e w8 ⟨kk, rfl, rfl⟩
              have K8 : Kp w7 (w7.drewN kk) (fun _ => False) := (Kp.refl _ _).drewN kk
              have x2 := u2.kp K8 (by simp)
              have x4 := u4.kp K8 (by simp)
              have x5 := u5.kp K8 (by simp)
              have xS := hS7.kp K8 (by simp)
              have xN : At (w7.drewN kk) nb 52 (nodeVals (.slice (some ⟨bg, 0, none⟩) (B.length + 1) bcap) (.slice q2 R.length k2) (.slice (some ⟨ag, 0, none⟩) 1 ac) (.slice po _ pc')) := hN7
              have B8 : Below w.heap.size w (w7.drewN kk) := B7.trans ⟨rfl, rfl, rfl, Nat.le_refl _, fun _ _ => rfl⟩
              clear u2 u4 u5 hS7 hN7 hc7 B7 K8
              go_wp2_with fail
              generalize w7.drewN kk = w8 at *
              refine (zzdrop_last nb _ _ bg bcap _ _ _ B R u w8 xN xS x2 hBl hRl hnu1 hnu2 hbgn).mono ?_
              rintro e w9 ⟨rfl, yN, yS, K9⟩
              have y2 := x2.kp K9 (by
                intro k hk hh
                have e2 := s2l.out k hk
                omega)
              have y4 := x4.kp K9 (by
                intro k hk hh
                have e2 := s4l.out k hk
                omega)
              have y5 := x5.kp K9 (by
                intro k hk hh
                have e2 := s5l'.out k hk
                omega)
              have B9 : Below w.heap.size w w9 := B8.trans (below_of_kp K9 (by intro k hh; omega) (by have := B8.size; omega))
              clear x2 x4 x5 xS xN K9 B8
              go_wp2_with fail
              refine (zzfield nb _ _ _ _ w9 yN).2.2.mono ?_
              rintro e w9 ⟨rfl, rfl⟩
              go_wp2_with fail
              refine (same_any _ _ _ _ B w9 yS y4 (by omega)).mono ?_
              rintro e w10 ⟨k10, rfl, rfl⟩
              have K10 : Kp w9 (w9.drewN k10) (fun _ => False) := (Kp.refl _ _).drewN k10
              have p2 := y2.kp K10 (by simp)
              have p5 := y5.kp K10 (by simp)
              have pS := yS.kp K10 (by simp)
              have pN : At (w9.drewN k10) nb 52 (nodeVals (.slice (some ⟨bg, 0, none⟩) B.length bcap) (.slice q2 R.length k2) (.slice (some ⟨ag, 0, none⟩) 1 ac) (.slice po _ pc')) := yN
              have B10 : Below w.heap.size w (w9.drewN k10) := B9.trans ⟨rfl, rfl, rfl, Nat.le_refl _, fun _ _ => rfl⟩
              clear y2 y4 y5 yS yN K10 B9
              go_wp2_with fail
              generalize w9.drewN k10 = w10 at *
              refine (zzfield nb _ _ _ _ w10 pN).2.1.mono ?_
              rintro e w10 ⟨rfl, rfl⟩
              go_wp2_with fail
              refine (same_any _ _ _ _ R w10 p2 p5 (by omega)).mono ?_
              rintro e w11 ⟨k11, rfl, rfl⟩
              have K11 : Kp w10 (w10.drewN k11) (fun _ => False) := (Kp.refl _ _).drewN k11
              have o2 := p2.kp K11 (by simp)
              have oS := pS.kp K11 (by simp)
              have oN : At (w10.drewN k11) nb 52 (nodeVals (.slice (some ⟨bg, 0, none⟩) B.length bcap) (.slice q2 R.length k2) (.slice (some ⟨ag, 0, none⟩) 1 ac) (.slice po _ pc')) := pN
              have B11 : Below w.heap.size w (w10.drewN k11) := B10.trans ⟨rfl, rfl, rfl, Nat.le_refl _, fun _ _ => rfl⟩
              clear p2 p5 pS pN K11 B10
              go_wp2_with fail
              generalize w10.drewN k11 = w11 at *
              refine (zzlinked_any nb _ _ _ _ _ _ B R u _ oN oS o2 (by omega) (by omega)).mono ?_
              rintro e w11 ⟨rfl, rfl⟩
              rw [HWAS.out]
              go_wp2_with fail
              go_ret
              exact ⟨rfl, B11⟩
          | false =>
            simp only [Bool.false_eq_true, if_false] at hS7
            go_wp2_with fail
            refine (zzlinked_any nb _ _ _ _ _ _ B R u _ hN7 hS7 u2 (by omega) (by omega)).mono ?_
            rintro e w7 ⟨rfl, rfl⟩
            rw [HWAS.out]
            have hww : (was != was) = false := by cases was <;> rfl
            have hwo : (was || false) = was := by cases was <;> rfl
            cases was with
            | true =>
              go_wp2_with fail
              refine (zzfield nb _ _ _ _ w7 hN7).2.1.mono ?_
              rintro e w7 ⟨rfl, rfl⟩
              go_wp2_with fail
              refine (same_any _ _ _ _ R w7 u2 u5 (by omega)).mono ?_
              rintro e w8 ⟨kk, rfl, rfl⟩
              have K8 : Kp w7 (w7.drewN kk) (fun _ => False) := (Kp.refl _ _).drewN kk
              have x4 := u4.kp K8 (by simp)
              have xS := hS7.kp K8 (by simp)
              have xN : At (w7.drewN kk) nb 52 (nodeVals b' (.slice q2 R.length k2) (.slice (some ⟨ag, 0, none⟩) 1 ac) (.slice po _ pc')) := hN7
              have B8 : Below w.heap.size w (w7.drewN kk) := B7.trans ⟨rfl, rfl, rfl, Nat.le_refl _, fun _ _ => rfl⟩
              clear u2 u4 u5 hS7 hN7 hc7 B7 K8
              go_wp2_with fail
              generalize w7.drewN kk = w8 at *
              refine (zzfield nb _ _ _ _ w8 xN).2.2.mono ?_
              rintro e w8 ⟨rfl, rfl⟩
              go_wp2_with fail
              refine (same_any _ _ _ _ B w8 xS x4 (by omega)).mono ?_
              rintro e w9 ⟨k9, rfl, rfl⟩
              go_wp2_with fail
              go_ret
              exact ⟨rfl, B8.trans ⟨rfl, rfl, rfl, Nat.le_refl _, fun _ _ => rfl⟩⟩
            | false =>
              go_wp2_with fail
              refine (zzfield nb _ _ _ _ w7 hN7).2.1.mono ?_
              rintro e w7 ⟨rfl, rfl⟩
              go_wp2_with fail
              refine (same_any _ _ _ _ R w7 u2 u5 (by omega)).mono ?_
              rintro e w8 ⟨kk, rfl, rfl⟩
              have K8 : Kp w7 (w7.drewN kk) (fun _ => False) := (Kp.refl _ _).drewN kk
              have x4 := u4.kp K8 (by simp)
              have xS := hS7.kp K8 (by simp)
              have xN : At (w7.drewN kk) nb 52 (nodeVals b' (.slice q2 R.length k2) (.slice (some ⟨ag, 0, none⟩) 1 ac) (.slice po _ pc')) := hN7
              have B8 : Below w.heap.size w (w7.drewN kk) := B7.trans ⟨rfl, rfl, rfl, Nat.le_refl _, fun _ _ => rfl⟩
              clear u2 u4 u5 hS7 hN7 hc7 B7 K8
              go_wp2_with fail
              generalize w7.drewN kk = w8 at *
              refine (zzfield nb _ _ _ _ w8 xN).2.2.mono ?_
              rintro e w8 ⟨rfl, rfl⟩
              go_wp2_with fail
              refine (same_any _ _ _ _ B w8 xS x4 (by omega)).mono ?_
              rintro e w9 ⟨k9, rfl, rfl⟩
              go_wp2_with fail
              go_ret
              exact ⟨rfl, B8.trans ⟨rfl, rfl, rfl, Nat.le_refl _, fun _ _ => rfl⟩⟩
end Go.Proofs.Qxb6003842a
