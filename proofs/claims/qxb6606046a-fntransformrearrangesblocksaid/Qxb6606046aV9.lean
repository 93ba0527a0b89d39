import Derived.Test.Qxb6606046aV7
set_option linter.unusedVariables false
set_option linter.unusedSimpArgs false
namespace Go.Proofs.Qxb6606046a
open Go.RowKit

set_option maxHeartbeats 40000000 in
set_option maxRecDepth 20000 in
theorem sort_i (n : Nat) (IH : ∀ m, m < n → SortSpec 23 .i32 m) : SortSpec 23 .i32 n := by
  intro k S sb so scap ab ao acap pl po la lc w sa hac hP
  have hn2 := hP.n2
  have hn := hP.n16
  have hk1 := hP.k1
  have hk := hP.k16
  have hSk := hP.sk
  have cp := hP.p
  have fp := hP.fp
  have hi2 : ¬ (n : Int) < 2 := by omega
  go_enter Try.func23, Try.ntmps23
  go_wp2_with (at_builtin; refine wpList_app _ rfl (.tmp 52) (.tmp 54) rfl Try.underlying26 info45 la 0 lc rfl _ 0 1 1 rfl (pre_lv hP) (readZ w) (by omega) (by omega) ?_)
  intro lb lo c w1 hA
  have h1 := st1_of hP hA
  clear hA
  clear cp fp
  have cp := h1.p
  have fp := h1.fp
  have bp := h1.bp
  have hc1 := h1.c1
  go_upto_region 7 with fail
  go_cut [10] from 36 to 64 (fun dv wc => ∃ db dlo dc, dv = .pointer (some ⟨db, 0, none⟩) ∧ St2 n S .i32 sb so ab ao pl po la lc lb lo c db dlo dc w wc)
  case first =>
    by_cases hcc : c = 1
    · have h2 := st2_of (dlo := lo) (dc := 0) h1 (.inl rfl)
      subst hcc
      go_wp2_with fail
      go_meet
      case rel => exact ⟨_, _, _, rfl, h2⟩
    · have h2 := st2_of (dlo := lo + 3) (dc := c - 1) h1 (.inr ⟨rfl, by omega⟩)
      have i1 : ¬ (c : Int) ≤ 1 := by omega
      have i2 : ¬ c - 1 = 0 := by omega
      go_wp2_with fail
      go_meet
      case rel => exact ⟨_, _, _, rfl, h2⟩
  case rest =>
    clear h1 cp fp bp hc1 hi2
    obtain ⟨db, dlo, dc, rfl, h2⟩ := hcut
    have c0 := h2.z 0 (by omega)
    have f0 := h2.f 0 (by omega)
    have h3 := h2.ct
    have hz1 := h2.z 1 (by omega)
    have hz2 := h2.z 2 (by omega)
    have hf1 := h2.f 1 (by omega)
    have hf2 := h2.f 2 (by omega)
    rw [Nat.add_zero] at c0 f0
    clear h2
    go_wp2_with fail
    refine (grown_b n (by omega) hn wc).mono ?_
    rintro e w3 ⟨rfl, hsz, hA, hB⟩
    have hF := Fr.of_below hB XN
    have hlt := h3.lt
    have l1 := h3.dlt
    have lp := World.block_lt_of_cell? _ _ h3.p
    simp only [] at lp
    have h4 := h3.step hF (fun _ _ _ e => e.elim) (fun e => e) (fun e => e)
    have d0 := cell_fr c0 hF (fun e => e)
    have d1 := cell_fr hz1 hF (fun e => e)
    have d2 := cell_fr hz2 hF (fun e => e)
    have g0 : w3.frozen? ⟨lb, lo, none⟩ = false := by rw [hF.frz lb _ hlt]; exact f0
    have g1 : w3.frozen? ⟨lb, lo + 1, none⟩ = false := by rw [hF.frz lb _ hlt]; exact hf1
    have g2 : w3.frozen? ⟨lb, lo + 2, none⟩ = false := by rw [hF.frz lb _ hlt]; exact hf2
    obtain ⟨mb, hmb⟩ : ∃ mb, wc.heap.size = mb := ⟨_, rfl⟩
    rw [hmb] at hA hsz hlt l1 lp
    rw [hmb]
    have hmg : w.heap.size ≤ mb := by rw [← hmb]; exact h3.fr.size
    clear hB hF h3 c0 f0 hz1 hz2 hf1 hf2 hmb
    have hsm := hA.rdB
    have hfm := hA.fz
    clear hA
    have h5 := st4_of h4 d0 d1 d2 g1 g2 hsm hfm hmg hlt lp l1
    have h6 := h5.set (i := n - 1) (by omega) false
    have hmc := h5.m.at0 (i := n - 1) (by omega)
    have hmf := h5.fm (n - 1)
    clear h4 d1 d2 g1 g2 h5 hsm hfm
    go_wp2_with fail
    clear d0 g0 hmc hmf
    generalize (w3.setCell ⟨lb, lo, none⟩ (.slice (some ⟨mb, 0, none⟩) n n)).setCell ⟨mb, n - 1, none⟩ (.bool false) = w4 at *
    go_loopw [12] (fun iv wr => ∃ (t : Nat) (B : Nat → Bool), t < n ∧ iv = .int .i64 ((t : Int) - 1) ∧ St4 n sb ab ao pl po la lc lb lo c db dlo dc mb B w wr ∧ Hid (Ty n S B t)) (fun t _ => (intOf t + 1).toNat)
    case atStart => exact ⟨n - 1, _, by omega, by congr 1; omega, h6, ⟨by rw [upd_same], fun i h1 h2 => by omega⟩⟩
    case round =>
      clear h6
      obtain ⟨t, B, ht, rfl, h4, HT⟩ := hrel
      by_cases ht0 : t = 0
      · subst ht0
        as_aux_lemma =>
          have hty : TypeOk n S B := ⟨HT.out.1, fun i hi => HT.out.2 i (Nat.zero_le _) hi⟩
          have hq : ¬ (0 : Int) ≤ ((0 : Nat) : Int) - 1 := by omega
          have hr1 := h4.ct.up.rdS hP
          have hz1 := h4.z1
          have hz2 := h4.z2
          have hg1 := h4.g1
          have hg2 := h4.g2
          have hbs := h4.ct.bs
          go_wp2_with fail
          refine (count_i n k hn hk1 hk S hSk sb so scap lb (lo + 1) wr hr1 hz1 hz2 hg1 hg2 (fun t _ e => hbs e.1.symm)).mono ?_
          rintro e w5 ⟨rfl, gc, gt, hC⟩
          obtain ⟨dj, m5, ct5, gg, HSM⟩ := mf_start hP h4 hC
          clear hC hr1 hz1 hz2 hg1 hg2 hbs h4 HT hq
          go_wp2_with fail
          go_loopw [129] (fun iv wr => ∃ (i : Nat) (sa : Nat → Int), i ≤ n ∧ iv = .int .i64 i ∧ Mf n k S B sb so .i32 ab ao mb lb (lo + 1) gc gt w5 wr sa (fun _ => 0) ∧ Hid (∀ t, t < i → sa t = -1)) (fun i _ => n - (intOf i).toNat)
          case atStart => exact ⟨0, sa, Nat.zero_le _, rfl, m5, fun t ht => by omega⟩
          case round =>
            clear m5
            obtain ⟨i, sa, hi, rfl, m5, HA⟩ := hrel
            by_cases hlt : i < n
            · have c1 := m5.mi.aAt hlt
              have f1 := m5.mi.fa (ao + i)
              have m6 := m5.setA dj hlt (-1)
              have HA' : Hid (∀ t, t < i + 1 → upd sa i (-1) t = -1) := by
                intro t ht
                by_cases e : t = i
                · subst e; rw [upd_same]
                · rw [upd_ne _ _ e]; exact HA.out t (by omega)
              clear HA m5
              go_wp2_with fail
              go_roundw
              case rel => exact ⟨i + 1, _, by omega, rfl, m6, HA'⟩
              case measure => first | (simp [intOf]; done) | (simp [intOf]; omega)
            · have hin : n = i := by omega
              subst hin
              as_aux_lemma =>
                go_wp2_with fail
                refine (set_tails n k hn hk S lb (lo + 1) gc gt _ wr m5.mi.b m5.mi.c m5.mi.t m5.mi.ft dj.tl.symm dj.tc.symm).mono ?_
                rintro e w6 ⟨rfl, ht1, ht2, ht3⟩
                have m6 := m5.frT dj (by omega) ht1 ht2 ht3
                clear ht1 ht2 ht3 m5 hlt hi
                go_wp2_with fail
                have ei : (n : Int) - 1 = ((n - 1 : Nat) : Int) := by omega
                rw [ei]
                clear ei
                go_loopw [15] (fun iv wr => ∃ (t : Nat) (sa : Nat → Int) (at_ : Nat → Nat), t < n ∧ iv = .int .i64 t ∧ Mf n k S B sb so .i32 ab ao mb lb (lo + 1) gc gt w5 wr sa at_ ∧ Hid (Plc n S B (fun p => p) (t + 1) sa at_ ∧ ∀ u, u < n → PlcO n S B (fun p => p) (t + 1) sa u)) (fun t _ => (intOf t).toNat)
                case atStart => exact ⟨n - 1, sa, _, by omega, rfl, m6, plc_start (fun p hp => by have := hp.2.1; omega), fun u hu => .inl (HA.out u hu)⟩
                case round =>
                  clear m6 HA
                  obtain ⟨t, sa, at_, ht, rfl, m5, HP⟩ := hrel
                  by_cases ht0 : t = 0
                  · subst ht0
                    have hq : ¬ (0 : Int) < ((0 : Nat) : Int) := by omega
                    have hpl := plc_skip HP.out.1 (fun p hp => by have := hp.1; omega)
                    have hpo : ∀ u, u < n → PlcO n S B (fun p => p) 0 sa u := fun u hu => plco_skip (HP.out.2 u hu)
                    clear HP
                    as_aux_lemma =>
                      go_wp2_with fail
                      refine (induce_i n k (by omega) hn hk S B (rr n S B (fun p => p)) hSk sb so scap ab ao acap mb lb (lo + 1) gc gt wr sa at_ m5.mi dj hty (rr_ok (fun p q _ _ e => e)) (fun p hp => hpl.hs p hp (Nat.zero_le _)) (fun t ht => (hpo t ht).elim .inl (fun ⟨p, hp, _, e⟩ => .inr ⟨p, hp, e⟩))).mono ?_
                      rintro e w6 ⟨rfl, sa2, a2, hm2, hs2, hf2⟩
                      have m6 := m5.step hm2 hf2
                      obtain ⟨P, hP1, hP2, hP3, hP4⟩ := sorted_fun hs2
                      have HQ := hide (And.intro hP3 hP4)
                      have HC := hide (cmp_start (B := B) hP1)
                      clear hm2 hf2 m5 hpl hpo hs2 hP1 hP3 hP4 hq ht
                      go_wp2_with fail
                      go_loopw [16, 189] (fun jv iv wr => ∃ (i l : Nat) (sa : Nat → Int), i ≤ n ∧ l ≤ i ∧ jv = .int .i64 l ∧ iv = .int .i64 i ∧ Mf n k S B sb so .i32 ab ao mb lb (lo + 1) gc gt w5 wr sa a2 ∧ Hid (l = cn i (fun u => lmsB n B (P u)) ∧ Cmp n B P i sa)) (fun _ i _ => n - (intOf i).toNat)
                      case atStart => exact ⟨0, 0, sa2, Nat.zero_le _, Nat.le_refl _, rfl, rfl, m6, rfl, HC.out⟩
                      case round =>
                        clear m6 HC
                        obtain ⟨i, l, sa, hi, hl, rfl, rfl, m5, HC⟩ := hrel
                        by_cases hlt : i < n
                        · have hpi := hP2 i hlt
                          have c1 := m5.mi.aAt hlt
                          rw [HC.out.2.rest i (Nat.le_refl _) hlt] at c1
                          have HS := hide (cn_succ i (fun u => lmsB n B (P u)))
                          have HI := hide (lmsB_iff (n := n) (B := B) (P i))
                          have HR := hide (cmp_skip HC.out.2)
                          have HT := hide (cmp_put HC.out.2)
                          have hm := m5.mi.m
                          have HL : Hid (lmsB n B (P i) = lmsB n B (P i)) := rfl
                          cases hb : lmsB n B (P i) with
                          | false =>
                            have HC' : Hid (l = cn (i + 1) (fun u => lmsB n B (P u)) ∧ Cmp n B P (i + 1) sa) := by
                              refine ⟨?_, HR.out (fun e => ?_)⟩
                              · rw [HS.out, hb]; exact HC.out.1
                              · rw [HI.out.2 e] at hb; cases hb
                            have HB := hide hb
                            clear HC HS HI HR HT HL hb
                            obtain ⟨x, hx⟩ : ∃ x, P i = x := ⟨_, rfl⟩
                            rw [hx] at hpi c1 HB
                            clear hx
                            go_wp2_with fail
                            refine (is_lms n x hn hpi B mb 0 n _ hm).mono ?_
                            rintro e w7 ⟨rfl, rfl⟩
                            rw [HB.out]
                            go_wp2_with fail
                            go_roundw
                            case rel => exact ⟨i + 1, l, sa, by omega, by omega, rfl, rfl, m5, HC'⟩
                            case measure => first | (simp [intOf]; done) | (simp [intOf]; omega)
                          | true =>
                            have HC' : Hid (l + 1 = cn (i + 1) (fun u => lmsB n B (P u)) ∧ Cmp n B P (i + 1) (upd sa l (P i))) := by
                              refine ⟨?_, ?_⟩
                              · rw [HS.out, hb, ← HC.out.1]; rfl
                              · rw [HC.out.1]; exact HT.out (HI.out.1 hb)
                            have HB := hide hb
                            clear HC HS HI HR HT HL hb
                            obtain ⟨x, hx⟩ : ∃ x, P i = x := ⟨_, rfl⟩
                            rw [hx] at hpi c1 HC' HB
                            clear hx
                            have c2 := m5.mi.aAt (i := l) (by omega)
                            have f2 := m5.mi.fa (ao + l)
                            have m6 := m5.setA dj (i := l) (by omega) (x : Int)
                            clear m5
                            have i1 : (l : Int) < (n : Int) := by omega
                            go_wp2_with fail
                            refine (is_lms n x hn hpi B mb 0 n _ hm).mono ?_
                            rintro e w7 ⟨rfl, rfl⟩
                            rw [HB.out]
                            go_wp2_with fail
                            go_roundw
                            case rel => exact ⟨i + 1, l + 1, _, by omega, by omega, rfl, rfl, m6, HC'⟩
                            case measure => first | (simp [intOf]; done) | (simp [intOf]; omega)
                        · have hin : n = i := by omega
                          subst hin
                          clear hlt hi
                          obtain ⟨hL, Q, hSL, hQ⟩ := cmp_done HC.out.2 hP2 HQ.out.1 (R := RK n S B (rr n S B (fun p => p))) HQ.out.2
                          have hlx : l = ix n B n := HC.out.1.trans hL
                          rw [← hlx] at hQ
                          have hle := ix_le hty (by omega)
                          rw [← hlx] at hle
                          have HX := hide hlx
                          clear HC HQ hP2 hL hl hlx
                          as_aux_lemma =>
                            have i1 : (l : Int) < (n : Int) := by omega
                            have i2 : l ≤ acap := by omega
                            have i3 : ¬ acap - l = 0 := by omega
                            have i4 : (l : Int) ≤ (acap : Int) := by omega
                            have HQ := hide (And.intro hSL hQ)
                            clear hSL hQ
                            go_wp2_with fail
                            obtain ⟨r, hr⟩ : ∃ r, n - l = r := ⟨_, rfl⟩
                            rw [hr]
                            have hr1 : l + r = n := by omega
                            clear hr
                            go_loopw [209] (fun iv wr => ∃ (i : Nat) (sa : Nat → Int), i ≤ r ∧ iv = .int .i64 i ∧ Mf n k S B sb so .i32 ab ao mb lb (lo + 1) gc gt w5 wr sa a2 ∧ Hid ((∀ u, u < l → sa u = Q u) ∧ ∀ t, t < i → sa (l + t) = -1)) (fun i _ => r - (intOf i).toNat)
                            case atStart => exact ⟨0, sa, Nat.zero_le _, rfl, m5, HQ.out.2, fun t ht => by omega⟩
                            case round =>
                              clear m5
                              have HQ1 := hide HQ.out.1
                              clear HQ
                              obtain ⟨i, sa, hi, rfl, m5, HA⟩ := hrel
                              by_cases hlt : i < r
                              · have c1 := m5.mi.aAt (i := l + i) (by omega)
                                rw [← Nat.add_assoc] at c1
                                have f1 := m5.mi.fa (ao + l + i)
                                have m6 := m5.setO dj (i := l + i) (by omega) (Nat.add_assoc ao l i) (-1)
                                have HA' : Hid ((∀ u, u < l → upd sa (l + i) (-1) u = Q u) ∧ ∀ t, t < i + 1 → upd sa (l + i) (-1) (l + t) = -1) := by
                                  refine ⟨fun u hu => ?_, fun t ht => ?_⟩
                                  · rw [upd_ne _ _ (by omega)]; exact HA.out.1 u hu
                                  · by_cases e : t = i
                                    · subst e; rw [upd_same]
                                    · rw [upd_ne _ _ (by omega)]; exact HA.out.2 t (by omega)
                                clear HA m5
                                have i5 : (i : Int) < (r : Int) := by omega
                                go_wp2_with fail
                                go_roundw
                                case rel => exact ⟨i + 1, _, by omega, rfl, m6, HA'⟩
                                case measure => first | (simp [intOf]; done) | (simp [intOf]; omega)
                              · have hin : r = i := by omega
                                subst hin
                                clear hlt hi
                                have hrk : Rnk n S B Q 0 sa := by
                                  refine ⟨fun u hu => HA.out.1 u (by rw [HX.out]; exact hu), fun u hu => by omega, fun v hv _ => ?_⟩
                                  rw [← HX.out] at hv ⊢
                                  exact HA.out.2 v (by omega)
                                have HR := hide hrk
                                clear HA hrk
                                as_aux_lemma =>
                                  go_wp2_with fail
                                  go_loopw [21, 220] (fun rv iv wr => ∃ (i m : Nat) (sa : Nat → Int), i ≤ l ∧ m ≤ i ∧ rv = .int .i32 ((m : Int) - 1) ∧ iv = .int .i64 i ∧ Mf n k S B sb so .i32 ab ao mb lb (lo + 1) gc gt w5 wr sa a2 ∧ Hid (m = nm n S B Q i ∧ Rnk n S B Q i sa)) (fun _ i _ => l - (intOf i).toNat)
                                  case atStart => exact ⟨0, 0, sa, Nat.zero_le _, Nat.le_refl _, rfl, rfl, m5, rfl, HR.out⟩
                                  case round =>
                                    clear m5 HR
                                    obtain ⟨i, m, sa, hi, hm, rfl, rfl, m5, HR⟩ := hrel
                                    by_cases hlt : i < l
                                    · have hQl : LMS n B (Q i) := HQ1.out.1 i (by rw [← HX.out]; exact hlt)
                                      have hqn := hQl.2.1
                                      have hhf := half_lt hty hQl
                                      rw [← HX.out] at hhf
                                      have c1 := m5.mi.aAt (i := i) (by omega)
                                      rw [HR.out.2.frt i (by rw [← HX.out]; exact hlt)] at c1
                                      have hput := rnk_put HQ1.out RK_irr HR.out.2 (by rw [← HX.out]; exact hlt)
                                      rw [← HX.out] at hput
                                      have HS := hide (nm_succ (n := n) (S := S) (B := B) Q i)
                                      have c3 := m5.mi.aAt (i := l + Q i / 2) hhf
                                      rw [← Nat.add_assoc] at c3
                                      have f3 := m5.mi.fa (ao + l + Q i / 2)
                                      by_cases hi0 : i = 0
                                      · have hn1 : nm n S B Q (i + 1) = m + 1 := by rw [HS.out, ← HR.out.1, hi0]; simp [nw]
                                        rw [hn1] at hput
                                        have m6 := m5.setO dj hhf (Nat.add_assoc ao l (Q i / 2)) (((m + 1 : Nat) : Int) - 1)
                                        have HR' := hide (And.intro hn1.symm hput)
                                        have ev : ((m + 1 : Nat) : Int) - 1 = (m : Int) := by omega
                                        rw [ev] at m6 HR'
                                        clear HR HS hput hn1 m5 hQl
                                        generalize Q i = x at *
                                        have i4b : ((i : Int) == 0) = true := by simp; omega
                                        clear hi0
                                        have i5 : (x : Int) < (n : Int) := by omega
                                        have i6 : ((x / 2 : Nat) : Int) < (r : Int) := by omega
                                        have i7 : (i : Int) < (l : Int) := by omega
                                        have wm : IntKind.i32.wrap ((m : Int) - 1 + 1) = (m : Int) := by rw [IntKind.wrap_i32]; omega
                                        go_wp2_with fail
                                        go_roundw
                                        case rel => exact ⟨i + 1, m + 1, _, by omega, by omega, by congr 1; omega, rfl, m6, HR'⟩
                                        case measure => first | (simp [intOf]; done) | (simp [intOf]; omega)
                                      · obtain ⟨j, rfl⟩ : ∃ j, i = j + 1 := ⟨i - 1, by omega⟩
                                        have hQj : LMS n B (Q j) := HQ1.out.1 j (by rw [← HX.out]; omega)
                                        have hqj := hQj.2.1
                                        have c2 := m5.mi.aAt (i := j) (by omega)
                                        rw [HR.out.2.frt j (by rw [← HX.out]; omega)] at c2
                                        have HW := hide (nw_succ hty HQ1.out RK_irr (i := j) (by rw [← HX.out]; exact hlt))
                                        have hs := m5.mi.s
                                        have hmm := m5.mi.m
                                        have i4 : ¬ ((j + 1 : Nat) : Int) = 0 := by omega
                                        have i4b : (((j + 1 : Nat) : Int) == 0) = false := by simp; omega
                                        have i5 : (j : Int) < (n : Int) := by omega
                                        have i6 : ((j + 1 : Nat) : Int) < (l : Int) := by omega
                                        have wq : IntKind.i64.wrap (((j + 1 : Nat) : Int) - 1) = (j : Int) := by rw [IntKind.wrap_i64]; omega
                                        have i7 : ((Q (j + 1) / 2 : Nat) : Int) < (r : Int) := by omega
                                        have i8 : ((Q (j + 1) : Nat) : Int) < (n : Int) := by omega
                                        have wm : IntKind.i32.wrap ((m : Int) - 1 + 1) = (m : Int) := by rw [IntKind.wrap_i32]; omega
                                        clear hQl hQj hi0
                                        obtain ⟨x, hx⟩ : ∃ x, Q (j + 1) = x := ⟨_, rfl⟩
                                        obtain ⟨y, hy⟩ : ∃ y, Q j = y := ⟨_, rfl⟩
                                        rw [hx] at hqn hhf c1 c3 f3 i7 i8 hput HW
                                        rw [hy] at hqj c2 HW
                                        clear hx hy
                                        go_wp2_with fail
                                        refine (same_i n y x hn hqj hqn S B sb so scap mb 0 n wr hs hmm).mono ?_
                                        rintro e w7 ⟨sm, rfl, hsm, hf7⟩
                                        have m6 := m5.frN (by omega) hk1 hf7
                                        have f3' := m6.mi.fa (ao + l + x / 2)
                                        have c3' := m6.mi.aAt (i := l + x / 2) hhf
                                        rw [← Nat.add_assoc] at c3'
                                        clear hf7 m5 f3 c3 hs hmm c1 c2
                                        cases sm with
                                        | true =>
                                          have hn1 : nm n S B Q (j + 1 + 1) = m := by
                                            rw [HS.out, ← HR.out.1, if_neg]
                                            · rfl
                                            · rw [HW.out]; exact fun e => e (hsm.1 rfl)
                                          rw [hn1] at hput
                                          have m7 := m6.setO dj hhf (Nat.add_assoc ao l (x / 2)) ((m : Int) - 1)
                                          have HR' := hide (And.intro hn1.symm hput)
                                          clear HR HS HW hput hn1 m6 hsm
                                          go_wp2_with fail
                                          go_roundw
                                          case rel => exact ⟨j + 1 + 1, m, _, by omega, by omega, rfl, rfl, m7, HR'⟩
                                          case measure => first | (simp [intOf]; done) | (simp [intOf]; omega)
                                        | false =>
                                          have hn1 : nm n S B Q (j + 1 + 1) = m + 1 := by
                                            rw [HS.out, ← HR.out.1, if_pos]
                                            rw [HW.out]; exact fun e => by have := hsm.2 e; cases this
                                          rw [hn1] at hput
                                          have m7 := m6.setO dj hhf (Nat.add_assoc ao l (x / 2)) (((m + 1 : Nat) : Int) - 1)
                                          have HR' := hide (And.intro hn1.symm hput)
                                          have ev : ((m + 1 : Nat) : Int) - 1 = (m : Int) := by omega
                                          rw [ev] at m7 HR'
                                          clear HR HS HW hput hn1 m6 hsm
                                          go_wp2_with fail
                                          go_roundw
                                          case rel => exact ⟨j + 1 + 1, m + 1, _, by omega, by omega, by congr 1; omega, rfl, m7, HR'⟩
                                          case measure => first | (simp [intOf]; done) | (simp [intOf]; omega)
                                    · have hin : l = i := by omega
                                      subst hin
                                      clear hlt hi
                                      as_aux_lemma =>
                                        obtain ⟨hm1, hrk⟩ := HR.out
                                        have HM := hide hm1
                                        have HK := hide hrk
                                        clear HR hm1 hrk
                                        have wr1 : IntKind.i64.wrap ((n : Int) - (l : Int)) = (r : Int) := by rw [IntKind.wrap_i64]; omega
                                        have i1 : (r : Int) ≤ (n : Int) := by omega
                                        have i2 : (r : Int) ≤ (acap : Int) := by omega
                                        have enl : n - r = l := by omega
                                        go_upto_region 52 with fail
                                        go_cut [24] from 249 to 253 (fun sv wc => ∃ sh sc, sv = .slice (some ⟨ab, sh, none⟩) l sc ∧ (l = 0 ∨ sh = ao + r) ∧ Mf n k S B sb so .i32 ab ao mb lb (lo + 1) gc gt w5 wc sa a2)
                                        case first =>
                                          by_cases hcc : acap - r = 0
                                          · have hl0 : l = 0 := by omega
                                            go_wp2_with fail
                                            go_meet
                                            case rel => exact ⟨ao, acap - n, by rw [hl0], .inl hl0, m5⟩
                                          · go_wp2_with fail
                                            go_meet
                                            case rel => exact ⟨_, _, rfl, .inr rfl, m5⟩
                                        case rest =>
                                          clear m5 wr1 i1 i2
                                          obtain ⟨sh, sc, rfl, hsh, m5⟩ := hcut
                                          have HH := hide hsh
                                          clear hsh
                                          have HV := hide (fun v hv => rnk_done HQ1.out (by rw [← HX.out]; exact HK.out) (v := v) hv)
                                          go_wp2_with fail
                                          go_loopw [25, 26] (fun jv iv wr => ∃ (t j : Nat) (sb2 : Nat → Int), t ≤ r ∧ j ≤ l ∧ jv = .int .i64 j ∧ iv = .int .i64 ((t : Int) - 1) ∧ Mf n k S B sb so .i32 ab ao mb lb (lo + 1) gc gt w5 wr sb2 a2 ∧ Hid (j = cn t (hb2 n B) ∧ Mov n B (fun u => sa (l + u)) t sb2)) (fun _ i _ => (intOf i + 1).toNat)
                                          case atStart =>
                                            refine ⟨r, l, sa, Nat.le_refl _, Nat.le_refl _, rfl, rfl, m5, ?_, ?_, ?_⟩
                                            · have := cn_hb2_all hty (by omega)
                                              rw [← HX.out, show n - l = r by omega] at this
                                              exact this.symm
                                            · intro u hu; rw [← HX.out]
                                            · intro u hu hu2; rw [← HX.out] at hu2; omega
                                          case round =>
                                            clear m5
                                            obtain ⟨t, j, sb2, ht, hj, rfl, rfl, m5, HV2⟩ := hrel
                                            by_cases ht0 : t = 0
                                            · subst ht0
                                              have hq : ¬ (0 : Int) ≤ ((0 : Nat) : Int) - 1 := by omega
                                              obtain ⟨T, hT1, hT2⟩ := short_of hty HQ1.out (sa := sa) (sa' := sb2) (by rw [← HX.out]; exact HK.out) (by rw [← HX.out]; exact HV2.out.2)
                                              rw [← HX.out, show n - l = r by omega] at hT2
                                              have HT := hide (And.intro hT1 hT2)
                                              clear HV2 HV hT1 hT2 HK
                                              as_aux_lemma =>
                                                have e01 : ((0 : Nat) : Int) - 1 = -1 := by omega
                                                rw [e01] at hq ⊢
                                                clear e01
                                                have wm1 : IntKind.i64.wrap ((m : Int) - 1 + 1) = (m : Int) := by rw [IntKind.wrap_i64]; omega
                                                go_upto_if 283 with fail
                                                go_cut [] from 254 to 310 (fun wc => ∃ o : Nat → Int, Mi n k S B sb so .i32 ab ao mb lb (lo + 1) gc gt wc o a2 ∧ SA l T o ∧ Ed n ab ao pl po la lc gt w wc)
                                                case first =>
                                                  have ct7 := ct5.mf gg m5.fr
                                                  have sm7 := cell_fr HSM.out m5.fr (fun e => e.elim (fun e => gg.al e.1.symm) (fun e => gg.l e.symm))
                                                  by_cases hml : m < l
                                                  · have esh : sh = ao + r := HH.out.elim (fun e => by omega) (fun e => e)
                                                    have hm1 : 1 ≤ m := by
                                                      rw [HM.out, show l = (l - 1) + 1 by omega]
                                                      exact nm_pos _ _
                                                    have hTm : ∀ v, v < l → T v < m := fun v hv => by
                                                      have := HT.out.1.lt HQ1.out (v := v) (by rw [← HX.out]; exact hv)
                                                      rw [← HX.out, ← HM.out] at this
                                                      exact this
                                                    have hpre := rec_pre ct7 gg m5.mi hn (by omega) hr1 hle hm1 (by omega) hTm HT.out.2 esh
                                                    have i1 : (m : Int) < (l : Int) := by omega
                                                    clear hTm esh
                                                    go_wp2_with fail
                                                    refine (IH l (by omega) m T ab sh sc ab ao acap db 0 (some ⟨lb, dlo, none⟩) dc _ sb2 (by omega) hpre).mono ?_
                                                    rintro e w8 ⟨rfl, hpost⟩
                                                    obtain ⟨xb, xo, xm, xc, o, hrec⟩ := rec_post (r := r) ct7 gg dj m5.mi sm7 (by omega) hk1 (by omega) hpost
                                                    have bp7 := ct7.bp
                                                    have dn7 := ct7.dne
                                                    clear hpre hpost ct7 sm7 m5 HT
                                                    have cp8 := hrec.p
                                                    have fp8 := hrec.fp
                                                    have cd8 := hrec.d
                                                    have c18 := hrec.c1
                                                    have ic8 : (1 : Int) ≤ (c : Int) := by omega
                                                    have xm1 := hrec.m1
                                                    have xm2 := hrec.m2
                                                    go_wp2_with fail
                                                    go_region_law (refine step_app rfl (.tmp 294) (.tmp 295) rfl Try.underlying26 info45 (some ⟨lb, lo, none⟩) 1 c (by simp [Act.eval, Act.put]) xb xo xm xc (by simp [Act.eval, Act.put]) hrec.drew.lv hrec.drew.rx (by omega) (by omega) ?_; intro b9 off9 c9 w9 hA; obtain ⟨z1, z2, z3, z4, z5⟩ := rec_done gg dj (by omega) hk1 (by omega) hrec.drew bp7 dn7 hA)
                                                    all_goals
                                                      go_wp2_with fail
                                                      go_meet
                                                      case rel => exact ⟨o, z4, hrec.sa, z5⟩
                                                  · have hml2 : m = l := by
                                                      have h1 : m ≤ l := hm
                                                      omega
                                                    have hall : nm n S B Q (ix n B n) = ix n B n := by rw [← HX.out, ← HM.out]; exact hml2
                                                    have HJ := hide (short_inj HQ1.out HT.out.1 hall)
                                                    have HP := hide (fun (f : Nat → Int) hf => short_sa HQ1.out HT.out.1 hall (sa := f) hf)
                                                    have hTl : ∀ v, v < l → T v < l := fun v hv => by
                                                      have := HT.out.1.lt HQ1.out (v := v) (by rw [← HX.out]; exact hv)
                                                      rw [← HX.out, ← HM.out, hml2] at this
                                                      exact this
                                                    rw [← HX.out] at HJ HP
                                                    have i1 : ¬ (m : Int) < (l : Int) := by omega
                                                    have HT2 := hide HT.out.2
                                                    have HTl := hide hTl
                                                    have HE := hide hml2
                                                    clear HT hall hTl hml2 hml
                                                    go_wp2_with fail
                                                    go_loopw [300] (fun iv wr => ∃ (i : Nat) (sa : Nat → Int), i ≤ l ∧ iv = .int .i64 i ∧ Mf n k S B sb so .i32 ab ao mb lb (lo + 1) gc gt w5 wr sa a2 ∧ Hid ((∀ v, v < l → sa (r + v) = T v) ∧ ∀ v, v < i → sa (T v) = v)) (fun i _ => l - (intOf i).toNat)
                                                    case atStart => exact ⟨0, sb2, Nat.zero_le _, rfl, m5, HT2.out, fun t ht => by omega⟩
                                                    case round =>
                                                      clear m5 HT2 ct7 sm7
                                                      obtain ⟨i, sa, hi, rfl, m5, HA⟩ := hrel
                                                      by_cases hlt : i < l
                                                      · have esh : sh = ao + r := HH.out.elim (fun e => by omega) (fun e => e)
                                                        have eo : sh + i = ao + (r + i) := by omega
                                                        have c1 := m5.mi.aAt (i := r + i) (by omega)
                                                        rw [← eo, HA.out.1 i hlt] at c1
                                                        have htl := HTl.out i hlt
                                                        have c2 := m5.mi.aAt (i := T i) (by omega)
                                                        have f2 := m5.mi.fa (ao + T i)
                                                        have m6 := m5.setA dj (i := T i) (by omega) (i : Int)
                                                        have HA' : Hid ((∀ v, v < l → upd sa (T i) (i : Int) (r + v) = T v) ∧ ∀ v, v < i + 1 → upd sa (T i) (i : Int) (T v) = v) := by
                                                          refine ⟨fun v hv => ?_, fun v hv => ?_⟩
                                                          · rw [upd_ne _ _ (by omega)]; exact HA.out.1 v hv
                                                          · by_cases e : v = i
                                                            · subst e; rw [upd_same]
                                                            · rw [upd_ne _ _ (fun e2 => e (HJ.out v i (by omega) hlt e2))]
                                                              exact HA.out.2 v (by omega)
                                                        clear HA m5 esh eo
                                                        generalize T i = x at *
                                                        have i2 : (x : Int) < (l : Int) := by omega
                                                        have i3 : (i : Int) < (l : Int) := by omega
                                                        go_wp2_with fail
                                                        go_roundw
                                                        case rel => exact ⟨i + 1, _, by omega, rfl, m6, HA'⟩
                                                        case measure => first | (simp [intOf]; done) | (simp [intOf]; omega)
                                                      · have hin : l = i := by omega
                                                        subst hin
                                                        have hsa := HP.out sa HA.out.2
                                                        have ct7 := ct5.mf gg m5.fr
                                                        have sm7 := cell_fr HSM.out m5.fr (fun e => e.elim (fun e => gg.al e.1.symm) (fun e => gg.l e.symm))
                                                        have hed := (ct7.ed gg (by omega) m5.mi sm7).2
                                                        have hmi := m5.mi
                                                        clear ct7 sm7 m5 HA HP
                                                        go_wp2_with fail
                                                        go_meet
                                                        case rel => exact ⟨sa, hmi, hsa, hed⟩
                                                case rest =>
                                                  clear m5 ct5 HSM
                                                  obtain ⟨o, hmi, hsa, hed⟩ := hcut
                                                  as_aux_lemma =>
                                                    obtain ⟨pz, hpz⟩ := pos_fun n B
                                                    rw [← HX.out] at hpz
                                                    obtain ⟨ov, hov⟩ : ∃ ov : Nat → Nat, ∀ u, u < l → ov u < l ∧ o u = ov u := by
                                                      have h1 : ∀ u, ∃ x : Nat, u < l → x < l ∧ o u = x := fun u => by
                                                        by_cases hu : u < l
                                                        · obtain ⟨x, hx⟩ := hsa.1 u hu; exact ⟨x, fun _ => hx⟩
                                                        · exact ⟨0, fun e => (hu e).elim⟩
                                                      exact ⟨fun u => Classical.choose (h1 u), fun u hu => Classical.choose_spec (h1 u) hu⟩
                                                    have hsl : SL n B (SufLt n S) (fun u => pz (ov u)) := by
                                                      refine order_sl hty (rr_ok (fun p q _ _ e => e)) HQ1.out HT.out.1 (o := o) (by rw [← HX.out]; exact hsa) (fun u hu => ?_)
                                                      rw [← HX.out] at hu
                                                      have h1 := hov u hu
                                                      have h2 := hpz (ov u) h1.1
                                                      exact ⟨h2.1, by rw [h2.2]; exact h1.2.symm⟩
                                                    have HSL := hide hsl
                                                    have HZ := hide (And.intro hpz hov)
                                                    have m8 : Mf n k S B sb so .i32 ab ao mb lb (lo + 1) gc gt wc wc o a2 := ⟨hmi, Fr.refl _ _⟩
                                                    clear hsl hpz hov hsa HT HQ1 hmi HM wm1 hq
                                                    go_wp2_with fail
                                                    go_loopw [25, 30] (fun jv iv wr => ∃ (i j : Nat) (sa : Nat → Int), 1 ≤ i ∧ i ≤ n ∧ j ≤ l ∧ jv = .int .i64 j ∧ iv = .int .i64 i ∧ Mf n k S B sb so .i32 ab ao mb lb (lo + 1) gc gt wc wr sa a2 ∧ Hid (j = ix n B i ∧ (∀ u, u < l → sa u = o u) ∧ ∀ p, p < i → LMS n B p → sa (r + ix n B p) = p)) (fun _ i _ => n - (intOf i).toNat)
                                                    case atStart =>
                                                      refine ⟨1, 0, o, Nat.le_refl _, by omega, Nat.zero_le _, rfl, rfl, m8, ?_, fun u _ => rfl, fun p hp hl => ?_⟩
                                                      · unfold ix; rw [cn_succ, lms_zero]; rfl
                                                      · have := hl.1; omega
                                                    case round =>
                                                      clear m8
                                                      obtain ⟨i, j, sa, hi1, hi, hj, rfl, rfl, m5, HA⟩ := hrel
                                                      by_cases hlt : i < n
                                                      · have hm := m5.mi.m
                                                        have HS := hide (cn_succ i (lmsB n B))
                                                        have HI := hide (lmsB_iff (n := n) (B := B) i)
                                                        have i1 : (i : Int) < (n : Int) := by omega
                                                        cases hb : lmsB n B i with
                                                        | false =>
                                                          have HA' : Hid (j = ix n B (i + 1) ∧ (∀ u, u < l → sa u = o u) ∧ ∀ p, p < i + 1 → LMS n B p → sa (r + ix n B p) = p) := by
                                                            refine ⟨?_, HA.out.2.1, fun p hp hl => ?_⟩
                                                            · unfold ix; rw [HS.out, hb]; exact HA.out.1
                                                            · by_cases e : p = i
                                                              · subst e; rw [HI.out.2 hl] at hb; cases hb
                                                              · exact HA.out.2.2 p (by omega) hl
                                                          have HB := hide hb
                                                          clear HA HS HI hb
                                                          go_wp2_with fail
                                                          refine (is_lms n i hn hlt B mb 0 n _ hm).mono ?_
                                                          rintro e w7 ⟨rfl, rfl⟩
                                                          rw [HB.out]
                                                          go_wp2_with fail
                                                          go_roundw
                                                          case rel => exact ⟨i + 1, j, sa, by omega, by omega, hj, rfl, rfl, m5, HA'⟩
                                                          case measure => first | (simp [intOf]; done) | (simp [intOf]; omega)
                                                        | true =>
                                                          have hL : LMS n B i := HI.out.1 hb
                                                          have hjl : j < l := by rw [HA.out.1, HX.out]; exact ix_lt hL
                                                          have esh : sh = ao + r := HH.out.elim (fun e => by omega) (fun e => e)
                                                          have eo : sh + j = ao + (r + j) := by omega
                                                          have c2 := m5.mi.aAt (i := r + j) (by omega)
                                                          rw [← eo] at c2
                                                          have f2 := m5.mi.fa (sh + j)
                                                          have m6 := m5.setO dj (i := r + j) (by omega) eo (i : Int)
                                                          have HA' : Hid (j + 1 = ix n B (i + 1) ∧ (∀ u, u < l → upd sa (r + j) (i : Int) u = o u) ∧ ∀ p, p < i + 1 → LMS n B p → upd sa (r + j) (i : Int) (r + ix n B p) = p) := by
                                                            refine ⟨?_, fun u hu => ?_, fun p hp hl => ?_⟩
                                                            · have h1 := HA.out.1
                                                              unfold ix at h1 ⊢; rw [HS.out, hb, ← h1]; rfl
                                                            · rw [upd_ne _ _ (by omega)]; exact HA.out.2.1 u hu
                                                            · by_cases e : p = i
                                                              · subst e; rw [← HA.out.1, upd_same]
                                                              · rw [upd_ne _ _ (fun e2 => e (ix_inj hl hL (by have := HA.out.1; omega)))]
                                                                exact HA.out.2.2 p (by omega) hl
                                                          have HB := hide hb
                                                          clear HA HS HI hb hL esh eo m5
                                                          have i2 : (j : Int) < (l : Int) := by omega
                                                          go_wp2_with fail
                                                          refine (is_lms n i hn hlt B mb 0 n _ hm).mono ?_
                                                          rintro e w7 ⟨rfl, rfl⟩
                                                          rw [HB.out]
                                                          go_wp2_with fail
                                                          go_roundw
                                                          case rel => exact ⟨i + 1, j + 1, _, by omega, by omega, by omega, rfl, rfl, m6, HA'⟩
                                                          case measure => first | (simp [intOf]; done) | (simp [intOf]; omega)
                                                      · have hin : n = i := by omega
                                                        subst hin
                                                        clear hlt hi
                                                        have HF : Hid ((∀ v, v < l → sa (r + v) = pz v) ∧ (∀ u, u < 0 → sa u = pz (ov u)) ∧ ∀ u, 0 ≤ u → u < l → sa u = ov u) := by
                                                          refine ⟨fun v hv => ?_, fun u hu => by omega, fun u _ hu => ?_⟩
                                                          · have h1 := HZ.out.1 v hv
                                                            have h2 := HA.out.2.2 (pz v) h1.1.2.1 h1.1
                                                            rw [h1.2] at h2; exact h2
                                                          · rw [HA.out.2.1 u hu]; exact (HZ.out.2 u hu).2
                                                        clear HA
                                                        as_aux_lemma =>
                                                          go_wp2_with fail
                                                          go_loopw [328] (fun iv wr => ∃ (i : Nat) (sa : Nat → Int), i ≤ l ∧ iv = .int .i64 i ∧ Mf n k S B sb so .i32 ab ao mb lb (lo + 1) gc gt wc wr sa a2 ∧ Hid ((∀ v, v < l → sa (r + v) = pz v) ∧ (∀ u, u < i → sa u = pz (ov u)) ∧ ∀ u, i ≤ u → u < l → sa u = ov u)) (fun i _ => l - (intOf i).toNat)
                                                          case atStart => exact ⟨0, sa, Nat.zero_le _, rfl, m5, HF⟩
                                                          case round =>
                                                            clear m5 HF
                                                            obtain ⟨i, sa, hi, rfl, m5, HF⟩ := hrel
                                                            by_cases hlt : i < l
                                                            · have esh : sh = ao + r := HH.out.elim (fun e => by omega) (fun e => e)
                                                              have hv := (HZ.out.2 i hlt).1
                                                              have c1 := m5.mi.aAt (i := i) (by omega)
                                                              rw [HF.out.2.2 i (Nat.le_refl _) hlt] at c1
                                                              have eo : sh + ov i = ao + (r + ov i) := by omega
                                                              have c2 := m5.mi.aAt (i := r + ov i) (by omega)
                                                              rw [← eo, HF.out.1 (ov i) hv] at c2
                                                              have f1 := m5.mi.fa (ao + i)
                                                              have m6 := m5.setA dj (i := i) (by omega) (pz (ov i) : Int)
                                                              have HF' : Hid ((∀ v, v < l → upd sa i (pz (ov i) : Int) (r + v) = pz v) ∧ (∀ u, u < i + 1 → upd sa i (pz (ov i) : Int) u = pz (ov u)) ∧ ∀ u, i + 1 ≤ u → u < l → upd sa i (pz (ov i) : Int) u = ov u) := by
                                                                refine ⟨fun v hv => ?_, fun u hu => ?_, fun u h1 h2 => ?_⟩
                                                                · rw [upd_ne _ _ (by omega)]; exact HF.out.1 v hv
                                                                · by_cases e : u = i
                                                                  · subst e; rw [upd_same]
                                                                  · rw [upd_ne _ _ e]; exact HF.out.2.1 u (by omega)
                                                                · rw [upd_ne _ _ (by omega)]; exact HF.out.2.2 u (by omega) h2
                                                              clear HF m5 esh eo
                                                              generalize pz (ov i) = y at *
                                                              generalize ov i = x at *
                                                              have i2 : (x : Int) < (l : Int) := by omega
                                                              have i3 : (i : Int) < (l : Int) := by omega
                                                              go_wp2_with fail
                                                              go_roundw
                                                              case rel => exact ⟨i + 1, _, by omega, rfl, m6, HF'⟩
                                                              case measure => first | (simp [intOf]; done) | (simp [intOf]; omega)
                                                            · have hin : l = i := by omega
                                                              subst hin
                                                              clear hlt hi
                                                              have HG := hide HF.out.2.1
                                                              clear HF HZ
                                                              obtain ⟨q, hq⟩ : ∃ q : Nat → Nat, (fun u => pz (ov u)) = q := ⟨_, rfl⟩
                                                              rw [hq] at HSL
                                                              have HG2 : Hid ((∀ u, u < l → sa u = q u) ∧ ∀ u, l ≤ u → u < l → sa u = -1) := ⟨fun u hu => by rw [HG.out u hu, ← hq], fun u h1 h2 => by omega⟩
                                                              clear hq HG
                                                              go_wp2_with fail
                                                              go_loopw [33] (fun iv wr => ∃ (i : Nat) (sa : Nat → Int), l ≤ i ∧ i ≤ n ∧ iv = .int .i64 i ∧ Mf n k S B sb so .i32 ab ao mb lb (lo + 1) gc gt wc wr sa a2 ∧ Hid ((∀ u, u < l → sa u = q u) ∧ ∀ u, l ≤ u → u < i → sa u = -1)) (fun i _ => n - (intOf i).toNat)
                                                              case atStart => exact ⟨l, sa, Nat.le_refl _, by omega, rfl, m5, HG2⟩
                                                              case round =>
                                                                clear m5 HG2
                                                                obtain ⟨i, sa, hil, hi, rfl, m5, HF⟩ := hrel
                                                                by_cases hlt : i < n
                                                                · have c1 := m5.mi.aAt hlt
                                                                  have f1 := m5.mi.fa (ao + i)
                                                                  have m6 := m5.setA dj hlt (-1)
                                                                  have HF' : Hid ((∀ u, u < l → upd sa i (-1) u = q u) ∧ ∀ u, l ≤ u → u < i + 1 → upd sa i (-1) u = -1) := by
                                                                    refine ⟨fun u hu => ?_, fun u h1 h2 => ?_⟩
                                                                    · rw [upd_ne _ _ (by omega)]; exact HF.out.1 u hu
                                                                    · by_cases e : u = i
                                                                      · subst e; rw [upd_same]
                                                                      · rw [upd_ne _ _ e]; exact HF.out.2 u h1 (by omega)
                                                                  clear HF m5
                                                                  have i3 : (i : Int) < (n : Int) := by omega
                                                                  go_wp2_with fail
                                                                  go_roundw
                                                                  case rel => exact ⟨i + 1, _, by omega, by omega, rfl, m6, HF'⟩
                                                                  case measure => first | (simp [intOf]; done) | (simp [intOf]; omega)
                                                                · have hin : n = i := by omega
                                                                  subst hin
                                                                  clear hlt hi hil
                                                                  as_aux_lemma =>
                                                                    obtain ⟨od, hod⟩ := HSL.out.od suf_irrefl
                                                                    have HO := hide hod
                                                                    clear hod
                                                                    go_wp2_with fail
                                                                    refine (set_tails n k hn hk S lb (lo + 1) gc gt _ _ m5.mi.b m5.mi.c m5.mi.t m5.mi.ft dj.tl.symm dj.tc.symm).mono ?_
                                                                    rintro e w6 ⟨rfl, ht1, ht2, ht3⟩
                                                                    have m6 := m5.frT dj (by omega) ht1 ht2 ht3
                                                                    clear ht1 ht2 ht3 m5
                                                                    go_wp2_with fail
                                                                    go_loopw [34] (fun iv wr => ∃ (t : Nat) (sa : Nat → Int) (at_ : Nat → Nat), t ≤ l ∧ iv = .int .i64 ((t : Int) - 1) ∧ Mf n k S B sb so .i32 ab ao mb lb (lo + 1) gc gt wc wr sa at_ ∧ Hid (Plc n S B od t sa at_ ∧ (∀ u, u < t → sa u = q u) ∧ ∀ u, t ≤ u → u < n → PlcO n S B od t sa u)) (fun t _ => (intOf t + 1).toNat)
                                                                    case atStart =>
                                                                      refine ⟨l, sa, _, Nat.le_refl _, rfl, m6, plc_start (fun p hp => ?_), HF.out.1, fun u h1 h2 => .inl (HF.out.2 u h1 h2)⟩
                                                                      obtain ⟨u, hu, rfl⟩ := HSL.out.2.1 p hp
                                                                      rw [HO.out u hu, HX.out]; exact hu
                                                                    case round =>
                                                                      clear m6 HF
                                                                      obtain ⟨t, sa, at_, ht, rfl, m5, HP⟩ := hrel
                                                                      by_cases ht0 : t = 0
                                                                      · subst ht0
                                                                        have e01 : ((0 : Nat) : Int) - 1 = -1 := by omega
                                                                        rw [e01]
                                                                        clear e01
                                                                        have hq : ¬ (0 : Int) ≤ -1 := by omega
                                                                        have hpl := HP.out.1
                                                                        have hpo : ∀ u, u < n → PlcO n S B od 0 sa u := fun u hu => HP.out.2.2 u (Nat.zero_le _) hu
                                                                        clear HP
                                                                        go_wp2_with fail
                                                                        refine (induce_i n k (by omega) hn hk S B (rr n S B od) hSk sb so scap ab ao acap mb lb (lo + 1) gc gt _ sa at_ m5.mi dj hty (rr_ok (od_inj HSL.out HO.out)) (fun p hp => hpl.hs p hp (Nat.zero_le _)) (fun t ht => (hpo t ht).elim .inl (fun ⟨p, hp, _, e⟩ => .inr ⟨p, hp, e⟩))).mono ?_
                                                                        rintro e w6 ⟨rfl, sa2, a3, hm2, hs2, hf2⟩
                                                                        have hfin := hed.mf gg (m5.step hm2 hf2).fr
                                                                        have hsa2 := sorted_sa hty HSL.out HO.out hs2
                                                                        have ha2 := hm2.a
                                                                        obtain ⟨pb, poff, pm, pc, hp1, hp2, hp3, hp4, _, _⟩ := hfin.p
                                                                        have hpost : SortPost n S ab ao pl po la lc w w6 := ⟨⟨sa2, ha2, hsa2⟩, ⟨pb, poff, pm, pc, hp1, hp2, hp3, hp4⟩, hfin.fr⟩
                                                                        clear hm2 hf2 m5 hpl hpo hs2 hfin hsa2 ha2 hp1 hp2 hp3 hp4
                                                                        go_wp2_with fail
                                                                        go_end0
                                                                        exact ⟨rfl, hpost⟩
                                                                      · obtain ⟨v, rfl⟩ : ∃ v, t = v + 1 := ⟨t - 1, by omega⟩
                                                                        have ep : (((v + 1 : Nat)) : Int) - 1 = (v : Int) := by omega
                                                                        rw [ep]
                                                                        clear ep ht0
                                                                        have hvx : v < ix n B n := by rw [← HX.out]; omega
                                                                        have hL : LMS n B (q v) := HSL.out.1 v hvx
                                                                        have hge := rr_ge HSL.out HO.out hvx
                                                                        have hw1 := plc_wipe (u := v) HP.out.1 (fun p hp h1 h2 => by
                                                                          obtain ⟨u, hu, rfl⟩ := HSL.out.2.1 p hp
                                                                          have h3 := rr_ge HSL.out HO.out hu
                                                                          rw [HO.out u hu] at h1
                                                                          omega)
                                                                        obtain ⟨hat1, hat, hpp⟩ := plc_put (od_inj HSL.out HO.out) hw1 hL (HO.out v hvx)
                                                                        have hpo : ∀ u, v ≤ u → u < n → PlcO n S B od v (upd (upd sa v (-1)) (rr n S B od (q v)) (q v : Int)) u := by
                                                                          intro u h1 h2
                                                                          refine plco_put ?_ hL (HO.out v hvx)
                                                                          by_cases e : u = v
                                                                          · left; rw [e, upd_same]
                                                                          · exact plco_wipe (HP.out.2.2 u (by omega) h2)
                                                                        have hfr : ∀ u, u < v → upd (upd sa v (-1)) (rr n S B od (q v)) (q v : Int) u = q u := by
                                                                          intro u hu
                                                                          rw [upd_ne _ _ (by omega), upd_ne _ _ (by omega)]
                                                                          exact HP.out.2.1 u (by omega)
                                                                        have hqn := hL.2.1
                                                                        have hSj := hSk (q v) hqn
                                                                        have c1 := m5.mi.aAt (i := v) (by omega)
                                                                        rw [HP.out.2.1 v (by omega)] at c1
                                                                        have f1 := m5.mi.fa (ao + v)
                                                                        have ma := m5.setA dj (i := v) (by omega) (-1)
                                                                        clear m5 HP hw1
                                                                        have i1 : (v : Int) < (n : Int) := by omega
                                                                        have i1b : (0 : Int) ≤ (v : Int) := by omega
                                                                        obtain ⟨p, hp⟩ : ∃ p, q v = p := ⟨_, rfl⟩
                                                                        rw [hp] at hge hat1 hat hpp hpo hfr hqn hSj c1
                                                                        clear hL
                                                                        obtain ⟨x, hx⟩ : ∃ x, S p = x := ⟨_, rfl⟩
                                                                        obtain ⟨t0, ht0⟩ : ∃ t0, rr n S B od p = t0 := ⟨_, rfl⟩
                                                                        rw [ht0] at hge hat hat1 hpp hpo hfr
                                                                        rw [hx] at hat1 hpp hSj
                                                                        have HP' := hide (And.intro hpp (And.intro hfr hpo))
                                                                        have HC := hide hx
                                                                        clear hpp hpo hfr hp hx ht0 hge
                                                                        have wv : IntKind.i64.wrap ((v : Int) - 1) = (v : Int) - 1 := by rw [IntKind.wrap_i64]; omega
                                                                        have i2 : (p : Int) < (n : Int) := by omega
                                                                        have i5 : (x : Int) < (k : Int) := by omega
                                                                        have i6 : (t0 : Int) < (n : Int) := by omega
                                                                        have cs := ma.mi.sAt hqn
                                                                        have ctt := ma.mi.tAt hSj
                                                                        rw [hat1] at ctt
                                                                        rw [HC.out] at cs
                                                                        have cb2 := ma.mi.b.t
                                                                        have f2 := ma.mi.ft x
                                                                        have ec : (((t0 + 1 : Nat)) : Int) = (t0 : Int) + 1 := by omega
                                                                        rw [ec] at ctt
                                                                        clear ec hat1
                                                                        go_wp2_with fail
                                                                        generalize wr.setCell ⟨ab, ao + v, none⟩ (.int .i32 (-1)) = w7 at *
                                                                        have mb2 := (ma.setT dj hSj t0).drew
                                                                        go_region
                                                                        go_wp2_with fail
                                                                        clear cs ctt cb2 f2 c1 f1 ma
                                                                        have cs := mb2.mi.sAt hqn
                                                                        have ctt := mb2.mi.tAt hSj
                                                                        rw [upd_same] at ctt
                                                                        have ca := mb2.mi.aAt hat
                                                                        have cb2 := mb2.mi.b.t
                                                                        have f1 := mb2.mi.fa (ao + t0)
                                                                        rw [HC.out] at cs
                                                                        generalize (w7.setCell ⟨gt, x, none⟩ (.int .i32 (t0 : Int))).drew = w8 at *
                                                                        have mc := (mb2.setA dj hat (p : Int)).drew
                                                                        clear mb2
                                                                        go_region
                                                                        go_wp2_with fail
                                                                        go_roundw
                                                                        case rel => exact ⟨v, _, _, by omega, rfl, mc, HP'⟩
                                                                        case measure => first | (simp [intOf]; done) | (simp [intOf]; omega)
                                            · obtain ⟨q, rfl⟩ : ∃ q, t = q + 1 := ⟨t - 1, by omega⟩
                                              have ep : (((q + 1 : Nat)) : Int) - 1 = (q : Int) := by omega
                                              rw [ep]
                                              clear ep ht0
                                              have hlq : l + q < n := by omega
                                              have hlq' : ix n B n + q < n := by rw [← HX.out]; exact hlq
                                              have c1 := m5.mi.aAt (i := l + q) hlq
                                              have hv1 : sb2 (l + q) = sa (l + q) := by have := HV2.out.2.rest q (by omega); rwa [← HX.out] at this
                                              rw [← Nat.add_assoc, hv1] at c1
                                              have i1 : (q : Int) < (r : Int) := by omega
                                              have HN := hide (HV.out q hlq')
                                              have wq : IntKind.i64.wrap ((q : Int) - 1) = (q : Int) - 1 := by rw [IntKind.wrap_i64]; omega
                                              cases hb : hb2 n B q with
                                              | false =>
                                                have hv : sa (l + q) = -1 := by have := HN.out.2 hb; rwa [← HX.out] at this
                                                have HV3 : Hid (j = cn q (hb2 n B) ∧ Mov n B (fun u => sa (l + u)) q sb2) := by
                                                  refine ⟨?_, mov_skip HV2.out.2 hb⟩
                                                  rw [HV2.out.1, cn_succ, hb]; rfl
                                                rw [hv] at c1
                                                clear HN HV2 hv hv1 hb
                                                go_wp2_with fail
                                                go_roundw
                                                case rel => exact ⟨q, j, sb2, by omega, hj, rfl, rfl, m5, HV3⟩
                                                case measure => first | (simp [intOf]; done) | (simp [intOf]; omega)
                                              | true =>
                                                have hv : 0 ≤ sa (l + q) := by have := HN.out.1 hb; rwa [← HX.out] at this
                                                obtain ⟨e1, e2, e3⟩ := mov_put hty (by omega) HV2.out.2 hb hlq'
                                                rw [← HX.out] at e2 e3
                                                have ej := HV2.out.1
                                                rw [e1] at ej
                                                obtain ⟨d, hd⟩ : ∃ d, cn q (hb2 n B) = d := ⟨_, rfl⟩
                                                rw [hd] at ej e2 e3
                                                subst ej
                                                rw [show n - l + d = r + d by omega] at e3
                                                have HV3 := hide (And.intro hd.symm e3)
                                                have esh : sh = ao + r := HH.out.elim (fun e => by omega) (fun e => e)
                                                have eo : sh + d = ao + (r + d) := by omega
                                                have c2 := m5.mi.aAt (i := r + d) (by omega)
                                                rw [← eo] at c2
                                                have f2 := m5.mi.fa (sh + d)
                                                have m6 := m5.setO dj (i := r + d) (by omega) eo (sa (l + q))
                                                clear HN HV2 hv1 hb e1 e3 hd eo esh m5
                                                generalize sa (l + q) = x at *
                                                have wd : IntKind.i64.wrap (((d + 1 : Nat) : Int) - 1) = (d : Int) := by rw [IntKind.wrap_i64]; omega
                                                have i2 : (d : Int) < (l : Int) := by omega
                                                go_wp2_with fail
                                                go_roundw
                                                case rel => exact ⟨q, d, _, by omega, by omega, rfl, rfl, m6, HV3⟩
                                                case measure => first | (simp [intOf]; done) | (simp [intOf]; omega)
                  · obtain ⟨q, rfl⟩ : ∃ q, t = q + 1 := ⟨t - 1, by omega⟩
                    have cm1 := m5.mi.mAt (i := q + 1) ht
                    have cm2 := m5.mi.mAt (i := q) (by omega)
                    have i1 : (0 : Int) < ((q + 1 : Nat) : Int) := by omega
                    have i2 : ((q + 1 : Nat) : Int) < (n : Int) := by omega
                    have i3 : (q : Int) < (n : Int) := by omega
                    have wq : IntKind.i64.wrap (((q + 1 : Nat) : Int) - 1) = (q : Int) := by rw [IntKind.wrap_i64]; omega
                    have wq' : (((q + 1 : Nat) : Int) - 1) = (q : Int) := by omega
                    have HM := hide (lmsB_iff (n := n) (B := B) (q + 1))
                    clear ht0
                    cases hb1 : B (q + 1) with
                    | false =>
                      rw [hb1] at cm1
                      have HP' : Hid (Plc n S B (fun p => p) (q + 1) sa at_ ∧ ∀ u, u < n → PlcO n S B (fun p => p) (q + 1) sa u) := ⟨plc_skip HP.out.1 (fun p hp e => by
                        subst e
                        have := hp.2.2.1
                        rw [hb1] at this; cases this), fun u hu => plco_skip (HP.out.2 u hu)⟩
                      clear HP HM hb1
                      go_wp2_with fail
                      go_roundw
                      case rel => exact ⟨q, sa, at_, by omega, rfl, m5, HP'⟩
                      case measure => first | (simp [intOf]; done) | (simp [intOf]; omega)
                    | true =>
                      cases hb2 : B q with
                      | true =>
                        rw [hb1] at cm1
                        rw [hb2] at cm2
                        have HP' : Hid (Plc n S B (fun p => p) (q + 1) sa at_ ∧ ∀ u, u < n → PlcO n S B (fun p => p) (q + 1) sa u) := ⟨plc_skip HP.out.1 (fun p hp e => by
                          subst e
                          have := hp.2.2.2
                          rw [Nat.add_sub_cancel, hb2] at this; cases this), fun u hu => plco_skip (HP.out.2 u hu)⟩
                        clear HP HM hb1 hb2
                        go_wp2_with fail
                        go_roundw
                        case rel => exact ⟨q, sa, at_, by omega, rfl, m5, HP'⟩
                        case measure => first | (simp [intOf]; done) | (simp [intOf]; omega)
                      | false =>
                        rw [hb1] at cm1
                        rw [hb2] at cm2
                        have hL : LMS n B (q + 1) := ⟨by omega, ht, hb1, by rw [Nat.add_sub_cancel]; exact hb2⟩
                        obtain ⟨hat1, hat, hpp⟩ := plc_put (fun p q _ _ e => e) HP.out.1 hL rfl
                        have hpo : ∀ u, u < n → PlcO n S B (fun p => p) (q + 1) (upd sa (rr n S B (fun p => p) (q + 1)) ((q + 1 : Nat) : Int)) u := fun u hu => plco_put (HP.out.2 u hu) hL rfl
                        have hSj := hSk (q + 1) ht
                        have cs := m5.mi.sAt (i := q + 1) ht
                        have ctt := m5.mi.tAt hSj
                        have cb2 := m5.mi.b.t
                        obtain ⟨x, hx⟩ : ∃ x, S (q + 1) = x := ⟨_, rfl⟩
                        obtain ⟨t0, ht0⟩ : ∃ t0, rr n S B (fun p => p) (q + 1) = t0 := ⟨_, rfl⟩
                        rw [ht0] at hat hat1 hpp hpo
                        rw [hat1] at ctt
                        rw [hx] at hpp hSj cs ctt
                        have HP' := hide (And.intro hpp hpo)
                        have f2 := m5.mi.ft x
                        have ma := (m5.setT dj hSj t0).drew
                        have HC := hide hx
                        clear HP HM hb1 hb2 hL hpp hpo hx hat1 ht0
                        have i5 : (x : Int) < (k : Int) := by omega
                        have i6 : (t0 : Int) < (n : Int) := by omega
                        have ec : (((t0 + 1 : Nat)) : Int) = (t0 : Int) + 1 := by omega
                        rw [ec] at ctt
                        clear ec
                        go_wp2_with fail
                        go_region
                        go_wp2_with fail
                        clear cs ctt cb2 f2 cm1 cm2 m5
                        have cs := ma.mi.sAt (i := q + 1) ht
                        have ctt := ma.mi.tAt hSj
                        rw [upd_same] at ctt
                        have ca := ma.mi.aAt hat
                        have cb2 := ma.mi.b.t
                        have f1 := ma.mi.fa (ao + t0)
                        rw [HC.out] at cs
                        generalize (wr.setCell ⟨gt, x, none⟩ (.int .i32 (t0 : Int))).drew = w7 at *
                        have mb2 := (ma.setA dj hat ((q + 1 : Nat) : Int)).drew
                        clear ma
                        go_region
                        go_wp2_with fail
                        go_roundw
                        case rel =>
                          have eq1 : ((q + 1 : Nat) : Int) = (q : Int) + 1 := by omega
                          rw [eq1] at mb2 HP'
                          exact ⟨q, _, _, by omega, rfl, mb2, HP'⟩
                        case measure => first | (simp [intOf]; done) | (simp [intOf]; omega)
      · obtain ⟨q, rfl⟩ : ∃ q, t = q + 1 := ⟨t - 1, by omega⟩
        have ep : (((q + 1 : Nat)) : Int) - 1 = (q : Int) := by omega
        rw [ep]
        clear ep ht0
        have hs1 := h4.ct.up.rdS hP
        have cs1 := hs1 q (by omega)
        have cs2 := hs1 (q + 1) (by omega)
        have cm1 := h4.m.at0 (i := q) (by omega)
        have cm2 := h4.m.at0 (i := q + 1) (by omega)
        have fm1 := h4.fm q
        clear hs1
        simp only [] at cs1 cs2
        have i1 : (q : Int) + 1 < (n : Int) := by omega
        have i2 : (q : Int) < (n : Int) := by omega
        have wq : IntKind.i64.wrap ((q : Int) + 1) = ((q + 1 : Nat) : Int) := by rw [IntKind.wrap_i64]; omega
        rcases Nat.lt_trichotomy (S q) (S (q + 1)) with hlt | heq | hgt
        · have HE := hide hlt
          have b1 : (((S q : Nat) : Int)) < (((S (q + 1) : Nat)) : Int) := by omega
          have b1' : decide ((((S q : Nat) : Int)) < (((S (q + 1) : Nat)) : Int)) = true := decide_eq_true b1
          have h5 := (h4.set (i := q) (by omega) true).drew
          have HT' := hide (ty_step HT.out (by omega) (v := true) (by simp; exact .inl hlt))
          clear HT h4 hlt
          generalize S q = x1 at *
          generalize S (q + 1) = x2 at *
          go_wp2_with fail
          go_region
          go_wp2_with fail
          go_roundw
          case rel => exact ⟨q, _, by omega, rfl, h5, HT'.out⟩
          case measure => first | (simp [intOf]; done) | (simp [intOf]; omega)
        · have hb1 : decide ((((S q : Nat) : Int)) < (((S (q + 1) : Nat)) : Int)) = false := decide_eq_false (by omega)
          have hb2 : ((((S q : Nat) : Int)) == (((S (q + 1) : Nat)) : Int)) = true := by simp; omega
          have hb3 : (((S q : Nat) : Int)) = (((S (q + 1) : Nat)) : Int) := by omega
          have h5 := (h4.set (i := q) (by omega) (B (q + 1))).drew
          have HT' := hide (ty_step HT.out (by omega) (v := B (q + 1)) (by simp [heq]))
          clear HT h4 heq
          obtain ⟨bv, hbv⟩ : ∃ z, B (q + 1) = z := ⟨_, rfl⟩
          rw [hbv] at h5 HT' cm2
          clear hbv
          rw [hb3] at cs1 hb1 hb2
          clear hb3
          generalize S (q + 1) = x2 at *
          go_wp2_with fail
          go_region
          go_wp2_with fail
          go_roundw
          case rel => exact ⟨q, _, by omega, rfl, h5, HT'.out⟩
          case measure => first | (simp [intOf]; done) | (simp [intOf]; omega)
        · have hb1 : ¬ (((S q : Nat) : Int)) < (((S (q + 1) : Nat)) : Int) := by omega
          have hb2 : ¬ (((S q : Nat) : Int)) = (((S (q + 1) : Nat)) : Int) := by omega
          have h5 := (h4.set (i := q) (by omega) false).drew
          have HT' := hide (ty_step HT.out (by omega) (v := false) (by simp; omega))
          clear HT h4 hgt
          generalize S q = x1 at *
          generalize S (q + 1) = x2 at *
          have hb4 : x2 ≤ x1 := by omega
          have hb5 : ¬ x1 = x2 := by omega
          have hb6 : ¬ x1 < x2 := by omega
          have hb7 : (x2 : Int) ≤ (x1 : Int) := by omega
          clear hb1
          have hb1 : decide ((x1 : Int) < (x2 : Int)) = false := decide_eq_false (by omega)
          have hb8 : decide (x1 < x2) = false := decide_eq_false (by omega)
          have hb9 : ((x1 : Int) == (x2 : Int)) = false := by simp; omega
          have hb10 : (x1 == x2) = false := by simp; omega
          go_wp2_with fail
          go_region
          go_wp2_with fail
          go_roundw
          case rel => exact ⟨q, _, by omega, rfl, h5, HT'.out⟩
          case measure => first | (simp [intOf]; done) | (simp [intOf]; omega)
end Go.Proofs.Qxb6606046a
