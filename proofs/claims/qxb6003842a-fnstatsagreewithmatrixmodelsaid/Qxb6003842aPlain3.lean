import Derived.Test.Qxb6003842aPlain
set_option linter.unusedVariables false
set_option linter.unusedSimpArgs false
namespace Go.Proofs.Qxb6003842a

/-! Ranks of roots, sizes of components, and the state of the search. -/
def rk (R : List Nat) (r : Nat) : Nat := ((List.range r).filter (fun t => R.getD t 0 == t)).length
def cnt (n : Nat) (R : List Nat) (r : Nat) : Nat := ((List.range n).filter (fun v => R.getD v 0 == r)).length

theorem rk_succ (R : List Nat) (s : Nat) : rk R (s + 1) = rk R s + if R.getD s 0 = s then 1 else 0 := by
  unfold rk
  rw [List.range_succ, List.filter_append]
  by_cases h : R.getD s 0 = s
  · rw [if_pos h]
    have : (R.getD s 0 == s) = true := by simpa using h
    simp only [List.filter_cons, this, List.length_append, if_true]; rfl
  · rw [if_neg h]
    have : (R.getD s 0 == s) = false := by simpa using h
    simp only [List.filter_cons, this, List.length_append]; rfl
theorem rk_le (R : List Nat) (s : Nat) : rk R s ≤ s := by
  unfold rk
  have := List.length_filter_le (fun t => R.getD t 0 == t) (List.range s)
  simpa using this
theorem rk_mono (R : List Nat) {r s : Nat} (h : r ≤ s) : rk R r ≤ rk R s := by
  induction s with
  | zero => rw [show r = 0 by omega]; exact Nat.le_refl _
  | succ s ih =>
    by_cases e : r = s + 1
    · rw [e]; exact Nat.le_refl _
    · have := ih (by omega); rw [rk_succ]; omega
theorem rk_lt (R : List Nat) {r s : Nat} (h : r < s) (hr : R.getD r 0 = r) : rk R r < rk R s := by
  have h1 := rk_mono R (show r + 1 ≤ s from h)
  rw [rk_succ, if_pos hr] at h1
  omega

/-- One element more is counted. -/
theorem filter_add (n : Nat) (p q : Nat → Bool) (x : Nat) (hx : x < n) (hp : p x = false) (hq : ∀ t, q t = (p t || t == x)) :
    ((List.range n).filter q).length = ((List.range n).filter p).length + 1 := by
  induction n with
  | zero => omega
  | succ n ih =>
    rw [List.range_succ, List.filter_append, List.filter_append, List.length_append, List.length_append]
    by_cases e : x = n
    · subst e
      have h1 : (List.range x).filter q = (List.range x).filter p := by
        apply List.filter_congr
        intro t ht
        have : t ≠ x := by have := List.mem_range.1 ht; omega
        rw [hq t]; simp [this]
      have h2 : q x = true := by rw [hq x]; simp
      rw [h1]
      simp [List.filter_cons, h2, hp]
    · have h2 : q n = p n := by rw [hq n]; simp [show n ≠ x by omega]
      rw [ih (by omega)]
      simp only [List.filter_cons, h2, List.filter_nil]
      omega

def QOk (n : Nat) (R : List Nat) (s : Nat) (Q : List Nat) : Prop := Q.Nodup ∧ ∀ x, x ∈ Q → x < n ∧ R.getD x 0 = s

theorem qlen {n : Nat} (Q : List Nat) (hd : Q.Nodup) (hl : ∀ x, x ∈ Q → x < n) : Q.length = ((List.range n).filter (fun v => decide (v ∈ Q))).length := by
  induction Q with
  | nil =>
    have : (List.range n).filter (fun v => decide (v ∈ ([] : List Nat))) = [] := List.filter_eq_nil_iff.2 (by intro a _; simp)
    rw [this]
  | cons x Q ih =>
    have hx := List.nodup_cons.1 hd
    have h1 := ih hx.2 (fun y hy => hl y (List.mem_cons_of_mem _ hy))
    have h2 := filter_add n (fun v => decide (v ∈ Q)) (fun v => decide (v ∈ x :: Q)) x (hl x (by simp)) (by simpa using hx.1) (by
      intro t
      simp only [List.mem_cons]
      by_cases e : t = x <;> by_cases f : t ∈ Q <;> simp [e, f])
    rw [h2, ← h1]
    simp

theorem qlen_le {n : Nat} {R : List Nat} {s : Nat} {Q : List Nat} (h : QOk n R s Q) : Q.length ≤ n := by
  rw [qlen Q h.1 (fun x hx => (h.2 x hx).1)]
  have := List.length_filter_le (fun v => decide (v ∈ Q)) (List.range n)
  simpa using this

theorem qok_one {n : Nat} {R : List Nat} {s : Nat} (hs : s < n) (hr : R.getD s 0 = s) : QOk n R s [s] := ⟨by simp, by intro x hx; simp at hx; subst hx; exact ⟨hs, hr⟩⟩
theorem qok_push {n : Nat} {R : List Nat} {s v : Nat} {Q : List Nat} (h : QOk n R s Q) (hv : v < n) (hr : R.getD v 0 = s) (hn : v ∉ Q) : QOk n R s (Q ++ [v]) := by
  refine ⟨?_, ?_⟩
  · rw [List.nodup_append]
    refine ⟨h.1, by simp, ?_⟩
    intro a ha b hb
    simp at hb
    subst hb
    intro e
    subst e
    exact hn ha
  · intro x hx
    rw [List.mem_append] at hx
    rcases hx with hx | hx
    · exact h.2 x hx
    · simp at hx; subst hx; exact ⟨hv, hr⟩
theorem qok_cnt {n : Nat} {R : List Nat} {s : Nat} {Q : List Nat} (h : QOk n R s Q) (hall : ∀ v, v < n → R.getD v 0 = s → v ∈ Q) : Q.length = cnt n R s := by
  rw [qlen Q h.1 (fun x hx => (h.2 x hx).1)]
  unfold cnt
  congr 1
  apply List.filter_congr
  intro t ht
  have htn := List.mem_range.1 ht
  rw [Bool.eq_iff_iff]
  simp only [decide_eq_true_eq, beq_iff_eq]
  exact ⟨fun hq => (h.2 t hq).2, fun hr => hall t htn hr⟩

/-- The labels: what lies in components of lesser roots has its rank; what lies in the queue has the rank of s; else -1. -/
def LabS (n : Nat) (R : List Nat) (s : Nat) (Q : List Nat) (L : List Int) : Prop :=
  L.length = n ∧ ∀ v, v < n → L.getD v 0 = if R.getD v 0 < s then (rk R (R.getD v 0) : Int) else if v ∈ Q then (rk R s : Int) else -1

theorem getD_setI (L : List Int) (i j : Nat) (x : Int) : (L.set i x).getD j 0 = if i = j ∧ i < L.length then x else L.getD j 0 := by
  simp only [List.getD_eq_getElem?_getD, List.getElem?_set]
  by_cases h : i = j
  · subst h
    by_cases h2 : i < L.length
    · simp [h2]
    · simp [h2]
  · simp [h]

theorem lab_zero (n : Nat) (R : List Nat) (L : List Int) (hl : L.length = n) (h : ∀ t, t < n → L.getD t 0 = -1) : LabS n R 0 [] L := by
  refine ⟨hl, fun v hv => ?_⟩
  rw [if_neg (by omega), if_neg (by simp), h v hv]

theorem root_idem {n : Nat} {M : List Bool} {R : List Nat} (hR : RootsOk n M R) {v : Nat} (hv : v < n) : R.getD (R.getD v 0) 0 = R.getD v 0 :=
  (hR.2.2 v _ hv (hR.2.1 v hv).2).symm

theorem lab_skip {n : Nat} {M : List Bool} {R : List Nat} (hR : RootsOk n M R) {s : Nat} {L : List Int} (h : LabS n R s [] L) (hs : R.getD s 0 ≠ s) : LabS n R (s + 1) [] L := by
  refine ⟨h.1, fun v hv => ?_⟩
  rw [h.2 v hv]
  have : R.getD v 0 ≠ s := fun e => hs (by have := root_idem hR hv; rw [e] at this; exact this)
  by_cases h1 : R.getD v 0 < s
  · rw [if_pos h1, if_pos (by omega)]
  · have h2 : ¬ R.getD v 0 < s + 1 := by omega
    rw [if_neg h1, if_neg h2]
    simp

theorem lab_push {n : Nat} {R : List Nat} {s v : Nat} {Q : List Nat} {L : List Int} (h : LabS n R s Q L) (hv : v < n) (hr : R.getD v 0 = s) : LabS n R s (Q ++ [v]) (L.set v (rk R s)) := by
  refine ⟨by simpa using h.1, fun u hu => ?_⟩
  rw [getD_setI]
  by_cases e : v = u
  · subst e
    rw [if_pos ⟨rfl, by rw [h.1]; exact hv⟩, if_neg (by omega), if_pos (by simp)]
  · rw [if_neg (by simp [e]), h.2 u hu]
    have : (u ∈ Q ++ [v]) ↔ u ∈ Q := by simp [Ne.symm e]
    simp only [this]

theorem lab_done {n : Nat} {R : List Nat} {s : Nat} {Q : List Nat} {L : List Int} (h : LabS n R s Q L) (hq : QOk n R s Q) (hall : ∀ v, v < n → R.getD v 0 = s → v ∈ Q) : LabS n R (s + 1) [] L := by
  refine ⟨h.1, fun v hv => ?_⟩
  rw [h.2 v hv]
  by_cases h1 : R.getD v 0 < s
  · rw [if_pos h1, if_pos (by omega)]
  · rw [if_neg h1]
    by_cases e : R.getD v 0 = s
    · rw [if_pos (hall v hv e), if_pos (by omega), e]
    · have hnq : v ∉ Q := fun hm => e (hq.2 v hm).2
      rw [if_neg hnq, if_neg (by omega)]
      simp

theorem lab_neg {n : Nat} {R : List Nat} {s v : Nat} {Q : List Nat} {L : List Int} (h : LabS n R s Q L) (hv : v < n) (hr : ¬ R.getD v 0 < s) : (v ∉ Q → L.getD v 0 = -1) ∧ (v ∈ Q → L.getD v 0 = (rk R s : Int)) := by
  rw [h.2 v hv, if_neg hr]
  exact ⟨fun hn => if_neg hn, fun hn => if_pos hn⟩

def SzOk (n : Nat) (R : List Nat) (s : Nat) (Z : List Nat) : Prop := Z.length = rk R s ∧ ∀ r, r < s → R.getD r 0 = r → Z.getD (rk R r) 0 = cnt n R r
theorem sz_zero (n : Nat) (R : List Nat) : SzOk n R 0 [] := ⟨by simp [rk], fun r hr => by omega⟩
theorem sz_skip {n : Nat} {R : List Nat} {s : Nat} {Z : List Nat} (h : SzOk n R s Z) (hs : R.getD s 0 ≠ s) : SzOk n R (s + 1) Z := by
  refine ⟨by rw [rk_succ, if_neg hs]; exact h.1, fun r hr hrr => h.2 r ?_ hrr⟩
  by_cases e : r = s
  · subst e; exact absurd hrr hs
  · omega
theorem sz_push {n : Nat} {R : List Nat} {s : Nat} {Z : List Nat} (h : SzOk n R s Z) (hs : R.getD s 0 = s) {q : Nat} (hq : q = cnt n R s) : SzOk n R (s + 1) (Z ++ [q]) := by
  refine ⟨by rw [rk_succ, if_pos hs]; simp [h.1], fun r hr hrr => ?_⟩
  by_cases e : r = s
  · subst e
    rw [List.getD_eq_getElem?_getD, List.getElem?_append_right (by rw [h.1]; exact Nat.le_refl _), h.1]
    simp [hq]
  · have h1 := rk_lt R (show r < s by omega) hrr
    rw [List.getD_eq_getElem?_getD, List.getElem?_append_left (by rw [h.1]; exact h1), ← List.getD_eq_getElem?_getD]
    exact h.2 r (by omega) hrr

/-- The first h of the queue have all their neighbours in it. -/
def Clo (n : Nat) (M : List Bool) (Q : List Nat) (h : Nat) : Prop := ∀ t, t < h → ∀ v, v < n → M.getD (Q.getD t 0 * n + v) false = true → v ∈ Q

theorem clo_all {n : Nat} {M : List Bool} (hs : Symm n M) {R : List Nat} (hR : RootsOk n M R) {s : Nat} {Q : List Nat} (hsn : s < n) (hm : s ∈ Q) (hc : Clo n M Q Q.length) : ∀ v, v < n → R.getD v 0 = s → v ∈ Q := by
  intro v hv hr
  have h1 : Conn n M s v := by
    have := (hR.2.1 v hv).2
    rw [hr] at this
    exact this.symm hs
  refine h1 (fun x => x ∈ Q) hm (fun x y hx hy hxq hb => ?_)
  obtain ⟨t, ht, he⟩ := List.mem_iff_getElem.1 hxq
  refine hc t ht y hy ?_
  have e : Q.getD t 0 = x := by rw [List.getD_eq_getElem?_getD, List.getElem?_eq_getElem ht, Option.getD_some, he]
  rw [e]; exact hb

theorem getD_app (Q : List Nat) (v t : Nat) (ht : t < Q.length) : (Q ++ [v]).getD t 0 = Q.getD t 0 := by
  rw [List.getD_eq_getElem?_getD, List.getElem?_append_left ht, ← List.getD_eq_getElem?_getD]

theorem clo_push {n : Nat} {M : List Bool} {Q : List Nat} {h : Nat} (hc : Clo n M Q h) (hl : h ≤ Q.length) (v : Nat) : Clo n M (Q ++ [v]) h := by
  intro t ht u hu hb
  rw [getD_app Q v t (by omega)] at hb
  exact List.mem_append_left _ (hc t ht u hu hb)

/-- The neighbours of the one at h, as far as k, lie in the queue. -/
def CloK (n : Nat) (M : List Bool) (Q : List Nat) (u k : Nat) : Prop := ∀ t, t < k → (nbTo n M u n).getD t 0 ∈ Q
theorem clok_succ {n : Nat} {M : List Bool} {Q : List Nat} {u k : Nat} (h : CloK n M Q u k) (hm : (nbTo n M u n).getD k 0 ∈ Q) : CloK n M Q u (k + 1) := by
  intro t ht
  by_cases e : t = k
  · subst e; exact hm
  · exact h t (by omega)
theorem clok_push {n : Nat} {M : List Bool} {Q : List Nat} {u k : Nat} (h : CloK n M Q u k) (v : Nat) : CloK n M (Q ++ [v]) u k := fun t ht => List.mem_append_left _ (h t ht)
theorem clo_succ {n : Nat} {M : List Bool} {Q : List Nat} {h : Nat} (hc : Clo n M Q h) (hk : CloK n M Q (Q.getD h 0) (nbTo n M (Q.getD h 0) n).length) : Clo n M Q (h + 1) := by
  intro t ht v hv hb
  by_cases e : t = h
  · subst e
    have hm := (mem_nbTo n M (Q.getD t 0) n v).2 ⟨hv, hb⟩
    obtain ⟨j, hj, he⟩ := List.mem_iff_getElem.1 hm
    have := hk j hj
    have e : (nbTo n M (Q.getD t 0) n).getD j 0 = v := by rw [List.getD_eq_getElem?_getD, List.getElem?_eq_getElem hj, Option.getD_some, he]
    rw [e] at this
    exact this
  · exact hc t (by omega) v hv hb

theorem root_edge {n : Nat} {M : List Bool} {R : List Nat} (hR : RootsOk n M R) {u v : Nat} (hu : u < n) (hv : v < n) (hb : M.getD (u * n + v) false = true) : R.getD u 0 = R.getD v 0 :=
  hR.2.2 u v hu (Conn.edge hu hv hb)

/-- Of each node there is a least one that it is connected with. -/
theorem least_ex (p : Nat → Prop) : ∀ v, p v → ∃ m, m ≤ v ∧ p m ∧ ∀ k, k < m → ¬ p k := by
  intro v
  induction v using Nat.strongRecOn with
  | ind v ih =>
    intro hv
    by_cases h : ∃ k, k < v ∧ p k
    · obtain ⟨k, hk, hpk⟩ := h
      obtain ⟨m, hm, hp, hl⟩ := ih k hk hpk
      exact ⟨m, by omega, hp, hl⟩
    · exact ⟨v, Nat.le_refl _, hv, fun k hk hpk => h ⟨k, hk, hpk⟩⟩

theorem roots_exist {n : Nat} {M : List Bool} (hs : Symm n M) : ∃ R, RootsOk n M R := by
  have h1 : ∀ v, ∃ m, m ≤ v ∧ Conn n M v m ∧ ∀ k, k < m → ¬ Conn n M v k := fun v => least_ex (Conn n M v) v (Conn.refl n M v)
  have hf : ∃ f : Nat → Nat, ∀ v, f v ≤ v ∧ Conn n M v (f v) ∧ ∀ k, k < f v → ¬ Conn n M v k := ⟨fun v => Classical.choose (h1 v), fun v => Classical.choose_spec (h1 v)⟩
  obtain ⟨f, hf⟩ := hf
  have hg : ∀ v, v < n → ((List.range n).map f).getD v 0 = f v := by
    intro v hv
    simp [List.getD_eq_getElem?_getD, hv]
  refine ⟨(List.range n).map f, by simp, fun v hv => ?_, fun u v hu hc => ?_⟩
  · rw [hg v hv]; exact ⟨(hf v).1, (hf v).2.1⟩
  · rw [hg u hu, hg v (hc.lt hu)]
    have a1 : ¬ f v < f u := fun h => (hf u).2.2 _ h (hc.trans (hf v).2.1)
    have a2 : ¬ f u < f v := fun h => (hf v).2.2 _ h ((hc.symm hs).trans (hf u).2.1)
    omega

theorem roots_uniq {n : Nat} {M : List Bool} {R R' : List Nat} (h : RootsOk n M R) (h' : RootsOk n M R') : R = R' := by
  have key : ∀ (A B : List Nat), RootsOk n M A → RootsOk n M B → ∀ v, v < n → A.getD v 0 ≤ B.getD v 0 := by
    intro A B hA hB v hv
    have b := hB.2.1 v hv
    rw [hA.2.2 v _ hv b.2]
    exact (hA.2.1 _ (by omega)).1
  apply List.ext_getElem
  · rw [h.1, h'.1]
  · intro i h1 h2
    have hi : i < n := by rw [← h.1]; exact h1
    have e1 := key R R' h h' i hi
    have e2 := key R' R h' h i hi
    simp only [List.getD_eq_getElem?_getD, List.getElem?_eq_getElem h1, List.getElem?_eq_getElem h2, Option.getD_some] at e1 e2
    omega

/-- The neighbours of u in the one great list. -/
theorem adj_seg (n : Nat) (M : List Bool) (u : Nat) : ∀ i, u < i → ∀ k, k < (nbTo n M u n).length → (adjTo n M i).getD ((adjTo n M u).length + k) 0 = (nbTo n M u n).getD k 0 := by
  intro i
  induction i with
  | zero => intro h; omega
  | succ i ih =>
    intro hui k hk
    simp only [adjTo]
    by_cases e : u = i
    · subst e
      rw [List.getD_eq_getElem?_getD, List.getElem?_append_right (by omega), ← List.getD_eq_getElem?_getD]
      congr 1
      omega
    · have h1 := ih (by omega) k hk
      have hl : (adjTo n M u).length + (nbTo n M u n).length ≤ (adjTo n M i).length := by
        have : ∀ j, u < j → (adjTo n M u).length + (nbTo n M u n).length ≤ (adjTo n M j).length := by
          intro j
          induction j with
          | zero => intro h; omega
          | succ j ihj =>
            intro hj
            by_cases e2 : u = j
            · subst e2; simp [adjTo]
            · have := ihj (by omega); simp only [adjTo, List.length_append]; omega
        exact this i (by omega)
      rw [List.getD_eq_getElem?_getD, List.getElem?_append_left (by omega), ← List.getD_eq_getElem?_getD]
      exact h1
theorem adj_len_succ (n : Nat) (M : List Bool) (u : Nat) : (adjTo n M (u + 1)).length = (adjTo n M u).length + (nbTo n M u n).length := by simp [adjTo]
theorem adj_len_mono (n : Nat) (M : List Bool) {i j : Nat} (h : i ≤ j) : (adjTo n M i).length ≤ (adjTo n M j).length := by
  induction j with
  | zero => rw [show i = 0 by omega]; exact Nat.le_refl _
  | succ j ih =>
    by_cases e : i = j + 1
    · rw [e]; exact Nat.le_refl _
    · have := ih (by omega); simp only [adjTo, List.length_append]; omega

end Go.Proofs.Qxb6003842a
