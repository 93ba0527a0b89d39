set_option linter.unusedVariables false
set_option linter.unusedSimpArgs false
namespace Go.Proofs.Qxb6003842a

/-! Plain laws on lists and numbers. -/
def Symm (n : Nat) (M : List Bool) : Prop := ∀ i j, i < n → j < n → M.getD (i * n + j) false = M.getD (j * n + i) false

theorem idx_lt {n u v : Nat} (hu : u < n) (hv : v < n) : u * n + v < n * n := by
  have h1 : (u + 1) * n ≤ n * n := Nat.mul_le_mul_right n hu
  rw [Nat.add_mul] at h1
  omega

theorem idx_inj {n u v i j : Nat} (hv : v < n) (hj : j < n) (h : u * n + v = i * n + j) : u = i ∧ v = j := by
  have h1 : (u * n + v) / n = u := by rw [Nat.mul_comm, Nat.mul_add_div (by omega)]; simp [Nat.div_eq_of_lt hv]
  have h2 : (i * n + j) / n = i := by rw [Nat.mul_comm, Nat.mul_add_div (by omega)]; simp [Nat.div_eq_of_lt hj]
  have h3 : u = i := by rw [← h1, h, h2]
  subst h3
  exact ⟨rfl, by omega⟩

theorem nn_le {n : Nat} (h : n ≤ 200) : n * n ≤ 40000 := Nat.mul_le_mul h h

theorem getD_set (L : List Bool) (i j : Nat) (x : Bool) : (L.set i x).getD j false = if i = j ∧ i < L.length then x else L.getD j false := by
  simp only [List.getD_eq_getElem?_getD, List.getElem?_set]
  by_cases h : i = j
  · subst h
    by_cases h2 : i < L.length
    · simp [h2]
    · simp [h2]
  · simp [h]

theorem symm_set {n : Nat} {M : List Bool} (hs : Symm n M) (hl : M.length = n * n) {u v : Nat} (hu : u < n) (hv : v < n) : Symm n ((M.set (u * n + v) true).set (v * n + u) true) := by
  intro i j hi hj
  have e1 := idx_lt hu hv
  have e2 := idx_lt hv hu
  rw [getD_set, getD_set, getD_set, getD_set]
  simp only [List.length_set, hl, e1, e2, and_true]
  have h1 : (v * n + u = i * n + j) ↔ (v = i ∧ u = j) := ⟨fun h => idx_inj hu hj h, fun ⟨a, b⟩ => by rw [a, b]⟩
  have h2 : (u * n + v = i * n + j) ↔ (u = i ∧ v = j) := ⟨fun h => idx_inj hv hj h, fun ⟨a, b⟩ => by rw [a, b]⟩
  have h3 : (v * n + u = j * n + i) ↔ (v = j ∧ u = i) := ⟨fun h => idx_inj hu hi h, fun ⟨a, b⟩ => by rw [a, b]⟩
  have h4 : (u * n + v = j * n + i) ↔ (u = j ∧ v = i) := ⟨fun h => idx_inj hv hi h, fun ⟨a, b⟩ => by rw [a, b]⟩
  simp only [h1, h2, h3, h4]
  rw [hs i j hi hj]
  by_cases a : u = i ∧ v = j
  · obtain ⟨rfl, rfl⟩ := a; simp
  · by_cases b : u = j ∧ v = i
    · obtain ⟨rfl, rfl⟩ := b; simp
    · have a' : ¬ (v = j ∧ u = i) := fun h => a ⟨h.2, h.1⟩
      have b' : ¬ (v = i ∧ u = j) := fun h => b ⟨h.2, h.1⟩
      simp [a, b, a', b']

theorem symm_rep (n m : Nat) : Symm n (List.replicate m false) := by
  intro i j _ _
  simp [List.getD_eq_getElem?_getD, List.getElem?_replicate]
  by_cases h : i * n + j < m <;> by_cases h' : j * n + i < m <;> simp [h, h']

/-! The adjacency lists of a matrix. -/
def nbTo (n : Nat) (M : List Bool) (i k : Nat) : List Nat := (List.range k).filter (fun j => M.getD (i * n + j) false)
theorem nbTo_succ (n : Nat) (M : List Bool) (i k : Nat) : nbTo n M i (k + 1) = nbTo n M i k ++ (if M.getD (i * n + k) false then [k] else []) := by
  unfold nbTo
  rw [List.range_succ, List.filter_append]
  by_cases h : M.getD (i * n + k) false = true <;> simp [List.filter_cons, h]
theorem nbTo_len (n : Nat) (M : List Bool) (i k : Nat) : (nbTo n M i k).length ≤ k := by
  unfold nbTo
  have := List.length_filter_le (fun j => M.getD (i * n + j) false) (List.range k)
  simpa using this
def adjTo (n : Nat) (M : List Bool) : Nat → List Nat
  | 0 => []
  | i + 1 => adjTo n M i ++ nbTo n M i n
theorem adjTo_len (n : Nat) (M : List Bool) (i : Nat) : (adjTo n M i).length ≤ i * n := by
  induction i with
  | zero => simp [adjTo]
  | succ i ih =>
    simp only [adjTo, List.length_append]
    have := nbTo_len n M i n
    rw [Nat.add_mul]
    omega
theorem mem_nbTo (n : Nat) (M : List Bool) (i k j : Nat) : j ∈ nbTo n M i k ↔ j < k ∧ M.getD (i * n + j) false = true := by
  simp [nbTo]
theorem mem_adjTo (n : Nat) (M : List Bool) (i j : Nat) (h : j ∈ adjTo n M i) : j < n := by
  induction i with
  | zero => simp [adjTo] at h
  | succ i ih =>
    simp only [adjTo, List.mem_append] at h
    rcases h with h | h
    · exact ih h
    · exact ((mem_nbTo n M i n j).1 h).1

theorem getD_setN (L : List Nat) (i j : Nat) (x : Nat) : (L.set i x).getD j 0 = if i = j ∧ i < L.length then x else L.getD j 0 := by
  simp only [List.getD_eq_getElem?_getD, List.getElem?_set]
  by_cases h : i = j
  · subst h
    by_cases h2 : i < L.length
    · simp [h2]
    · simp [h2]
  · simp [h]

theorem fill_set {L : List Nat} {f : Nat → Nat} {i : Nat} (h : ∀ t, t < i → L.getD t 0 = f t) (hi : i < L.length) (x : Nat) (hx : x = f i) : ∀ t, t < i + 1 → (L.set i x).getD t 0 = f t := by
  intro t ht
  rw [getD_setN]
  by_cases e : i = t
  · subst e; rw [if_pos ⟨rfl, hi⟩, hx]
  · rw [if_neg (by simp [e])]; exact h t (by omega)

/-- The offsets as far as i. -/
def OffTo (n : Nat) (M : List Bool) (O : List Nat) (i : Nat) : Prop := O.length = n + 1 ∧ ∀ t, t ≤ i → O.getD t 0 = (adjTo n M t).length
theorem offTo_zero (n : Nat) (M : List Bool) : OffTo n M (List.replicate (n + 1) 0) 0 := by
  refine ⟨by simp, fun t ht => ?_⟩
  obtain rfl : t = 0 := by omega
  simp [adjTo]
theorem offTo_succ {n : Nat} {M : List Bool} {O : List Nat} {i : Nat} (h : OffTo n M O i) (hi : i < n) : OffTo n M (O.set (i + 1) (adjTo n M (i + 1)).length) (i + 1) := by
  refine ⟨by simpa using h.1, fun t ht => ?_⟩
  rw [getD_setN]
  by_cases e : i + 1 = t
  · subst e; simp [h.1]; omega
  · rw [if_neg (by simp [e])]; exact h.2 t (by omega)

/-! Union and find. -/
def findF : Nat → List Nat → Nat → Nat
  | 0, _, x => x
  | f+1, P, x => if P.getD x 0 = x then x else findF f P (P.getD x 0)

def Par (n : Nat) (P : List Nat) : Prop := P.length = n ∧ ∀ i, i < n → P.getD i 0 ≤ i
def rt (P : List Nat) (x : Nat) : Nat := findF (x + 1) P x

theorem findF_fuel {n : Nat} {P : List Nat} (hP : Par n P) : ∀ (x : Nat), x < n → ∀ f g, x ≤ f → x ≤ g → findF (f + 1) P x = findF (g + 1) P x := by
  intro x
  induction x using Nat.strongRecOn with
  | ind x ih =>
    intro hx f g hf hg
    by_cases he : P.getD x 0 = x
    · simp only [findF]; rw [if_pos he, if_pos he]
    · have hl := hP.2 x hx
      have e1 : findF (f + 1) P x = findF f P (P.getD x 0) := by rw [findF, if_neg he]
      have e2 : findF (g + 1) P x = findF g P (P.getD x 0) := by rw [findF, if_neg he]
      rw [e1, e2, show f = f - 1 + 1 by omega, show g = g - 1 + 1 by omega]
      exact ih _ (by omega) (by omega) _ _ (by omega) (by omega)

theorem rt_eq {n : Nat} {P : List Nat} (hP : Par n P) {x : Nat} (hx : x < n) : rt P x = if P.getD x 0 = x then x else rt P (P.getD x 0) := by
  unfold rt
  by_cases he : P.getD x 0 = x
  · simp only [findF]; rw [if_pos he, if_pos he]
  · have hl := hP.2 x hx
    rw [if_neg he]
    have e1 : findF (x + 1) P x = findF x P (P.getD x 0) := by rw [findF, if_neg he]
    rw [e1, show x = x - 1 + 1 by omega]
    rw [show x - 1 + 1 = x by omega]
    have := findF_fuel hP (P.getD x 0) (by omega) (x - 1) (P.getD x 0) (by omega) (by omega)
    rw [show x - 1 + 1 = x by omega] at this
    exact this

theorem rt_root {n : Nat} {P : List Nat} (hP : Par n P) : ∀ (x : Nat), x < n → rt P x ≤ x ∧ P.getD (rt P x) 0 = rt P x := by
  intro x
  induction x using Nat.strongRecOn with
  | ind x ih =>
    intro hx
    rw [rt_eq hP hx]
    by_cases he : P.getD x 0 = x
    · rw [if_pos he]; exact ⟨Nat.le_refl _, he⟩
    · have hl := hP.2 x hx
      rw [if_neg he]
      have := ih (P.getD x 0) (by omega) (by omega)
      exact ⟨by omega, this.2⟩

theorem rt_of_root {n : Nat} {P : List Nat} (hP : Par n P) {x : Nat} (hx : x < n) (h : P.getD x 0 = x) : rt P x = x := by rw [rt_eq hP hx, if_pos h]

theorem par_set {n : Nat} {P : List Nat} (hP : Par n P) {r s : Nat} (hs : s ≤ r) : Par n (P.set r s) := by
  refine ⟨by simpa using hP.1, fun i hi => ?_⟩
  rw [getD_setN]
  by_cases h : r = i ∧ r < P.length
  · rw [if_pos h]; omega
  · rw [if_neg h]; exact hP.2 i hi

theorem rt_set {n : Nat} {P : List Nat} (hP : Par n P) {r s : Nat} (hs : s < r) (hr : r < n) (hrr : P.getD r 0 = r) (hss : P.getD s 0 = s) :
    ∀ x, x < n → rt (P.set r s) x = if rt P x = r then s else rt P x := by
  have hP' := par_set hP (Nat.le_of_lt hs)
  have hsr : rt (P.set r s) s = s := rt_of_root hP' (by omega) (by rw [getD_setN, if_neg (by omega)]; exact hss)
  intro x
  induction x using Nat.strongRecOn with
  | ind x ih =>
    intro hx
    by_cases hxr : x = r
    · subst hxr
      have e : (P.set x s).getD x 0 = s := by rw [getD_setN, if_pos ⟨rfl, by rw [hP.1]; exact hx⟩]
      rw [rt_eq hP' hx, e, if_neg (by omega), hsr, rt_of_root hP hx hrr, if_pos rfl]
    · have e : (P.set r s).getD x 0 = P.getD x 0 := by rw [getD_setN, if_neg (by omega)]
      rw [rt_eq hP' hx, e, rt_eq hP hx]
      by_cases he : P.getD x 0 = x
      · rw [if_pos he, if_pos he, if_neg hxr]
      · have hl := hP.2 x hx
        rw [if_neg he, if_neg he, ih _ (by omega) (by omega)]

/-! Being connected in the graph of a matrix. -/
def Conn (n : Nat) (M : List Bool) (u v : Nat) : Prop := ∀ S : Nat → Prop, S u → (∀ x y, x < n → y < n → S x → M.getD (x * n + y) false = true → S y) → S v
theorem Conn.refl (n : Nat) (M : List Bool) (u : Nat) : Conn n M u u := fun _ h _ => h
theorem Conn.trans {n : Nat} {M : List Bool} {u v x : Nat} (h : Conn n M u v) (k : Conn n M v x) : Conn n M u x := fun S hu hc => k S (h S hu hc) hc
theorem Conn.edge {n : Nat} {M : List Bool} {u v : Nat} (hu : u < n) (hv : v < n) (h : M.getD (u * n + v) false = true) : Conn n M u v := fun S hS hc => hc u v hu hv hS h
theorem Conn.symm {n : Nat} {M : List Bool} (hs : Symm n M) {u v : Nat} (h : Conn n M u v) : Conn n M v u :=
  h (fun x => Conn n M x u) (Conn.refl n M u) (fun x y hx hy hxu hb => (Conn.edge hy hx (by rw [hs y x hy hx]; exact hb)).trans hxu)
theorem Conn.lt {n : Nat} {M : List Bool} {u v : Nat} (h : Conn n M u v) (hu : u < n) : v < n := h (fun x => x < n) hu (fun _ _ _ hy _ _ => hy)

/-- The state of the union-find in the middle of its two loops. -/
def UF (n : Nat) (M : List Bool) (P : List Nat) (i j : Nat) : Prop :=
  Par n P ∧ (∀ v, v < n → Conn n M v (rt P v)) ∧ ∀ x y, x < y → y < n → M.getD (x * n + y) false = true → (x < i ∨ (x = i ∧ y < j)) → rt P x = rt P y

theorem uf_start {n : Nat} {M : List Bool} {P : List Nat} (hl : P.length = n) (h : ∀ t, t < n → P.getD t 0 = t) : UF n M P 0 0 := by
  have hP : Par n P := ⟨hl, fun i hi => by rw [h i hi]; exact Nat.le_refl _⟩
  exact ⟨hP, fun v hv => by rw [rt_of_root hP hv (h v hv)]; exact Conn.refl _ _ _, fun x y _ _ _ h => by omega⟩

theorem uf_row {n : Nat} {M : List Bool} {P : List Nat} {i : Nat} (h : UF n M P i n) : UF n M P (i + 1) 0 :=
  ⟨h.1, h.2.1, fun x y hxy hy hb hc => h.2.2 x y hxy hy hb (by omega)⟩
theorem uf_in {n : Nat} {M : List Bool} {P : List Nat} {i : Nat} (h : UF n M P i 0) : UF n M P i (i + 1) :=
  ⟨h.1, h.2.1, fun x y hxy hy hb hc => h.2.2 x y hxy hy hb (by omega)⟩
theorem uf_skip {n : Nat} {M : List Bool} {P : List Nat} {i j : Nat} (h : UF n M P i j) (hb : M.getD (i * n + j) false = false) : UF n M P i (j + 1) := by
  refine ⟨h.1, h.2.1, fun x y hxy hy hbb hc => ?_⟩
  by_cases e : x = i ∧ y = j
  · obtain ⟨rfl, rfl⟩ := e; rw [hb] at hbb; cases hbb
  · exact h.2.2 x y hxy hy hbb (by omega)
theorem uf_same {n : Nat} {M : List Bool} {P : List Nat} {i j : Nat} (h : UF n M P i j) (he : rt P i = rt P j) : UF n M P i (j + 1) := by
  refine ⟨h.1, h.2.1, fun x y hxy hy hbb hc => ?_⟩
  by_cases e : x = i ∧ y = j
  · obtain ⟨rfl, rfl⟩ := e; exact he
  · exact h.2.2 x y hxy hy hbb (by omega)

/-- The greater root r is hung below the lesser s. -/
theorem uf_hang {n : Nat} {M : List Bool} (hs : Symm n M) {P : List Nat} {i j r s : Nat} (h : UF n M P i j) (hi : i < n) (hj : j < n) (hb : M.getD (i * n + j) false = true) (hsr : s < r)
    (hrs : (rt P i = s ∧ rt P j = r) ∨ (rt P i = r ∧ rt P j = s)) : UF n M (P.set r s) i (j + 1) := by
  obtain ⟨hP, hc, hu⟩ := h
  have hij : Conn n M i j := Conn.edge hi hj hb
  have ri := rt_root hP i hi
  have rj := rt_root hP j hj
  have hrn : r < n := by rcases hrs with ⟨a, b⟩ | ⟨a, b⟩ <;> omega
  have hrr : P.getD r 0 = r := by
    rcases hrs with ⟨a, b⟩ | ⟨a, b⟩
    · rw [← b]; exact rj.2
    · rw [← a]; exact ri.2
  have hss : P.getD s 0 = s := by
    rcases hrs with ⟨a, b⟩ | ⟨a, b⟩
    · rw [← a]; exact ri.2
    · rw [← b]; exact rj.2
  have hrsc : Conn n M r s := by
    rcases hrs with ⟨a, b⟩ | ⟨a, b⟩
    · rw [← a, ← b]; exact ((hc j hj).symm hs).trans ((hij.symm hs).trans (hc i hi))
    · rw [← a, ← b]; exact ((hc i hi).symm hs).trans (hij.trans (hc j hj))
  have hset := rt_set hP hsr hrn hrr hss
  refine ⟨par_set hP (Nat.le_of_lt hsr), fun v hv => ?_, fun x y hxy hy hbb hcc => ?_⟩
  · rw [hset v hv]
    by_cases e : rt P v = r
    · rw [if_pos e]; exact (hc v hv).trans (e ▸ hrsc)
    · rw [if_neg e]; exact hc v hv
  · rw [hset x (by omega), hset y hy]
    by_cases e : x = i ∧ y = j
    · obtain ⟨rfl, rfl⟩ := e
      rcases hrs with ⟨a, b⟩ | ⟨a, b⟩
      · rw [a, b, if_neg (by omega), if_pos rfl]
      · rw [a, b, if_pos rfl, if_neg (by omega)]
    · rw [hu x y hxy hy hbb (by omega)]

/-- What 'zzRoots' hands back: of each node the least of its component. -/
def RootsOk (n : Nat) (M : List Bool) (R : List Nat) : Prop :=
  R.length = n ∧ (∀ v, v < n → R.getD v 0 ≤ v ∧ Conn n M v (R.getD v 0)) ∧ ∀ u v, u < n → Conn n M u v → R.getD u 0 = R.getD v 0

theorem roots_ok {n : Nat} {M : List Bool} (hs : Symm n M) {P R : List Nat} (h : UF n M P n 0) (hl : R.length = n) (hR : ∀ t, t < n → R.getD t 0 = rt P t) : RootsOk n M R := by
  obtain ⟨hP, hc, hu⟩ := h
  refine ⟨hl, fun v hv => ?_, fun u v hu' hcv => ?_⟩
  · rw [hR v hv]; exact ⟨(rt_root hP v hv).1, hc v hv⟩
  · have hlt := hcv.lt hu'
    rw [hR u hu', hR v hlt]
    refine hcv (fun x => rt P u = rt P x) rfl (fun x y hx hy hxy hb => ?_)
    show rt P u = rt P y
    rw [hxy]
    rcases Nat.lt_trichotomy x y with h' | h' | h'
    · exact hu x y h' hy hb (.inl hx)
    · rw [h']
    · exact (hu y x h' hx (by rw [hs y x hy hx]; exact hb) (.inl hy)).symm

end Go.Proofs.Qxb6003842a
