set_option linter.unusedVariables false
set_option linter.unusedSimpArgs false
namespace Go.Proofs.Qxb6606046a

/-! ### Counting below n -/
def cn (n : Nat) (p : Nat → Bool) : Nat := ((List.range n).filter p).length

theorem cn_zero (p : Nat → Bool) : cn 0 p = 0 := rfl
theorem cn_succ (n : Nat) (p : Nat → Bool) : cn (n + 1) p = cn n p + if p n = true then 1 else 0 := by
  unfold cn
  rw [List.range_succ, List.filter_append, List.length_append]
  cases h : p n <;> simp [List.filter_cons, h]
theorem cn_le (n : Nat) (p : Nat → Bool) : cn n p ≤ n := by
  induction n with
  | zero => exact Nat.le_refl _
  | succ n ih => rw [cn_succ]; split <;> omega
theorem cn_congr {n : Nat} {p q : Nat → Bool} (h : ∀ t, t < n → p t = q t) : cn n p = cn n q := by
  induction n with
  | zero => rfl
  | succ n ih => rw [cn_succ, cn_succ, ih (fun t ht => h t (by omega)), h n (by omega)]
theorem cn_mono {n : Nat} {p q : Nat → Bool} (h : ∀ t, t < n → p t = true → q t = true) : cn n p ≤ cn n q := by
  induction n with
  | zero => exact Nat.le_refl _
  | succ n ih =>
    rw [cn_succ, cn_succ]
    have h1 := ih (fun t ht => h t (by omega))
    have h2 := h n (by omega)
    by_cases hp : p n = true
    · rw [if_pos hp, if_pos (h2 hp)]; omega
    · rw [if_neg hp]; omega
theorem cn_lt {n : Nat} {p q : Nat → Bool} (h : ∀ t, t < n → p t = true → q t = true) {x : Nat} (hx : x < n) (hq : q x = true) (hp : p x = false) : cn n p < cn n q := by
  induction n with
  | zero => omega
  | succ n ih =>
    rw [cn_succ, cn_succ]
    have h2 := h n (by omega)
    by_cases e : x = n
    · subst e
      have h1 := cn_mono (n := x) (p := p) (q := q) (fun t ht => h t (by omega))
      rw [if_pos hq, if_neg (by simp [hp])]; omega
    · have h1 := ih (fun t ht => h t (by omega)) (by omega)
      by_cases hpn : p n = true
      · rw [if_pos hpn, if_pos (h2 hpn)]; omega
      · rw [if_neg hpn]; omega
theorem cn_false (n : Nat) {p : Nat → Bool} (h : ∀ t, t < n → p t = false) : cn n p = 0 := by
  induction n with
  | zero => rfl
  | succ n ih => rw [cn_succ, ih (fun t ht => h t (by omega)), if_neg (by simp [h n (by omega)])]
theorem cn_true (n : Nat) {p : Nat → Bool} (h : ∀ t, t < n → p t = true) : cn n p = n := by
  induction n with
  | zero => rfl
  | succ n ih => rw [cn_succ, ih (fun t ht => h t (by omega)), if_pos (h n (by omega))]
theorem cn_full {n : Nat} {p : Nat → Bool} (h : cn n p = n) : ∀ t, t < n → p t = true := by
  intro t ht
  cases hp : p t with
  | true => rfl
  | false =>
    have := cn_lt (p := p) (q := fun _ => true) (fun _ _ _ => rfl) ht rfl hp
    rw [cn_true n (fun _ _ => rfl)] at this
    omega
theorem cn_or {n : Nat} {p q : Nat → Bool} (h : ∀ t, t < n → ¬ (p t = true ∧ q t = true)) : cn n (fun t => p t || q t) = cn n p + cn n q := by
  induction n with
  | zero => rfl
  | succ n ih =>
    rw [cn_succ, cn_succ, cn_succ, ih (fun t ht => h t (by omega))]
    have h2 := h n (by omega)
    cases hp : p n <;> cases hq : q n <;> simp [hp, hq] at h2 ⊢ <;> omega
theorem cn_add_one {n : Nat} {p q : Nat → Bool} {x : Nat} (hx : x < n) (hp : p x = false) (hq : ∀ t, t < n → q t = (p t || decide (t = x))) : cn n q = cn n p + 1 := by
  rw [cn_congr hq, cn_or (q := fun t => decide (t = x)) (by
    intro t ht ⟨h1, h2⟩
    have : t = x := by simpa using h2
    rw [this, hp] at h1
    cases h1)]
  congr 1
  have : ∀ m, x < m → cn m (fun t => decide (t = x)) = 1 := by
    intro m
    induction m with
    | zero => intro h; omega
    | succ m ih =>
      intro h
      rw [cn_succ]
      by_cases e : x = m
      · subst e
        rw [if_pos (by simp), cn_false x (by intro t ht; simp; omega)]
      · rw [if_neg (by simp; omega), ih (by omega)]
  exact this n hx

/-- A list without repeats, of numbers below n. -/
theorem nodup_cn {n : Nat} (Q : List Nat) (hd : Q.Nodup) (hl : ∀ x, x ∈ Q → x < n) : Q.length = cn n (fun v => decide (v ∈ Q)) := by
  induction Q with
  | nil => rw [cn_false n (by intro t ht; simp)]; rfl
  | cons x Q ih =>
    have hx := List.nodup_cons.1 hd
    have h1 := ih hx.2 (fun y hy => hl y (List.mem_cons_of_mem _ hy))
    have h2 := cn_add_one (n := n) (p := fun v => decide (v ∈ Q)) (q := fun v => decide (v ∈ x :: Q)) (x := x) (hl x (by simp)) (by simpa using hx.1) (by
      intro t ht
      simp only [List.mem_cons]
      by_cases e : t = x <;> by_cases f : t ∈ Q <;> simp [e, f])
    rw [h2, ← h1]
    simp

/-- An injection of the numbers below n into themselves is onto. -/
theorem inj_onto {n : Nat} {f : Nat → Nat} (hlt : ∀ x, x < n → f x < n) (hinj : ∀ x y, x < n → y < n → f x = f y → x = y) : ∀ i, i < n → ∃ x, x < n ∧ f x = i := by
  have hnd : ∀ m, m ≤ n → ((List.range m).map f).Nodup := by
    intro m
    induction m with
    | zero => intro _; simp
    | succ m ih =>
      intro hm
      rw [List.range_succ, List.map_append, List.nodup_append]
      refine ⟨ih (by omega), by simp, ?_⟩
      intro a ha b hb e
      obtain ⟨y, hy, rfl⟩ := List.mem_map.1 ha
      simp only [List.map_cons, List.map_nil, List.mem_singleton] at hb
      have hy' := List.mem_range.1 hy
      have := hinj y m (by omega) (by omega) (e.trans hb)
      omega
  have h := nodup_cn (n := n) _ (hnd n (Nat.le_refl _)) (by
    intro x hx
    obtain ⟨y, hy, rfl⟩ := List.mem_map.1 hx
    exact hlt y (List.mem_range.1 hy))
  rw [List.length_map, List.length_range] at h
  intro i hi
  have := cn_full h.symm i hi
  have := of_decide_eq_true this
  obtain ⟨y, hy, e⟩ := List.mem_map.1 this
  exact ⟨y, List.mem_range.1 hy, e⟩

/-! ### The order of lists -/
def ll : List Nat → List Nat → Bool
  | [], [] => false
  | [], _ :: _ => true
  | _ :: _, [] => false
  | a :: l, b :: m => decide (a < b) || (decide (a = b) && ll l m)

theorem ll_cons (a b : Nat) (l m : List Nat) : ll (a :: l) (b :: m) = true ↔ a < b ∨ (a = b ∧ ll l m = true) := by simp [ll]
theorem ll_nil_cons (b : Nat) (m : List Nat) : ll [] (b :: m) = true := rfl
theorem ll_nil_right (l : List Nat) : ll l [] = false := by cases l <;> rfl
theorem ll_irrefl (l : List Nat) : ll l l = false := by
  induction l with
  | nil => rfl
  | cons a l ih => simp [ll, ih]
theorem ll_trans : ∀ {a b c : List Nat}, ll a b = true → ll b c = true → ll a c = true := by
  intro a
  induction a with
  | nil =>
    intro b c h1 h2
    cases c with
    | nil => rw [ll_nil_right] at h2; cases h2
    | cons z c => rfl
  | cons x a ih =>
    intro b c h1 h2
    cases b with
    | nil => rw [ll_nil_right] at h1; cases h1
    | cons y b =>
      cases c with
      | nil => rw [ll_nil_right] at h2; cases h2
      | cons z c =>
        rw [ll_cons] at *
        rcases h1 with h1 | ⟨rfl, h1⟩
        · rcases h2 with h2 | ⟨rfl, h2⟩
          · exact .inl (by omega)
          · exact .inl h1
        · rcases h2 with h2 | ⟨rfl, h2⟩
          · exact .inl h2
          · exact .inr ⟨rfl, ih h1 h2⟩
theorem ll_asymm {a b : List Nat} (h : ll a b = true) : ll b a = false := by
  cases h' : ll b a with
  | false => rfl
  | true => have := ll_trans h h'; rw [ll_irrefl] at this; cases this
theorem ll_total : ∀ {a b : List Nat}, a ≠ b → ll a b = true ∨ ll b a = true := by
  intro a
  induction a with
  | nil =>
    intro b h
    cases b with
    | nil => exact absurd rfl h
    | cons y b => exact .inl rfl
  | cons x a ih =>
    intro b h
    cases b with
    | nil => exact .inr rfl
    | cons y b =>
      rw [ll_cons, ll_cons]
      rcases Nat.lt_trichotomy x y with h1 | h1 | h1
      · exact .inl (.inl h1)
      · subst h1
        rcases ih (b := b) (fun e => h (by rw [e])) with h2 | h2
        · exact .inl (.inr ⟨rfl, h2⟩)
        · exact .inr (.inr ⟨rfl, h2⟩)
      · exact .inr (.inl h1)

end Go.Proofs.Qxb6606046a
