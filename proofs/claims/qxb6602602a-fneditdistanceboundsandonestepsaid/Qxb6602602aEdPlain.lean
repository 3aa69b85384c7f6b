/-
  THE TABLE OF THE EDIT DISTANCE (with swaps of neighbours) AND ITS LAWS. No Go in sight.
-/
namespace Go.Proofs.Qxb6602602a.Ed

/-- Does a swap end at (i + 1, j + 1)? -/
def sw (a b : Nat → Int) (i j : Nat) : Bool := decide (0 < i) && decide (0 < j) && (a i == b (j - 1)) && (a (i - 1) == b j)
def rep (a b : Nat → Int) (i j : Nat) : Int := if a i = b j then 0 else 1

/-- One cell, out of the cell above, the one to the left, the diagonal one and the one two steps back. -/
def cell (a b : Nat → Int) (i j : Nat) (up left diag back : Int) : Int :=
  if sw a b i j then min (min (min (up + 1) (left + 1)) (diag + rep a b i j)) (back + 1) else min (min (up + 1) (left + 1)) (diag + rep a b i j)

/-- Row i + 1, out of row i ('last') and row i - 1 ('before'). -/
def rowStep (a b : Nat → Int) (i : Nat) (before last : Nat → Int) : Nat → Int
  | 0 => (i : Int) + 1
  | j + 1 => cell a b i j (last (j + 1)) (rowStep a b i before last j) (last j) (before (j - 1))

/-- (row i, row i - 1). -/
def rows (a b : Nat → Int) : Nat → (Nat → Int) × (Nat → Int)
  | 0 => (fun j => (j : Int), fun _ => 0)
  | i + 1 => (rowStep a b i (rows a b i).2 (rows a b i).1, (rows a b i).1)

def D (a b : Nat → Int) (i j : Nat) : Int := (rows a b i).1 j
def Dp (a b : Nat → Int) (i j : Nat) : Int := (rows a b i).2 j

theorem D_zero (a b : Nat → Int) (j : Nat) : D a b 0 j = j := rfl
theorem D_left (a b : Nat → Int) (i : Nat) : D a b i 0 = i := by
  cases i with
  | zero => rfl
  | succ i => show (i : Int) + 1 = _; omega
theorem Dp_succ (a b : Nat → Int) (i j : Nat) : Dp a b (i + 1) j = D a b i j := rfl
theorem D_succ (a b : Nat → Int) (i j : Nat) : D a b (i + 1) (j + 1) = cell a b i j (D a b i (j + 1)) (D a b (i + 1) j) (D a b i j) (Dp a b i (j - 1)) := rfl
theorem D_base (a b : Nat → Int) (i j : Nat) (h : sw a b i j = false) : D a b (i + 1) (j + 1) = min (min (D a b i (j + 1) + 1) (D a b (i + 1) j + 1)) (D a b i j + rep a b i j) := by
  rw [D_succ]; simp [cell, h]
theorem D_swap (a b : Nat → Int) (i j : Nat) (h : sw a b i j = true) : D a b (i + 1) (j + 1) = min (min (min (D a b i (j + 1) + 1) (D a b (i + 1) j + 1)) (D a b i j + rep a b i j)) (Dp a b i (j - 1) + 1) := by
  rw [D_succ]; simp [cell, h]
theorem rep_01 (a b : Nat → Int) (i j : Nat) : 0 ≤ rep a b i j ∧ rep a b i j ≤ 1 := by
  unfold rep; split <;> omega
theorem sw_pos {a b : Nat → Int} {i j : Nat} (h : sw a b i j = true) : 0 < i ∧ 0 < j ∧ a i = b (j - 1) ∧ a (i - 1) = b j := by
  simp [sw] at h; exact ⟨h.1.1.1, h.1.1.2, h.1.2, h.2⟩

/-- The neighbours' upper bounds. -/
theorem up_le (a b : Nat → Int) (i j : Nat) : D a b (i + 1) j ≤ D a b i j + 1 := by
  cases j with
  | zero => rw [D_left, D_left]; omega
  | succ j =>
    cases h : sw a b i j with
    | false => rw [D_base a b i j h]; omega
    | true => rw [D_swap a b i j h]; omega
theorem left_le (a b : Nat → Int) (i j : Nat) : D a b i (j + 1) ≤ D a b i j + 1 := by
  cases i with
  | zero => rw [D_zero, D_zero]; omega
  | succ i =>
    cases h : sw a b i j with
    | false => rw [D_base a b i j h]; omega
    | true => rw [D_swap a b i j h]; omega
theorem diag_le (a b : Nat → Int) (i j : Nat) : D a b (i + 1) (j + 1) ≤ D a b i j + rep a b i j := by
  cases h : sw a b i j with
  | false => rw [D_base a b i j h]; omega
  | true => rw [D_swap a b i j h]; omega

/-- One letter fewer of a costs at most one more. -/
theorem up_ge (a b : Nat → Int) (i j : Nat) : D a b i j ≤ D a b (i + 1) j + 1 := by
  induction j with
  | zero => rw [D_left, D_left]; omega
  | succ j ih =>
    have h1 := left_le a b i j
    have h2 := rep_01 a b i j
    cases h : sw a b i j with
    | false => rw [D_base a b i j h]; omega
    | true =>
      rw [D_swap a b i j h]
      obtain ⟨hi, hj, _, h4⟩ := sw_pos h
      obtain ⟨i, rfl⟩ : ∃ i', i = i' + 1 := ⟨i - 1, by omega⟩
      obtain ⟨j, rfl⟩ : ∃ j', j = j' + 1 := ⟨j - 1, by omega⟩
      have h5 := diag_le a b i (j + 1)
      have h6 : rep a b i (j + 1) = 0 := by
        have : a i = b (j + 1) := h4
        simp [rep, this]
      have h7 := left_le a b i j
      rw [Dp_succ]
      show _ ≤ min _ (D a b i j + 1) + 1
      omega

theorem gap_le (a b : Nat → Int) (i : Nat) : ∀ j : Nat, (i : Int) ≤ D a b i j + j ∧ (j : Int) ≤ D a b i j + i := by
  induction i using Nat.strongRecOn with
  | ind i ih =>
    cases i with
    | zero => intro j; rw [D_zero]; omega
    | succ i =>
      intro j
      induction j with
      | zero => rw [D_left]; omega
      | succ j ihj =>
        have h1 := ih i (by omega) (j + 1)
        have h2 := ih i (by omega) j
        have h3 := rep_01 a b i j
        cases h : sw a b i j with
        | false => rw [D_base a b i j h]; omega
        | true =>
          rw [D_swap a b i j h]
          obtain ⟨hi, hj, _, _⟩ := sw_pos h
          obtain ⟨i, rfl⟩ : ∃ i', i = i' + 1 := ⟨i - 1, by omega⟩
          have h4 := ih i (by omega) (j - 1)
          rw [Dp_succ]
          omega
theorem D_nonneg (a b : Nat → Int) (i j : Nat) : 0 ≤ D a b i j := by
  have := gap_le a b i j; omega
theorem D_le_max (a b : Nat → Int) (i : Nat) : ∀ j : Nat, D a b i j ≤ max (i : Int) j := by
  induction i with
  | zero => intro j; rw [D_zero]; omega
  | succ i ih =>
    intro j
    cases j with
    | zero => rw [D_left]; omega
    | succ j =>
      have h1 := diag_le a b i j
      have h2 := rep_01 a b i j
      have h3 := ih j
      omega

/-- How many places differ. -/
def ham (a b : Nat → Int) : Nat → Int
  | 0 => 0
  | i + 1 => ham a b i + (if a i = b i then 0 else 1)
theorem ham_yes {a b : Nat → Int} {i : Nat} (h : a i = b i) : ham a b (i + 1) = ham a b i := by simp [ham, h]
theorem ham_no {a b : Nat → Int} {i : Nat} (h : a i ≠ b i) : ham a b (i + 1) = ham a b i + 1 := by simp [ham, h]
theorem ham_bound (a b : Nat → Int) (i : Nat) : 0 ≤ ham a b i ∧ ham a b i ≤ i := by
  induction i with
  | zero => simp [ham]
  | succ i ih => simp only [ham]; split <;> omega
theorem D_le_ham (a b : Nat → Int) (i : Nat) : D a b i i ≤ ham a b i := by
  induction i with
  | zero => simp [D_zero, ham]
  | succ i ih =>
    have h1 := diag_le a b i i
    have h2 : rep a b i i = if a i = b i then 0 else 1 := rfl
    show _ ≤ ham a b i + (if a i = b i then 0 else 1)
    omega
theorem ham_zero (a b : Nat → Int) (i : Nat) (h : ∀ t, t < i → a t = b t) : ham a b i = 0 := by
  induction i with
  | zero => rfl
  | succ i ih => rw [ham_yes (h i (by omega))]; exact ih fun t ht => h t (by omega)
theorem D_eq_zero (a b : Nat → Int) (i : Nat) (h : D a b i i = 0) : ∀ t, t < i → a t = b t := by
  induction i with
  | zero => intro t ht; omega
  | succ i ih =>
    have h1 := D_nonneg a b i (i + 1)
    have h2 := D_nonneg a b (i + 1) i
    have h3 := D_nonneg a b i i
    have h4 := rep_01 a b i i
    have key : D a b i i + rep a b i i = 0 := by
      cases hs : sw a b i i with
      | false => rw [D_base a b i i hs] at h; omega
      | true =>
        rw [D_swap a b i i hs] at h
        obtain ⟨hi, _, _, _⟩ := sw_pos hs
        obtain ⟨i, rfl⟩ : ∃ i', i = i' + 1 := ⟨i - 1, by omega⟩
        have h5 := D_nonneg a b i (i + 1 - 1)
        rw [Dp_succ] at h
        omega
    have h5 : rep a b i i = 0 := by omega
    have h6 : a i = b i := by
      by_cases e : a i = b i
      · exact e
      · simp [rep, e] at h5
    intro t ht
    by_cases e : t = i
    · subst e; exact h6
    · exact ih (by omega) t (by omega)
theorem zero_iff (a b : Nat → Int) (n m : Nat) : D a b n m = 0 ↔ n = m ∧ ∀ t, t < n → a t = b t := by
  constructor
  · intro h
    have h1 := gap_le a b n m
    obtain rfl : n = m := by omega
    exact ⟨rfl, D_eq_zero a b n h⟩
  · rintro ⟨rfl, h⟩
    have h1 := D_le_ham a b n
    have h2 := ham_zero a b n h
    have h3 := D_nonneg a b n n
    omega

/-- The table reads only the letters ahead. -/
theorem D_congr (a b a' b' : Nat → Int) (i : Nat) : ∀ j : Nat, (∀ t, t < i → a t = a' t) → (∀ t, t < j → b t = b' t) → D a b i j = D a' b' i j := by
  induction i using Nat.strongRecOn with
  | ind i ih =>
    cases i with
    | zero => intro j _ _; rw [D_zero, D_zero]
    | succ i =>
      intro j ha hb
      induction j with
      | zero => rw [D_left, D_left]
      | succ j ihj =>
        have e1 := ih i (by omega) (j + 1) (fun t ht => ha t (by omega)) hb
        have e2 := ih i (by omega) j (fun t ht => ha t (by omega)) (fun t ht => hb t (by omega))
        have e3 := ihj (fun t ht => hb t (by omega))
        have e4 : Dp a b i (j - 1) = Dp a' b' i (j - 1) := by
          cases i with
          | zero => rfl
          | succ i =>
            rw [Dp_succ, Dp_succ]
            exact ih i (by omega) (j - 1) (fun t ht => ha t (by omega)) (fun t ht => hb t (by omega))
        have e5 : sw a b i j = sw a' b' i j := by
          unfold sw
          rw [ha i (by omega), ha (i - 1) (by omega), hb j (by omega), hb (j - 1) (by omega)]
        have e6 : rep a b i j = rep a' b' i j := by
          unfold rep
          rw [ha i (by omega), hb j (by omega)]
        rw [D_succ, D_succ, e1, e2, e3, e4]
        unfold cell
        rw [e5, e6]

/-- A letter put behind. -/
def app (a : Nat → Int) (n : Nat) (x : Int) (t : Nat) : Int := if t = n then x else a t
theorem app_lt (a : Nat → Int) (n : Nat) (x : Int) (t : Nat) (h : t < n) : app a n x t = a t := by
  unfold app; rw [if_neg (by omega)]
theorem app_at (a : Nat → Int) (n : Nat) (x : Int) : app a n x n = x := by simp [app]
theorem one_more (a b : Nat → Int) (n m : Nat) (x : Int) : D (app a n x) b (n + 1) m ≤ D a b n m + 1 ∧ D a b n m ≤ D (app a n x) b (n + 1) m + 1 := by
  have e : D (app a n x) b n m = D a b n m := D_congr _ _ _ _ n m (fun t ht => app_lt a n x t ht) (fun _ _ => rfl)
  have h1 := up_le (app a n x) b n m
  have h2 := up_ge (app a n x) b n m
  omega
theorem both_more (a b : Nat → Int) (n m : Nat) (x : Int) : D (app a n x) (app b m x) (n + 1) (m + 1) ≤ D a b n m := by
  have e : D (app a n x) (app b m x) n m = D a b n m := D_congr _ _ _ _ n m (fun t ht => app_lt a n x t ht) (fun t ht => app_lt b m x t ht)
  have h1 := diag_le (app a n x) (app b m x) n m
  have h2 : rep (app a n x) (app b m x) n m = 0 := by simp [rep, app_at]
  omega
end Go.Proofs.Qxb6602602a.Ed
