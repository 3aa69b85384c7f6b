/-
  JSON's NUMBER SYNTAX AS AN AUTOMATON: the plain laws. No Go in sight.
-/
namespace Go.Proofs.Qxb6602602a.Json

def dg (x : Int) : Bool := decide (48 ≤ x) && decide (x ≤ 57)
theorem dg_true {x : Int} (h1 : 48 ≤ x) (h2 : x ≤ 57) : dg x = true := by simp [dg, h1, h2]
theorem dg_false {x : Int} (h : x < 48 ∨ 57 < x) : dg x = false := by simp [dg]; omega
theorem of_dg {x : Int} (h : dg x = true) : 48 ≤ x ∧ x ≤ 57 := by simpa [dg] using h
theorem of_not_dg {x : Int} (h : dg x = false) : x < 48 ∨ 57 < x := by simp [dg] at h; omega

/-- The transition table. -/
def step (st : Nat) (x : Int) : Nat :=
  if st = 0 then (if x = 45 then 1 else if x = 48 then 2 else if dg x then 3 else 9)
  else if st = 1 then (if x = 48 then 2 else if dg x then 3 else 9)
  else if st = 2 then (if x = 46 then 4 else if x = 101 ∨ x = 69 then 6 else 9)
  else if st = 3 then (if dg x then 3 else if x = 46 then 4 else if x = 101 ∨ x = 69 then 6 else 9)
  else if st = 4 then (if dg x then 5 else 9)
  else if st = 5 then (if dg x then 5 else if x = 101 ∨ x = 69 then 6 else 9)
  else if st = 6 then (if x = 43 ∨ x = 45 then 7 else if dg x then 8 else 9)
  else if st = 7 then (if dg x then 8 else 9)
  else if st = 8 then (if dg x then 8 else 9)
  else 9

/-- The state behind the first k bytes. -/
def run (c : Nat → Int) : Nat → Nat
  | 0 => 0
  | k + 1 => step (run c k) (c k)

def acc (s : Nat) : Bool := s == 2 || s == 3 || s == 5 || s == 8
def itg (s : Nat) : Bool := s == 2 || s == 3

theorem step_le (st : Nat) (x : Int) : step st x ≤ 9 := by
  unfold step
  repeat' split
  all_goals omega
theorem run_le (c : Nat → Int) (k : Nat) : run c k ≤ 9 := by
  cases k with
  | zero => simp [run]
  | succ k => exact step_le _ _

theorem dead (c : Nat → Int) (i n : Nat) (hi : i ≤ n) (h : run c i = 9) : run c n = 9 := by
  induction n with
  | zero => obtain rfl : i = 0 := by omega
            exact h
  | succ n ih =>
    by_cases e : i = n + 1
    · subst e; exact h
    · have := ih (by omega)
      simp [run, this, step]

/-- From i to j there are digits alone, and none at j. -/
def SD (c : Nat → Int) (n i j : Nat) : Prop := i ≤ j ∧ j ≤ n ∧ (∀ t, i ≤ t → t < j → dg (c t) = true) ∧ (j < n → dg (c j) = false)

theorem digits (c : Nat → Int) (S i j : Nat) (hS : S = 3 ∨ S = 5 ∨ S = 8) (hij : i ≤ j) (h : run c i = S) (hd : ∀ t, i ≤ t → t < j → dg (c t) = true) : run c j = S := by
  induction j with
  | zero => obtain rfl : i = 0 := by omega
            exact h
  | succ j ih =>
    by_cases e : i = j + 1
    · subst e; exact h
    · have h1 := ih (by omega) (fun t h1 h2 => hd t h1 (by omega))
      have h2 := hd j (by omega) (by omega)
      rcases hS with rfl | rfl | rfl <;> simp [run, h1, step, h2]

/-- Behind the whole part: state 2 or 3 at i. -/
def IntP (c : Nat → Int) (n i : Nat) : Prop := i ≤ n ∧ (run c i = 2 ∨ (run c i = 3 ∧ (i < n → dg (c i) = false)))
/-- Ahead of an exponent: state 2, 3 or 5 at i, and what stands there is neither a digit that goes on nor a point. -/
def PreE (c : Nat → Int) (n i : Nat) (S : Nat) : Prop := i ≤ n ∧ run c i = S ∧ (S = 2 ∨ S = 3 ∨ S = 5) ∧ (S ≠ 2 → i < n → dg (c i) = false) ∧ (S ≠ 5 → i < n → c i ≠ 46)

theorem start0 (c : Nat → Int) : run c 0 = 0 := rfl
theorem start1 (c : Nat → Int) (h : c 0 = 45) : run c 1 = 1 := by simp [run, step, h]

theorem zero_int (c : Nat → Int) (n i : Nat) (hS : run c i = 0 ∨ run c i = 1) (hi : i < n) (h : c i = 48) : IntP c n (i + 1) := by
  refine ⟨by omega, .inl ?_⟩
  rcases hS with e | e <;> simp [run, e, step, h]
theorem digits_int (c : Nat → Int) (n i j : Nat) (hS : run c i = 0 ∨ run c i = 1) (hi : i < n) (h1 : 49 ≤ c i) (h2 : c i ≤ 57) (hs : SD c n i j) : IntP c n j ∧ i < j := by
  obtain ⟨a1, a2, a3, a4⟩ := hs
  have hij : i < j := by
    by_cases e : i = j
    · subst e
      have := of_not_dg (a4 hi)
      omega
    · omega
  refine ⟨⟨a2, .inr ⟨?_, a4⟩⟩, hij⟩
  refine digits c 3 (i + 1) j (.inl rfl) (by omega) ?_ (fun t h1 h2 => a3 t (by omega) h2)
  have hd : dg (c i) = true := dg_true (by omega) h2
  have n45 : c i ≠ 45 := by omega
  have n48 : c i ≠ 48 := by omega
  rcases hS with e | e <;> simp [run, e, step, hd, n45, n48]
theorem bad_start (c : Nat → Int) (n i : Nat) (hS : (run c i = 0 ∧ (i < n → c i ≠ 45)) ∨ run c i = 1) (hi : i ≤ n) (h : i < n → c i ≠ 48 ∧ (c i < 49 ∨ 57 < c i)) :
    acc (run c n) = false ∧ itg (run c n) = false := by
  by_cases e : i = n
  · subst e
    rcases hS with ⟨e, _⟩ | e <;> simp [e, acc, itg]
  · obtain ⟨h1, h2⟩ := h (by omega)
    have hd : dg (c i) = false := dg_false (by omega)
    have h9 : run c (i + 1) = 9 := by
      rcases hS with ⟨e, h45⟩ | e
      · simp [run, e, step, hd, h1, h45 (by omega)]
      · simp [run, e, step, hd, h1]
    rw [dead c (i + 1) n (by omega) h9]
    exact ⟨rfl, rfl⟩

theorem point_state (c : Nat → Int) (n i : Nat) (h : IntP c n i) (h46 : c i = 46) : run c (i + 1) = 4 := by
  have hd : dg (c i) = false := dg_false (by omega)
  rcases h.2 with e | ⟨e, _⟩
  · simp [run, e, step, h46]
  · rw [h46] at hd
    simp [run, e, step, h46, hd]
theorem bad_point (c : Nat → Int) (n i : Nat) (h : IntP c n i) (hi : i < n) (h46 : c i = 46) (hs : SD c n (i + 1) (i + 1)) : acc (run c n) = false ∧ itg (run c n) = false := by
  have h4 := point_state c n i h h46
  by_cases e : i + 1 = n
  · rw [← e, h4]; exact ⟨rfl, rfl⟩
  · have hd := hs.2.2.2 (by omega)
    have h9 : run c (i + 2) = 9 := by simp [run] at h4 ⊢; rw [h4]; simp [step, hd]
    rw [dead c (i + 2) n (by omega) h9]
    exact ⟨rfl, rfl⟩
theorem good_point (c : Nat → Int) (n i j : Nat) (h : IntP c n i) (h46 : c i = 46) (hs : SD c n (i + 1) j) (hj : j ≠ i + 1) : PreE c n j 5 := by
  have h4 := point_state c n i h h46
  obtain ⟨a1, a2, a3, a4⟩ := hs
  have hd := a3 (i + 1) (by omega) (by omega)
  have h5 : run c (i + 1 + 1) = 5 := by
    show step (run c (i + 1)) (c (i + 1)) = 5
    rw [h4]; simp [step, hd]
  exact ⟨a2, digits c 5 (i + 1 + 1) j (.inr (.inl rfl)) (by omega) h5 (fun t h1 h2 => a3 t (by omega) h2), .inr (.inr rfl), fun _ => a4, fun h => absurd rfl h⟩
theorem no_point (c : Nat → Int) (n i : Nat) (h : IntP c n i) (h46 : ¬ (i < n ∧ c i = 46)) : ∃ S, PreE c n i S ∧ S ≠ 5 := by
  rcases h.2 with e | ⟨e, hd⟩
  · exact ⟨2, ⟨h.1, e, .inl rfl, fun h => absurd rfl h, fun _ hi h => h46 ⟨hi, h⟩⟩, by omega⟩
  · exact ⟨3, ⟨h.1, e, .inr (.inl rfl), fun _ => hd, fun _ hi h => h46 ⟨hi, h⟩⟩, by omega⟩

/-- No exponent, at the text's end. -/
theorem end_here (c : Nat → Int) (n S : Nat) (h : PreE c n n S) : acc (run c n) = true ∧ itg (run c n) = decide (S ≠ 5) := by
  rw [h.2.1]
  rcases h.2.2.1 with rfl | rfl | rfl <;> exact ⟨rfl, rfl⟩
/-- No exponent, and something behind. -/
theorem end_junk (c : Nat → Int) (n i S : Nat) (h : PreE c n i S) (hi : i < n) (h1 : c i ≠ 101) (h2 : c i ≠ 69) : acc (run c n) = false ∧ itg (run c n) = false := by
  obtain ⟨_, hr, hS, hd, hp⟩ := h
  have h9 : run c (i + 1) = 9 := by
    rcases hS with rfl | rfl | rfl
    · simp [run, hr, step, h1, h2, hp (by omega) hi]
    · simp [run, hr, step, h1, h2, hp (by omega) hi, hd (by omega) hi]
    · simp [run, hr, step, h1, h2, hd (by omega) hi]
  rw [dead c (i + 1) n (by omega) h9]
  exact ⟨rfl, rfl⟩
theorem mark_e (c : Nat → Int) (n i S : Nat) (h : PreE c n i S) (hi : i < n) (he : c i = 101 ∨ c i = 69) : run c (i + 1) = 6 := by
  obtain ⟨_, hr, hS, hd, hp⟩ := h
  have h46 : c i ≠ 46 := by omega
  have hdg : dg (c i) = false := dg_false (by omega)
  rcases hS with rfl | rfl | rfl <;> simp [run, hr, step, h46, hdg, he]

/-- k4: behind 'e' and the sign, if there is one. -/
def Sign (c : Nat → Int) (n i k4 : Nat) : Prop :=
  (k4 = i + 1 ∧ ¬ (i + 1 < n ∧ (c (i + 1) = 45 ∨ c (i + 1) = 43))) ∨ (k4 = i + 2 ∧ i + 1 < n ∧ (c (i + 1) = 45 ∨ c (i + 1) = 43))
theorem sign_state (c : Nat → Int) (n i k4 S : Nat) (h : PreE c n i S) (hi : i < n) (he : c i = 101 ∨ c i = 69) (hk : Sign c n i k4) :
    k4 ≤ n ∧ ((run c k4 = 6 ∧ (k4 < n → c k4 ≠ 45 ∧ c k4 ≠ 43)) ∨ run c k4 = 7) := by
  have h6 := mark_e c n i S h hi he
  rcases hk with ⟨rfl, hn⟩ | ⟨rfl, hlt, hs⟩
  · refine ⟨by omega, .inl ⟨h6, fun hlt => ⟨fun h => hn ⟨hlt, .inl h⟩, fun h => hn ⟨hlt, .inr h⟩⟩⟩⟩
  · refine ⟨by omega, .inr ?_⟩
    show step (run c (i + 1)) (c (i + 1)) = 7
    rw [h6]
    have : c (i + 1) = 43 ∨ c (i + 1) = 45 := hs.symm
    simp [step, this]
theorem exp_bad (c : Nat → Int) (n i k4 S : Nat) (h : PreE c n i S) (hi : i < n) (he : c i = 101 ∨ c i = 69) (hk : Sign c n i k4) (hs : SD c n k4 k4) : acc (run c n) = false ∧ itg (run c n) = false := by
  obtain ⟨hle, hst⟩ := sign_state c n i k4 S h hi he hk
  by_cases e : k4 = n
  · subst e
    rcases hst with ⟨e, _⟩ | e <;> rw [e] <;> exact ⟨rfl, rfl⟩
  · have hd := hs.2.2.2 (by omega)
    have h9 : run c (k4 + 1) = 9 := by
      rcases hst with ⟨e, hn⟩ | e
      · obtain ⟨a, b⟩ := hn (by omega)
        simp [run, e, step, hd, a, b]
      · simp [run, e, step, hd]
    rw [dead c (k4 + 1) n (by omega) h9]
    exact ⟨rfl, rfl⟩
theorem exp_good (c : Nat → Int) (n i k4 j S : Nat) (h : PreE c n i S) (hi : i < n) (he : c i = 101 ∨ c i = 69) (hk : Sign c n i k4) (hs : SD c n k4 j) (hj : k4 < j) : acc (run c n) = decide (j = n) ∧ itg (run c n) = false := by
  obtain ⟨hle, hst⟩ := sign_state c n i k4 S h hi he hk
  obtain ⟨a1, a2, a3, a4⟩ := hs
  have hd := a3 k4 (by omega) hj
  have hb := of_dg hd
  have h8 : run c (k4 + 1) = 8 := by
    rcases hst with ⟨e, _⟩ | e
    · have n43 : c k4 ≠ 43 := by omega
      have n45 : c k4 ≠ 45 := by omega
      simp [run, e, step, hd, n43, n45]
    · simp [run, e, step, hd]
  have h8j := digits c 8 (k4 + 1) j (.inr (.inr rfl)) (by omega) h8 (fun t h1 h2 => a3 t (by omega) h2)
  by_cases e : j = n
  · subst e; rw [h8j]; exact ⟨by simp [acc], rfl⟩
  · have hdj := a4 (by omega)
    have h9 : run c (j + 1) = 9 := by simp [run, h8j, step, hdj]
    rw [dead c (j + 1) n (by omega) h9]
    exact ⟨by simp [acc, e], rfl⟩
end Go.Proofs.Qxb6602602a.Json
