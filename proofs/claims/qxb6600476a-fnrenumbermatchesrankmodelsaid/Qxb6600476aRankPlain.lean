/-
  THE PLAIN LAWS BEHIND THE RANK MODEL: counting first occurrences is counting in 'beyond'. No Go in sight.
-/
import Derived.Test.Qxb6600476aRenPlain
namespace Go.Proofs.Qxb6600476a.Ren

/-- The value at j does not occur before j. -/
def fst (f : Nat → Int) (j : Nat) : Bool := decide (∀ k, k < j → f k ≠ f j)
theorem fst_true {f : Nat → Int} {j : Nat} (h : ∀ k, k < j → f k ≠ f j) : fst f j = true := by simp [fst]; exact h
theorem fst_false {f : Nat → Int} {j k : Nat} (hk : k < j) (h : f k = f j) : fst f j = false := by
  simp only [fst, decide_eq_false_iff_not]
  exact fun hn => hn k hk h

/-- The first occurrences among the first n values that p lets by. -/
def firsts (f : Nat → Int) (p : Int → Bool) : Nat → List Int
  | 0 => []
  | n + 1 => firsts f p n ++ (if fst f n && p (f n) then [f n] else [])
theorem firsts_yes {f : Nat → Int} {p : Int → Bool} {n : Nat} (h1 : fst f n = true) (h2 : p (f n) = true) : (firsts f p (n + 1)).length = (firsts f p n).length + 1 := by
  simp [firsts, h1, h2]
theorem firsts_no1 {f : Nat → Int} {p : Int → Bool} {n : Nat} (h1 : fst f n = false) : (firsts f p (n + 1)).length = (firsts f p n).length := by
  simp [firsts, h1]
theorem firsts_no2 {f : Nat → Int} {p : Int → Bool} {n : Nat} (h2 : p (f n) = false) : (firsts f p (n + 1)).length = (firsts f p n).length := by
  simp [firsts, h2]
theorem firsts_le (f : Nat → Int) (p : Int → Bool) (n : Nat) : (firsts f p n).length ≤ n := by
  induction n with
  | zero => simp [firsts]
  | succ n ih =>
    simp only [firsts, List.length_append]
    split <;> simp <;> omega

theorem firsts_laws (f : Nat → Int) (p : Int → Bool) (n : Nat) : (firsts f p n).Nodup ∧ ∀ x, x ∈ firsts f p n ↔ p x = true ∧ ∃ i, i < n ∧ f i = x := by
  induction n with
  | zero => exact ⟨by simp [firsts], fun x => by simp [firsts]⟩
  | succ n ih =>
    obtain ⟨ih1, ih2⟩ := ih
    by_cases hc : fst f n = true ∧ p (f n) = true
    · have hF : ∀ k, k < n → f k ≠ f n := by simpa [fst] using hc.1
      have e : firsts f p (n + 1) = firsts f p n ++ [f n] := by simp [firsts, hc.1, hc.2]
      rw [e]
      refine ⟨?_, fun x => ?_⟩
      · rw [List.nodup_append]
        refine ⟨ih1, by simp, fun a ha b hb hab => ?_⟩
        obtain ⟨_, i, hi, rfl⟩ := (ih2 a).1 ha
        exact hF i hi (hab.trans (List.mem_singleton.1 hb))
      · rw [List.mem_append, ih2, List.mem_singleton]
        constructor
        · rintro (⟨hp, i, hi, rfl⟩ | rfl)
          · exact ⟨hp, i, by omega, rfl⟩
          · exact ⟨hc.2, n, by omega, rfl⟩
        · rintro ⟨hp, i, hi, rfl⟩
          by_cases e : i = n
          · subst e; exact .inr rfl
          · exact .inl ⟨hp, i, by omega, rfl⟩
    · have e : firsts f p (n + 1) = firsts f p n := by
        simp only [firsts]
        rw [if_neg (by simpa using hc), List.append_nil]
      rw [e]
      refine ⟨ih1, fun x => ?_⟩
      rw [ih2]
      constructor
      · rintro ⟨hp, i, hi, rfl⟩
        exact ⟨hp, i, by omega, rfl⟩
      · rintro ⟨hp, i, hi, rfl⟩
        by_cases e : i = n
        · subst e
          have h2 : ¬ fst f i = true := fun h => hc ⟨h, hp⟩
          simp only [fst, decide_eq_true_eq] at h2
          have h3 : ∃ k, k < i ∧ f k = f i := by
            by_cases h4 : ∃ k, k < i ∧ f k = f i
            · exact h4
            · exact absurd (fun k hk h5 => h4 ⟨k, hk, h5⟩) h2
          obtain ⟨k, hk, h4⟩ := h3
          exact ⟨hp, k, hk, h4⟩
        · exact ⟨hp, i, by omega, rfl⟩

theorem firsts_count (nn : Int) (f : Nat → Int) (p : Int → Bool) (n : Nat) (hp : ∀ x, p x = true → nn < x) : (firsts f p n).length = (bsOf nn f n).countP p := by
  rw [List.countP_eq_length_filter]
  obtain ⟨h1, h2⟩ := firsts_laws f p n
  have h3 : ((bsOf nn f n).filter p).Nodup := by
    apply List.Pairwise.filter
    have := bs_strict nn f n
    rw [List.pairwise_iff_getElem] at this ⊢
    intro i j hi hj hij
    have := this i j hi hj hij
    omega
  refine ((List.perm_ext_iff_of_nodup h1 h3).2 fun x => ?_).length_eq
  rw [h2, List.mem_filter, mem_bs]
  constructor
  · rintro ⟨a, b⟩; exact ⟨⟨hp x a, b⟩, a⟩
  · rintro ⟨⟨_, b⟩, a⟩; exact ⟨a, b⟩

/-- m. -/
theorem count_all (nn : Int) (f : Nat → Int) (n : Nat) : (firsts f (fun y => decide (nn < y)) n).length = (bsOf nn f n).length := by
  rw [firsts_count nn f _ n (fun x h => by simpa using h), List.countP_eq_length]
  intro x hx
  simpa using ((mem_bs nn f n x).1 hx).1
/-- A rank. -/
theorem count_rank (nn : Int) (f : Nat → Int) (n : Nat) (z : Int) : (firsts f (fun y => decide (nn < y) && decide (y < z)) n).length = place (bsOf nn f n) z := by
  rw [firsts_count nn f _ n (fun x h => by simp at h; exact h.1)]
  unfold place
  apply List.countP_congr
  intro x hx
  have := ((mem_bs nn f n x).1 hx).1
  simp [this]
theorem bs_nil (nn : Int) (f : Nat → Int) (n : Nat) (h : ∀ i, i < n → f i ≤ nn) : bsOf nn f n = [] := by
  cases hb : bsOf nn f n with
  | nil => rfl
  | cons x t =>
    have hx : x ∈ bsOf nn f n := by rw [hb]; simp
    obtain ⟨h1, i, hi, rfl⟩ := (mem_bs nn f n x).1 hx
    have := h i hi
    omega
theorem bs_step (nn : Int) (f : Nat → Int) (n t : Nat) (h0 : 0 < t) (h : t < (bsOf nn f n).length) : (bsOf nn f n).getD (t - 1) 0 < (bsOf nn f n).getD t 0 := by
  have := List.pairwise_iff_getElem.1 (bs_strict nn f n) (t - 1) t (by omega) h (by omega)
  simpa [List.getD, h, show t - 1 < (bsOf nn f n).length by omega] using this
theorem bs_mem (nn : Int) (f : Nat → Int) (n t : Nat) (h : t < (bsOf nn f n).length) : nn < (bsOf nn f n).getD t 0 ∧ ∃ i, i < n ∧ f i = (bsOf nn f n).getD t 0 := by
  have := (mem_bs nn f n ((bsOf nn f n)[t])).1 (List.getElem_mem h)
  simpa [List.getD, h] using this
end Go.Proofs.Qxb6600476a.Ren
