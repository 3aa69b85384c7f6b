/-
  THE PLAIN LAWS BEHIND renumber: what the sorted, compacted list of the instances above n is. No Go in sight.
-/
import Derived.Lib.SlicesCompact
namespace Go.Proofs.Qxb6600476a.Ren

/-- Of the first k numbers those above nn. -/
def abv (nn : Int) (f : Nat → Int) (k : Nat) : List Int := ((List.range k).map f).filter fun x => decide (nn < x)
/-- 'beyond'. -/
def bsOf (nn : Int) (f : Nat → Int) (n : Nat) : List Int := Lib.compact ((abv nn f n).mergeSort fun x y => decide (x ≤ y))

theorem abv_succ_yes (nn : Int) (f : Nat → Int) (k : Nat) (h : nn < f k) : abv nn f (k + 1) = abv nn f k ++ [f k] := by
  simp [abv, List.range_succ, h]
theorem abv_succ_no (nn : Int) (f : Nat → Int) (k : Nat) (h : ¬ nn < f k) : abv nn f (k + 1) = abv nn f k := by
  simp [abv, List.range_succ]; omega
theorem abv_len (nn : Int) (f : Nat → Int) (k : Nat) : (abv nn f k).length ≤ k := by
  have := List.length_filter_le (fun x => decide (nn < x)) ((List.range k).map f)
  simpa [abv] using this
theorem mem_abv (nn : Int) (f : Nat → Int) (k : Nat) (x : Int) : x ∈ abv nn f k ↔ nn < x ∧ ∃ i, i < k ∧ f i = x := by
  simp [abv, List.mem_filter, and_comm]

theorem compactUpTo_laws (d : Array Int) (hs : ∀ i j, i ≤ j → j < d.size → d[i]! ≤ d[j]!) : ∀ m, m ≤ d.size →
    (Lib.compactUpTo d m).Pairwise (· < ·) ∧ ∀ x, x ∈ Lib.compactUpTo d m ↔ ∃ j, j < m ∧ d[j]! = x := by
  intro m
  induction m with
  | zero => intro _; exact ⟨by simp [Lib.compactUpTo], fun x => by simp [Lib.compactUpTo]⟩
  | succ m ih =>
    intro hm
    obtain ⟨ih1, ih2⟩ := ih (by omega)
    rw [Lib.compactUpTo_succ]
    by_cases hk : Lib.keeps d m = true
    · rw [if_pos hk]
      refine ⟨?_, fun x => ?_⟩
      · rw [List.pairwise_append]
        refine ⟨ih1, by simp, fun a ha b hb => ?_⟩
        obtain ⟨j, hj, rfl⟩ := (ih2 a).1 ha
        obtain rfl : b = d[m]! := by simpa using hb
        have h1 := hs j (m - 1) (by omega) (by omega)
        have h2 := hs (m - 1) m (by omega) (by omega)
        have h3 : d[m]! ≠ d[m - 1]! := by
          have := hk
          simp only [Lib.keeps, decide_eq_true_eq] at this
          rcases this with h | h
          · omega
          · exact h
        omega
      · rw [List.mem_append, ih2]
        constructor
        · rintro (⟨j, hj, rfl⟩ | h)
          · exact ⟨j, by omega, rfl⟩
          · exact ⟨m, by omega, (List.mem_singleton.1 h).symm⟩
        · rintro ⟨j, hj, rfl⟩
          by_cases e : j = m
          · subst e; exact .inr (by simp)
          · exact .inl ⟨j, by omega, rfl⟩
    · rw [if_neg hk, List.append_nil]
      refine ⟨ih1, fun x => ?_⟩
      rw [ih2]
      have h3 : ¬ (m = 0 ∨ d[m]! ≠ d[m - 1]!) := fun h => hk (by simp only [Lib.keeps, decide_eq_true_eq]; exact h)
      constructor
      · rintro ⟨j, hj, rfl⟩
        exact ⟨j, by omega, rfl⟩
      · rintro ⟨j, hj, rfl⟩
        by_cases e : j = m
        · subst e
          refine ⟨j - 1, by omega, ?_⟩
          by_cases e2 : d[j]! = d[j - 1]!
          · exact e2.symm
          · exact absurd (.inr e2) h3
        · exact ⟨j, by omega, rfl⟩

theorem compact_laws (zs : List Int) (hs : zs.Pairwise (· ≤ ·)) : (Lib.compact zs).Pairwise (· < ·) ∧ ∀ x, x ∈ Lib.compact zs ↔ x ∈ zs := by
  have hg : ∀ i, i < zs.length → zs.toArray[i]! = zs[i]! := fun i _ => by simp
  have h := compactUpTo_laws zs.toArray (fun i j hij hj => by
    have hj' : j < zs.length := by simpa using hj
    have hi' : i < zs.length := by omega
    rw [hg i hi', hg j hj', getElem!_pos zs i hi', getElem!_pos zs j hj']
    by_cases e : i = j
    · subst e; exact Int.le_refl _
    · exact List.pairwise_iff_getElem.1 hs i j hi' hj' (by omega)) zs.length (by simp)
  refine ⟨h.1, fun x => ?_⟩
  unfold Lib.compact
  rw [h.2]
  constructor
  · rintro ⟨j, hj, rfl⟩
    rw [hg j hj, getElem!_pos zs j hj]
    exact List.getElem_mem hj
  · intro hx
    obtain ⟨j, hj, rfl⟩ := List.getElem_of_mem hx
    exact ⟨j, hj, by rw [hg j hj, getElem!_pos zs j hj]⟩

theorem sorted_le (l : List Int) : (l.mergeSort fun x y => decide (x ≤ y)).Pairwise (· ≤ ·) := by
  have h := List.pairwise_mergeSort (le := fun x y : Int => decide (x ≤ y)) (fun a b c h1 h2 => by simp at *; omega) (fun a b => by simp; omega) l
  rw [List.pairwise_iff_getElem] at h ⊢
  intro i j hi hj hij
  simpa using h i j hi hj hij

theorem bs_strict (nn : Int) (f : Nat → Int) (n : Nat) : (bsOf nn f n).Pairwise (· < ·) := (compact_laws _ (sorted_le _)).1
theorem mem_bs (nn : Int) (f : Nat → Int) (n : Nat) (x : Int) : x ∈ bsOf nn f n ↔ nn < x ∧ ∃ i, i < n ∧ f i = x := by
  unfold bsOf
  rw [(compact_laws _ (sorted_le _)).2, (List.mergeSort_perm _ _).mem_iff, mem_abv]

/-- The place of x. -/
def place (bs : List Int) (x : Int) : Nat := bs.countP fun y => decide (y < x)

theorem place_at (bs : List Int) (x : Int) (hs : bs.Pairwise (· < ·)) (hx : x ∈ bs) : bs[place bs x]? = some x := by
  induction bs with
  | nil => simp at hx
  | cons a t ih =>
    rw [List.pairwise_cons] at hs
    unfold place at ih ⊢
    rw [List.countP_cons]
    by_cases e : a < x
    · have hm : x ∈ t := by
        rcases List.mem_cons.1 hx with h | h
        · omega
        · exact h
      simp only [e, decide_true, if_true, List.getElem?_cons_succ]
      exact ih hs.2 hm
    · have ha : x = a := by
        rcases List.mem_cons.1 hx with h | h
        · exact h
        · have := hs.1 x h; omega
      subst ha
      have h0 : List.countP (fun y => decide (y < x)) t = 0 := by
        rw [List.countP_eq_zero]
        intro y hy
        have := hs.1 y hy
        simp; omega
      simp [h0]

theorem place_lt (bs : List Int) (x : Int) (hs : bs.Pairwise (· < ·)) (hx : x ∈ bs) : place bs x < bs.length :=
  (List.getElem?_eq_some_iff.1 (place_at bs x hs hx)).1

theorem place_bound (bs : List Int) (x nn : Int) (hs : bs.Pairwise (· < ·)) (hn : ∀ y ∈ bs, nn < y) (hx : nn < x) : nn + 1 + (place bs x : Int) ≤ x := by
  induction bs generalizing nn with
  | nil => simp [place]; omega
  | cons a t ih =>
    rw [List.pairwise_cons] at hs
    have ha := hn a (by simp)
    unfold place at ih ⊢
    rw [List.countP_cons]
    by_cases e : a < x
    · have := ih a hs.2 hs.1 e
      simp only [e, decide_true, if_true]
      omega
    · have := ih nn hs.2 (fun y hy => hn y (by simp [hy])) hx
      simpa [e] using this
end Go.Proofs.Qxb6600476a.Ren
