/-
  THE ROWS OF editDistance IN MEMORY.
-/
import Derived.Test.Qxb6602602aEdA
namespace Go.Proofs.Qxb6602602a.Ed
open Go.RowKit

/-- Block p is a row of m + 1 ints, g 0 .. g m, not frozen. -/
def RowAt (w : World) (p m : Nat) (g : Nat → Int) : Prop := ∃ arr : Array Value, w.heap[p]? = some (.cells arr 3 (0, 0)) ∧ arr.size = m + 1 ∧ ∀ t, t ≤ m → arr[t]? = some (.int .i64 (g t))

theorem RowAt.lt {w : World} {p m : Nat} {g : Nat → Int} (h : RowAt w p m g) : p < w.heap.size := by
  obtain ⟨arr, h1, _⟩ := h
  exact (Array.getElem?_eq_some_iff.1 h1).1
theorem RowAt.cell {w : World} {p m : Nat} {g : Nat → Int} (h : RowAt w p m g) (t : Nat) (ht : t ≤ m) : w.cell? ⟨p, t, none⟩ = some (.int .i64 (g t)) := by
  obtain ⟨arr, h1, h2, h3⟩ := h
  rw [cell_of_row w p t arr 3 (0, 0) h1]; exact h3 t ht
theorem RowAt.free {w : World} {p m : Nat} {g : Nat → Int} (h : RowAt w p m g) (t : Nat) : w.frozen? ⟨p, t, none⟩ = false := by
  obtain ⟨arr, h1, _⟩ := h
  exact frozen_of_row w p t arr 3 h1

/-- g with v at j. -/
def upd (g : Nat → Int) (j : Nat) (v : Int) (t : Nat) : Int := if t = j then v else g t
theorem upd_at (g : Nat → Int) (j : Nat) (v : Int) : upd g j v j = v := by simp [upd]
theorem upd_ne (g : Nat → Int) (j : Nat) (v : Int) (t : Nat) (h : t ≠ j) : upd g j v t = g t := by simp [upd, h]

theorem RowAt.store {w : World} {p m : Nat} {g : Nat → Int} (h : RowAt w p m g) (j : Nat) (_hj : j ≤ m) (v : Int) : RowAt (w.setCell ⟨p, j, none⟩ (.int .i64 v)) p m (upd g j v) := by
  obtain ⟨arr, h1, h2, h3⟩ := h
  refine ⟨arr.setIfInBounds j (.int .i64 v), heap_setCell_same w p j arr 3 _ h1, by simpa using h2, fun t ht => ?_⟩
  by_cases e : t = j
  · rw [e, upd_at, Array.getElem?_setIfInBounds_self_of_lt (by omega)]
  · rw [upd_ne _ _ _ _ e, Array.getElem?_setIfInBounds_ne (by omega)]
    exact h3 t ht
theorem RowAt.other {w : World} {p m : Nat} {g : Nat → Int} (h : RowAt w p m g) (p' j : Nat) (u : Value) (hne : p ≠ p') : RowAt (w.setCell ⟨p', j, none⟩ u) p m g := by
  obtain ⟨arr, h1, h2, h3⟩ := h
  exact ⟨arr, (heap_setCell_other w ⟨p', j, none⟩ p u hne).trans h1, h2, h3⟩
theorem RowAt.draws {w : World} {p m : Nat} {g : Nat → Int} (h : RowAt w p m g) (q : Nat) : RowAt (w.drewN q) p m g := h
theorem RowAt.ext {w : World} {p m : Nat} {g g' : Nat → Int} (h : RowAt w p m g) (he : ∀ t, t ≤ m → g t = g' t) : RowAt w p m g' := by
  obtain ⟨arr, h1, h2, h3⟩ := h
  exact ⟨arr, h1, h2, fun t ht => by rw [← he t ht]; exact h3 t ht⟩
theorem RowAt.alloc {w : World} {p m : Nat} {g : Nat → Int} (h : RowAt w p m g) (o : Obj) : RowAt (w.alloc o) p m g := by
  have hl := h.lt
  obtain ⟨arr, h1, h2, h3⟩ := h
  exact ⟨arr, (Below.heap_alloc w o p hl).trans h1, h2, h3⟩

theorem info3 : (Try.prog.info? 3).map (fun i => (i.zero, i.size, i.bytes)) = some (some (.int .i64 0), 1, 8) := by kernel_rfl

/-- The cells of a new row. -/
def zeros (m : Nat) : Array Value := madeCells (Value.int .i64 0).cells ((m + 1) * 1)
theorem zeros_row (w : World) (m : Nat) : RowAt (w.alloc (.cells (zeros m) 3)) w.heap.size m (fun _ => 0) := by
  have hl : (zeros m).toList = List.replicate ((m + 1) * 1) (.int .i64 0) := toList_madeCells_one _ _
  refine ⟨zeros m, heap_alloc_new w _, ?_, fun t ht => ?_⟩
  · have := congrArg List.length hl
    simpa using this
  · rw [← Array.getElem?_toList, hl]
    rw [List.getElem?_replicate, if_pos (by omega)]
theorem make_row (m : Nat) (hm : m ≤ 1025) (w : World) : (Instr.makeSlice 36 (.int .i64 ((m : Int) + 1)) (.int .i64 ((m : Int) + 1))).run Try.prog w = .ok (.slice (some ⟨w.heap.size, 0, none⟩) (m + 1) (m + 1)) (w.alloc (.cells (zeros m) 3)) := by
  obtain ⟨i3, ki, kz0, kz1, kz2⟩ := info_parts info3
  have h := run_make (P := Try.prog) w 36 3 i3 (.int .i64 0) Try.underlying36 ki kz0 .i64 .i64 ((m + 1 : Nat) : Int) ((m + 1 : Nat) : Int) (by omega) (Int.le_refl _) (by rw [kz2]; omega) (by omega)
  simp only [Int.toNat_natCast, kz1] at h
  have e : ((m + 1 : Nat) : Int) = (m : Int) + 1 := by omega
  rw [e] at h
  exact h

/-- The three rows of one round. -/
def Three (base p5 p6 p7 : Nat) : Prop := p5 ≠ p6 ∧ p5 ≠ p7 ∧ p6 ≠ p7 ∧ base ≤ p5 ∧ base ≤ p6 ∧ base ≤ p7

/-- The world under a name of its own. -/
theorem rename_world {P : Program} {c : Code} {Q : Exit → Act → World → Prop} {a : Act} {W : World} (F : World → Prop) (hF : F W) (h : ∀ W2, F W2 → Code.wp P c Q a W2) : Code.wp P c Q a W := h W hF

def mn3 (x y z : Int) : Int := min (min x y) z
def mn2 (x y : Int) : Int := min x y
theorem run_mn3 (x y z : Int) (w : World) : (Builtin.min_ #[3, 3, 3] 3 #[.int .i64 x, .int .i64 y, .int .i64 z]).run Try.prog w = .ok (.int .i64 (mn3 x y z)) w := by
  rw [run_min_int3]
  have : (if z < (if y < x then y else x) then z else (if y < x then y else x)) = mn3 x y z := by
    unfold mn3
    repeat' split
    all_goals omega
  rw [this]
theorem run_mn2 (x y : Int) (w : World) : (Builtin.min_ #[3, 3] 3 #[.int .i64 x, .int .i64 y]).run Try.prog w = .ok (.int .i64 (mn2 x y)) w := by
  rw [run_min_int2]
  have : (if y < x then y else x) = mn2 x y := by
    unfold mn2
    split <;> omega
  rw [this]
theorem base_at {f g : Nat → Int} {i j : Nat} {U L G V : Int} (h : sw f g i j = false) (hU : D f g i (j + 1) = U) (hL : D f g (i + 1) j = L) (hG : D f g i j = G) (hV : V = mn3 (U + 1) (L + 1) (G + rep f g i j)) : V = D f g (i + 1) (j + 1) := by
  rw [D_base f g i j h, hU, hL, hG, hV]; rfl
theorem swap_at {f g : Nat → Int} {i j : Nat} {U L G V : Int} (h : sw f g i j = true) (hU : D f g i (j + 1) = U) (hL : D f g (i + 1) j = L) (hG : D f g i j = G) (hV : V = mn3 (U + 1) (L + 1) (G + rep f g i j)) : mn2 V (Dp f g i (j - 1) + 1) = D f g (i + 1) (j + 1) := by
  rw [D_swap f g i j h, hU, hL, hG, hV]; rfl
theorem row_at {f g : Nat → Int} {i j : Nat} {h7 : Nat → Int} {V : Int} (hl : ∀ t, t ≤ j → h7 t = D f g (i + 1) t) (hV : V = D f g (i + 1) (j + 1)) : ∀ t, t ≤ j + 1 → upd h7 (j + 1) V t = D f g (i + 1) t := by
  intro t ht
  by_cases e : t = j + 1
  · rw [e, upd_at]; exact hV
  · rw [upd_ne _ _ _ _ e]; exact hl t (by omega)
theorem row_at2 {f g : Nat → Int} {i j : Nat} {h7 : Nat → Int} {V V2 : Int} (hl : ∀ t, t ≤ j → h7 t = D f g (i + 1) t) (hV : V2 = D f g (i + 1) (j + 1)) : ∀ t, t ≤ j + 1 → upd (upd h7 (j + 1) V) (j + 1) V2 t = D f g (i + 1) t := by
  intro t ht
  by_cases e : t = j + 1
  · rw [e, upd_at]; exact hV
  · rw [upd_ne _ _ _ _ e, upd_ne _ _ _ _ e]; exact hl t (by omega)

theorem made3 (w : World) (m : Nat) : RowAt ((((w.alloc (.cells (zeros m) 3)).alloc (.cells (zeros m) 3)).alloc (.cells (zeros m) 3)).drew) w.heap.size m (fun _ => 0) ∧
    RowAt ((((w.alloc (.cells (zeros m) 3)).alloc (.cells (zeros m) 3)).alloc (.cells (zeros m) 3)).drew) (w.heap.size + 1) m (fun _ => 0) ∧
    RowAt ((((w.alloc (.cells (zeros m) 3)).alloc (.cells (zeros m) 3)).alloc (.cells (zeros m) 3)).drew) (w.heap.size + 1 + 1) m (fun _ => 0) ∧
    Below w.heap.size w ((((w.alloc (.cells (zeros m) 3)).alloc (.cells (zeros m) 3)).alloc (.cells (zeros m) 3)).drew) := by
  have e1 : (w.alloc (.cells (zeros m) 3)).heap.size = w.heap.size + 1 := by simp
  have e2 : ((w.alloc (.cells (zeros m) 3)).alloc (.cells (zeros m) 3)).heap.size = w.heap.size + 1 + 1 := by simp
  refine ⟨?_, ?_, ?_, ?_⟩
  · exact (((zeros_row w m).alloc _).alloc _).draws 1
  · have := zeros_row (w.alloc (.cells (zeros m) 3)) m
    rw [e1] at this
    exact (this.alloc _).draws 1
  · have := zeros_row ((w.alloc (.cells (zeros m) 3)).alloc (.cells (zeros m) 3)) m
    rw [e2] at this
    exact this.draws 1
  · exact ((((Below.refl _ w).alloc (Nat.le_refl _) _).alloc (by simp) _).alloc (by simp; omega) _).drew
end Go.Proofs.Qxb6602602a.Ed
