/-
  A SLICE OF STEPS THAT CAME IN, OPENED.
-/
import Derived.Test.Qxb6603018aCbF
import Derived.Deep.Slices
import Derived.Deep.SlicePairs
import Derived.Lib.SmallJoins
namespace Go.Proofs.Qxb6603018a.Cb
open Go.RowKit Go.ChangeShapes Go.WideShapes Go.Deep

theorem cells30 : Try.prog.cellsOf 30 = 4 := by kernel_rfl
theorem cells9 : Try.prog.cellsOf 9 = 1 := by kernel_rfl
theorem cells3 : Try.prog.cellsOf 3 = 1 := by kernel_rfl
theorem cells4 : Try.prog.cellsOf 4 = 1 := by kernel_rfl

theorem steps_of {H : Type} {enc : TypeId × Value → H} {W : World} {base : Nat} {spare : Nat → Bool} {held : Bool} {fuel : Nat} {a : Option Addr} {len cap : Nat} {x : DataW H × List MemPlace}
    (h : DataW.trod enc Try.prog W base spare held fuel 22 [.slice a len cap] = some x) :
    ∃ g, Steps W a len g ∧ (∀ i, i < len → (g i).nm.size ≤ maxLen) ∧ (a = none → len = 0 ∧ cap = 0) ∧ len ≤ maxLen := by
  rcases open_slice Try.underlying22 h with ⟨hcs, _⟩ | ⟨y, l, c, m, n, D, Pl, hcs, hb, hl, hm, hmm, _, hx⟩
  · simp at hcs
    obtain ⟨rfl, rfl, rfl⟩ := hcs
    exact ⟨fun _ => ⟨⟨#[]⟩, 0, false, false⟩, fun h => absurd h (Nat.lt_irrefl _), fun i hi => absurd hi (Nat.not_lt_zero _), fun _ => ⟨rfl, rfl⟩, by unfold maxLen; omega⟩
  · simp at hcs
    obtain ⟨rfl, rfl, rfl⟩ := hcs
    have hlm : len ≤ m := by rw [hmm]; split <;> omega
    have each : ∀ i, i < m → ∃ r : Stp, W.cell? (y.add (i * 4)) = some (.string r.nm) ∧ W.cell? (y.add (i * 4 + 1)) = some (.int .i64 r.ix) ∧ W.cell? (y.add (i * 4 + 2)) = some (.bool r.it) ∧ W.cell? (y.add (i * 4 + 3)) = some (.bool r.ky) ∧ r.nm.size ≤ maxLen := by
      intro i hi
      obtain ⟨cs', h1, h2⟩ := hx i hi
      rw [cells30] at h1
      obtain ⟨_, hlen, hcell⟩ := World.cells?_some h1
      obtain ⟨y0, y1, y2, y3, k, _, _, g0, g1, g2, g3⟩ := Joins.trod_struct4 Try.underlying30 h2
      match cs', hlen with
      | [v0, v1, v2, v3], _ =>
        simp [cells9, cells3, cells4] at g0 g1 g2 g3
        obtain ⟨s, e0, _, hs⟩ := DataW.trod_string Try.underlying9 g0
        obtain ⟨z, e1, _, _⟩ := DataW.trod_int Try.underlying3 g1
        obtain ⟨p, e2, _⟩ := DataW.trod_bool Try.underlying4 g2
        obtain ⟨q, e3, _⟩ := DataW.trod_bool Try.underlying4 g3
        simp at e0 e1 e2 e3
        subst e0 e1 e2 e3
        have c0 := hcell 0 (by omega)
        have c1 := hcell 1 (by omega)
        have c2 := hcell 2 (by omega)
        have c3 := hcell 3 (by omega)
        rw [add_add] at c0 c1 c2 c3
        exact ⟨⟨s, z, p, q⟩, by simpa using c0, by simpa using c1, by simpa using c2, by simpa using c3, hs⟩
    have inh : Inhabited Stp := ⟨⟨⟨#[]⟩, 0, false, false⟩⟩
    obtain ⟨g, hg⟩ := choose_lt each
    refine ⟨g, fun hn => ?_, fun i hi => (hg i (by omega)).2.2.2.2, fun h => by simp at h, by omega⟩
    obtain ⟨b, off, spot⟩ := y
    have hspot : spot = none := by simpa [Addr.add] using World.cell?_spot (hg 0 (by omega)).1
    subst hspot
    refine ⟨b, off, rfl, ?_, fun i hi => ?_⟩
    · have h5 := (hg 0 (by omega)).1
      rw [add_plain] at h5
      exact block_lt_of_cell h5
    · obtain ⟨c0, c1, c2, c3, _⟩ := hg i (by omega)
      rw [add_plain] at c0 c1 c2 c3
      exact ⟨c0, c1, c2, c3⟩
end Go.Proofs.Qxb6603018a.Cb
