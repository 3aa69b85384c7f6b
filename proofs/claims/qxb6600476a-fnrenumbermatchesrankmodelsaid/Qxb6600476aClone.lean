/-
  slices.Clone AT []Report: a new row that holds the same reports.
-/
import Derived.Test.Qxb6600476aReports
namespace Go.Proofs.Qxb6600476a.Reports
open Go.RowKit Excess

/-- The j-th cell of a Report. -/
def field (r : Rep) (j : Nat) : Value :=
  if j = 0 then .int .i64 r.p else if j = 1 then .int .u8 r.o else if j = 2 then .int .i64 r.x else if j = 3 then .bool r.s else .int .i64 r.z
/-- The cells of n Reports. -/
def cellsOf (g : Nat → Rep) (n : Nat) : List Value := (List.range (n * 5)).map fun j => field (g (j / 5)) (j % 5)

theorem length_cellsOf (g : Nat → Rep) (n : Nat) : (cellsOf g n).length = n * 5 := by simp [cellsOf]
theorem cellsOf_at (g : Nat → Rep) (n j : Nat) (h : j < n * 5) : (cellsOf g n)[j]? = some (field (g (j / 5)) (j % 5)) := by simp [cellsOf, h]
theorem five_cellsOf (g : Nat → Rep) (n i : Nat) (h : i < n) : Five (cellsOf g n) (i * 5) (g i) := by
  have e : ∀ t, t < 5 → (i * 5 + t) / 5 = i ∧ (i * 5 + t) % 5 = t := fun t ht => by omega
  refine ⟨?_, ?_, ?_, ?_, ?_⟩
  · have := cellsOf_at g n (i * 5 + 0) (by omega); rw [(e 0 (by omega)).1, (e 0 (by omega)).2] at this; simpa [field] using this
  · have := cellsOf_at g n (i * 5 + 1) (by omega); rw [(e 1 (by omega)).1, (e 1 (by omega)).2] at this; simpa [field] using this
  · have := cellsOf_at g n (i * 5 + 2) (by omega); rw [(e 2 (by omega)).1, (e 2 (by omega)).2] at this; simpa [field] using this
  · have := cellsOf_at g n (i * 5 + 3) (by omega); rw [(e 3 (by omega)).1, (e 3 (by omega)).2] at this; simpa [field] using this
  · have := cellsOf_at g n (i * 5 + 4) (by omega); rw [(e 4 (by omega)).1, (e 4 (by omega)).2] at this; simpa [field] using this
theorem field_one (r : Rep) (j : Nat) : (field r j).oneCell' = true := by
  unfold field
  repeat' split
  all_goals rfl
theorem cellsOf_one (g : Nat → Rep) (n : Nat) : ∀ u ∈ cellsOf g n, u.oneCell' = true := by
  intro u hu
  simp only [cellsOf, List.mem_map] at hu
  obtain ⟨j, _, rfl⟩ := hu
  exact field_one _ _
theorem cells_field {w : World} {b o : Nat} {r : Rep} (h : Cells5 w b o r) (t : Nat) (ht : t < 5) : w.cell? ⟨b, o + t, none⟩ = some (field r t) := by
  obtain ⟨h0, h1, h2, h3, h4⟩ := h
  match t, ht with
  | 0, _ => simpa [field] using h0
  | 1, _ => simpa [field] using h1
  | 2, _ => simpa [field] using h2
  | 3, _ => simpa [field] using h3
  | 4, _ => simpa [field] using h4
theorem src_cells {w : World} {b off n : Nat} {g : Nat → Rep} (hA : ∀ i, i < n → Cells5 w b (off + i * 5) (g i)) :
    ∀ j u, (cellsOf g n)[j]? = some u → w.cell? ((⟨b, off, none⟩ : Addr).add j) = some u := by
  intro j u hu
  have hj : j < n * 5 := by
    have := (List.getElem?_eq_some_iff.1 hu).1
    rwa [length_cellsOf] at this
  rw [cellsOf_at g n j hj] at hu
  have e : (⟨b, off, none⟩ : Addr).add j = ⟨b, off + (j / 5) * 5 + j % 5, none⟩ := by
    have : off + j = off + (j / 5) * 5 + j % 5 := by omega
    rw [← this]; unfold Addr.add; split <;> simp_all
  rw [e, ← hu]
  exact cells_field (hA (j / 5) (by omega)) (j % 5) (by omega)

theorem owned_shape {w : World} {base e size n : Nat} {v : Value} {xs : List Value} (h : w.ownsRow base e size v n xs) (hne : v ≠ .slice none 0 0) : ∃ g cap, v = .slice (some ⟨g, 0, none⟩) n cap ∧ base ≤ g := by
  rcases h.2 with ⟨h', _⟩ | ⟨g, cap, cur, h', hb, _⟩
  · exact absurd h' hne
  · exact ⟨g, cap, h', hb⟩

set_option maxHeartbeats 1000000 in
theorem clone_some (b off n cap : Nat) (g : Nat → Rep) (w : World) (hn : n ≤ 4096) (hb : b < w.heap.size) (hA : ∀ i, i < n → Cells5 w b (off + i * 5) (g i)) :
    Calls Try.prog 36 #[.slice (some ⟨b, off, none⟩) n cap] w fun e w' => ∃ ob oc, e = .returned (.slice (some ⟨ob, 0, none⟩) n oc) ∧ w'.ownsRow w.heap.size 41 5 (.slice (some ⟨ob, 0, none⟩) n oc) n (cellsOf g n) ∧ Below w.heap.size w w' ∧ w.heap.size ≤ ob := by
  obtain ⟨i41, ki, kz0, kz1, kz2⟩ := info_parts info41
  have hnil := fun w => Lib.run_eql_slice_nil (P := Try.prog) w 31 41 (some ⟨b, off, none⟩) n cap 0 0 Try.underlying31
  have HO : Hid ((w.alloc (.cells #[] 41)).ownsRow w.heap.size 41 5 (.slice (some ⟨w.heap.size, 0, none⟩) 0 0) 0 []) := World.ownsRow_made w #[] 0 (Nat.le_refl _) (by unfold maxLen; omega) rfl
  have hb1 : Below w.heap.size w (w.alloc (.cells #[] 41)) := (Below.refl _ _).alloc (Nat.le_refl _) _
  have HA : Hid (∀ j u, (cellsOf g n)[j]? = some u → (w.alloc (.cells #[] 41)).cell? ((⟨b, off, none⟩ : Addr).add j) = some u) := src_cells (fun i hi => (hA i hi).below hb hb1)
  have HB : Hid (Below w.heap.size w (w.alloc (.cells #[] 41))) := hb1
  clear hA hb1
  go_enter Try.func36, Try.ntmps36
  go_wp2_with (at_builtin; refine wpList_append_own _ rfl (.tmp 5) (.tmp 6) 31 rfl w.heap.size 41 i41 _ 5 40 Try.underlying31 ki kz0 kz1 kz2 rfl (by decide) _ 0 [] rfl HO.out ⟨b, off, none⟩ n cap (cellsOf g n) rfl (length_cellsOf g n) HA.out (cellsOf_one g n) (by unfold maxLen; omega) (by omega) (by simp) ?_)
  intro v' w1 hown hg hnl
  obtain ⟨ob, oc, hv, hob⟩ := owned_shape hown hnl
  have HO1 : Hid (w1.ownsRow w.heap.size 41 5 v' n (cellsOf g n)) := hown
  have HB1 : Hid (Below w.heap.size w w1) := HB.out.grown hg (by simp) (fun j hj => by cases hj; exact Nat.le_refl _)
  have HV : Hid (v' = .slice (some ⟨ob, 0, none⟩) n oc) := hv
  clear hown hg hnl hv
  go_wp2
  go_ret
  have hv := HV.out
  subst hv
  exact ⟨ob, oc, rfl, HO1.out, HB1.out, hob⟩
end Go.Proofs.Qxb6600476a.Reports
