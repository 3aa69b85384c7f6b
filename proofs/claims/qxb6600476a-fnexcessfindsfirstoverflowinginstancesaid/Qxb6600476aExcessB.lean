/-
  THE CONTRACT OF buildDistinct: a slice of slices, the i-th of 'counts[i]' elements, all cut from one pool that the call makes.
-/
import Derived.Test.Qxb6600476aExcessA
import Derived.Outline
namespace Go.Proofs.Qxb6600476a.Excess
open Go.RowKit

theorem info23 : (Try.prog.info? 23).map (fun i => (i.zero, i.size, i.bytes)) = some (some (.agg #[.int .i64 0, .bool false]), 2, 16) := by kernel_rfl
theorem info54 : (Try.prog.info? 54).map (fun i => (i.zero, i.size, i.bytes)) = some (some (.slice none 0 0), 1, 24) := by kernel_rfl

theorem buildDistinct_nil (w : World) : Calls Try.prog 25 #[.slice none 0 0] w fun e w' => e = .returned (.slice none 0 0) ∧ w' = w := by
  have hnil := fun w => Lib.run_eql_slice_nil (P := Try.prog) w 29 3 none 0 0 0 0 Try.underlying29
  go_enter Try.func25, Try.ntmps25
  go_wp2
  go_ret
  exact ⟨rfl, rfl⟩

set_option maxHeartbeats 400000 in
theorem buildDistinct_some (x : Addr) (n cap : Nat) (f : Nat → Int) (w : World) (hn : n ≤ 4096) (hA : Ints w (some x) n f) (hf : ∀ i, i < n → 0 ≤ f i ∧ f i ≤ 32768) :
    Calls Try.prog 25 #[.slice (some x) n cap] w fun e w' => ∃ a', e = .returned (.slice a' n n) ∧ Rows2 w' a' n (fun i => (f i).toNat) ∧ Below w.heap.size w w' := by
  obtain ⟨i23, hi, hz0, hz1, hz2⟩ := info_parts info23
  obtain ⟨i54, ki, kz0, kz1, kz2⟩ := info_parts info54
  have HF : Hid (∀ i, i < n → 0 ≤ f i ∧ f i ≤ 32768) := hf
  clear hf
  have hnil := fun w => Lib.run_eql_slice_nil (P := Try.prog) w 29 3 (some x) n cap 0 0 Try.underlying29
  go_enter Try.func25, Try.ntmps25
  go_wp2
  go_loop [3, 4] (fun t i => ∃ (k mo : Nat), k ≤ n ∧ i = .int .i64 k ∧ t = .int .i64 mo ∧ mo ≤ 32768 ∧ ∀ j, j < k → f j ≤ mo) (fun _ i => n - (intOf i).toNat)
  case atStart => exact ⟨0, 0, Nat.zero_le _, rfl, rfl, by omega, fun j hj => absurd hj (Nat.not_lt_zero _)⟩
  case round =>
    obtain ⟨k, mo, hk, rfl, rfl, hmo, hall⟩ := hrel
    have HM : Hid (∀ j, j < k → f j ≤ mo) := hall
    clear hall
    by_cases hlt : k < n
    · obtain ⟨b, off, e0, hb, hc⟩ := hA (by omega)
      obtain rfl : x = ⟨b, off, none⟩ := by simpa using e0
      have hck := hc k hlt
      have hfk := HF.out k hlt
      have hi : (k : Int) < (n : Int) := by omega
      clear hc hA e0
      by_cases h1 : (mo : Int) < f k
      · go_wp2
        go_round
        case rel => exact ⟨k + 1, (f k).toNat, by omega, by go_num, by go_num, by omega, fun j hj => by
            by_cases e : j = k
            · subst e; omega
            · have := HM.out j (by omega); omega⟩
        case measure => simp [intOf]; omega
      · go_wp2
        go_round
        case rel => exact ⟨k + 1, mo, by omega, by go_num, by go_num, by omega, fun j hj => by
            by_cases e : j = k
            · subst e; omega
            · exact HM.out j (by omega)⟩
        case measure => simp [intOf]; omega
    · have hi' : ¬ (k : Int) < (n : Int) := by omega
      obtain rfl : k = n := by omega
      go_wp2_with (first
        | (at_make; refine wpList_make_full _ rfl (.tmp 26) (.tmp 26) 54 rfl w.heap.size 23 i23 _ 2 Try.underlying54 hi hz0 hz1 .i64 .i64 _ _ mo rfl rfl rfl rfl (by rw [hz2]; omega) (by unfold maxLen; omega) (Nat.le_refl _) ?_; intro w1 hown1 hg1)
        | (at_make; refine wpList_make_full _ rfl (.tmp 29) (.tmp 29) 46 rfl w.heap.size 54 i54 _ 1 Try.underlying46 ki kz0 kz1 .i64 .i64 _ _ k rfl rfl rfl rfl (by rw [kz2]; omega) (by unfold maxLen; omega) (by have := hg1.size; omega) ?_; intro w2 hown2 hg2))
      have hb2 : Below w.heap.size w w2 := ((Below.refl _ _).grown hg1 (Nat.le_refl _) (fun j hj => by cases hj)).grown hg2 (by have := hg1.size; omega) (fun j hj => by cases hj)
      have hsz1 : w.heap.size ≤ w1.heap.size := by have := hg1.size; omega
      clear hown1 hg1 hg2
      go_loopw [7] (fun i wr => ∃ (j : Nat) (xs : List Value), j ≤ k ∧ i = .int .i64 j ∧ wr.ownsRow w.heap.size 54 1 (.slice (some ⟨w1.heap.size, 0, none⟩) k k) k xs ∧ (∀ y, y < j → ∃ pa pc, xs[y]? = some (.slice pa (f y).toNat pc)) ∧ Below w.heap.size w wr) (fun i _ => k - (intOf i).toNat)
      case atStart => exact ⟨0, _, Nat.zero_le _, rfl, hown2, fun j hj => absurd hj (Nat.not_lt_zero _), hb2⟩
      case round =>
        obtain ⟨j, xs, hj, rfl, hown, hxs, hbr⟩ := hrel
        have HX : Hid (∀ y, y < j → ∃ pa pc, xs[y]? = some (.slice pa (f y).toNat pc)) := hxs
        clear hxs
        by_cases hlt : j < k
        · obtain ⟨b, off, e0, hb, hc⟩ := hA (by omega)
          obtain rfl : x = ⟨b, off, none⟩ := by simpa using e0
          have hck := (hbr.cell (p := ⟨b, off + j, none⟩) hb).trans (hc j hlt)
          have hfj := HF.out j hlt
          have hmj := HM.out j hlt
          have hi : (j : Int) < (k : Int) := by omega
          have hlx : xs.length = k := by have := hown.1; omega
          have hcell : wr.cell? ⟨w1.heap.size, j, none⟩ = some xs[j] := by rw [hown.cellAt j (by omega)]; simp
          have hfz := hown.frozenAt j
          clear hc hA e0
          have HO : Hid (wr.ownsRow w.heap.size 54 1 (.slice (some ⟨w1.heap.size, 0, none⟩) k k) k xs) := hown
          have HB : Hid (Below w.heap.size w wr) := hbr
          clear hown hbr
          generalize xs[j] = old at *
          go_wp2
          go_roundw
          case rel => exact ⟨j + 1, _, by omega, by go_num, (HO.out.stored j _).1, fun y hy => by
            by_cases e : y = j
            · subst e; exact ⟨_, _, by simp [hlx, hlt]; exact ⟨rfl, rfl⟩⟩
            · obtain ⟨pa, pc, h⟩ := HX.out y (by omega)
              exact ⟨pa, pc, by rw [List.getElem?_set_ne (by omega)]; exact h⟩, HB.out.setCell hsz1 _⟩
          case measure => simp [intOf]; omega
        · have hi : ¬ (j : Int) < (k : Int) := by omega
          obtain rfl : j = k := by omega
          go_wp2
          go_ret
          refine ⟨_, rfl, fun _ => ⟨_, _, rfl, fun y hy => ?_⟩, hbr⟩
          obtain ⟨pa, pc, h⟩ := HX.out y hy
          exact ⟨pa, pc, by rw [Nat.zero_add, hown.cellAt y (by omega)]; exact h⟩
end Go.Proofs.Qxb6600476a.Excess
