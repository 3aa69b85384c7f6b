/-
  THE WALK OF FnJSONNumberSyntaxMatchesAutomaton.
-/
import Derived.Test.Qxb6602602aJsonD
namespace Go.Proofs.Qxb6602602a.Json
open Go.RowKit

theorem jns_any (s : ByteArray) (w : World) (hs : s.size ≤ 1048576) :
    Calls Try.prog 20 #[.string s] w fun e w' => w' = w ∧ e = .returned (.tuple #[.bool (acc (run (chr s) s.size)), .bool (itg (run (chr s) s.size))]) := by
  by_cases h : 0 < s.size ∧ chr s 0 = 45
  · exact jns_signed s w hs h.1 h.2
  · exact jns_plain s w hs (fun h1 h2 => h ⟨h1, h2⟩)

theorem zzjns_any (s : ByteArray) (w : World) (hs : s.size ≤ 1048576) :
    Calls Try.prog 8 #[.string s] w fun e w' => w' = w ∧ e = .returned (.tuple #[.bool (acc (run (chr s) s.size)), .bool (itg (run (chr s) s.size))]) := by
  go_enter Try.func8, Try.ntmps8
  go_wp2_with fail
  refine (jns_any s w hs).mono ?_
  rintro e w' ⟨rfl, rfl⟩
  go_wp2
  go_ret2
  exact ⟨rfl, rfl⟩

theorem zz7 (s : ByteArray) (w : World) (hs : s.size ≤ 1048576) :
    Calls Try.prog 7 #[.string s] w fun e w' => e = .returned (.bool true) ∧ w' = w := by
  go_enter Try.func7, Try.ntmps7
  go_wp2
  go_ret
  exact ⟨rfl, rfl⟩

theorem law_long (s : ByteArray) (w : World) (hm : s.size ≤ maxLen) (hs : 1048576 < s.size) :
    Calls Try.prog 3 #[.string s] w fun e w' => e = .returned (.bool true) ∧ Grown w w' := by
  unfold maxLen at hm
  have h : (1048576 : Int) < (s.size : Int) := by omega
  go_enter Try.func3, Try.ntmps3
  go_wp2
  go_ret
  exact ⟨rfl, Grown.refl _⟩

set_option maxHeartbeats 2000000 in
theorem law_short (s : ByteArray) (w : World) (hs : s.size ≤ 1048576) :
    Calls Try.prog 3 #[.string s] w fun e w' => e = .returned (.bool true) ∧ Grown w w' := by
  go_enter Try.func3, Try.ntmps3
  go_wp2_with fail
  refine (zz7 s w hs).mono ?_
  rintro e w1 ⟨rfl, rfl⟩
  go_wp2_with fail
  refine (zzjns_any s w1 hs).mono ?_
  rintro e w2 ⟨rfl, rfl⟩
  generalize hA : acc (run (chr s) s.size) = A
  generalize hB : itg (run (chr s) s.size) = B
  have HA : Hid (acc (run (chr s) s.size) = A) := hA
  have HB : Hid (itg (run (chr s) s.size) = B) := hB
  clear hA hB
  go_wp2
  go_loop [5, 6] (fun t i => ∃ k st : Nat, k ≤ s.size ∧ i = .int .i64 k ∧ t = .int .i64 st ∧ run (chr s) k = st) (fun _ i => s.size - (intOf i).toNat)
  case atStart => exact ⟨0, 0, Nat.zero_le _, rfl, rfl, rfl⟩
  case round =>
    obtain ⟨k, st, hk, rfl, rfl, hst⟩ := hrel
    have HST : Hid (run (chr s) k = st) := hst
    have hle : st ≤ 9 := by rw [← hst]; exact run_le _ _
    clear hst
    by_cases hgo : k < s.size ∧ st ≠ 9
    · obtain ⟨hlt, h9⟩ := hgo
      have hki : (k : Int) < (s.size : Int) := by omega
      have hidx := idx s k hlt k rfl
      have hb9 : ((st : Int) != 9) = true := by simp; omega
      go_wp2_with fail
      refine (jsStep_any st (by omega) (chr s k) _).mono ?_
      rintro e w3 ⟨rfl, rfl⟩
      go_wp2
      go_round
      case rel => exact ⟨k + 1, step st (chr s k), by omega, by go_num, rfl, by rw [← HST.out]; rfl⟩
      case measure => simp [intOf]; omega
    · have HEND : Hid (run (chr s) s.size = st) := by
        by_cases e : k = s.size
        · subst e; exact HST.out
        · have h9 : st = 9 := by
            by_cases h9 : st = 9
            · exact h9
            · exact absurd ⟨by omega, h9⟩ hgo
          have := HST.out
          rw [h9] at this ⊢
          exact dead _ _ _ hk this
      have hAA := HA.out
      have hBB := HB.out
      rw [HEND.out] at hAA hBB
      subst hAA hBB
      by_cases hlt : k < s.size
      · have hki : (k : Int) < (s.size : Int) := by omega
        obtain rfl : st = 9 := by
          by_cases h9 : st = 9
          · exact h9
          · exact absurd ⟨hlt, h9⟩ hgo
        have f1 : acc 9 = false := rfl
        have f2 : itg 9 = false := rfl
        clear hgo
        go_wp2
        go_ret
        exact ⟨rfl, Grown.refl _⟩
      · have hki : ¬ (k : Int) < (s.size : Int) := by omega
        clear hgo
        have hcase : st = 0 ∨ st = 1 ∨ st = 2 ∨ st = 3 ∨ st = 4 ∨ st = 5 ∨ st = 6 ∨ st = 7 ∨ st = 8 ∨ st = 9 := by omega
        rcases hcase with rfl | rfl | rfl | rfl | rfl | rfl | rfl | rfl | rfl | rfl
        · have f1 : acc 0 = false := rfl
          have f2 : itg 0 = false := rfl
          go_wp2
          go_ret
          exact ⟨rfl, Grown.refl _⟩
        · have f1 : acc 1 = false := rfl
          have f2 : itg 1 = false := rfl
          go_wp2
          go_ret
          exact ⟨rfl, Grown.refl _⟩
        · have f1 : acc 2 = true := rfl
          have f2 : itg 2 = true := rfl
          go_wp2
          go_ret
          exact ⟨rfl, Grown.refl _⟩
        · have f1 : acc 3 = true := rfl
          have f2 : itg 3 = true := rfl
          go_wp2
          go_ret
          exact ⟨rfl, Grown.refl _⟩
        · have f1 : acc 4 = false := rfl
          have f2 : itg 4 = false := rfl
          go_wp2
          go_ret
          exact ⟨rfl, Grown.refl _⟩
        · have f1 : acc 5 = true := rfl
          have f2 : itg 5 = false := rfl
          go_wp2
          go_ret
          exact ⟨rfl, Grown.refl _⟩
        · have f1 : acc 6 = false := rfl
          have f2 : itg 6 = false := rfl
          go_wp2
          go_ret
          exact ⟨rfl, Grown.refl _⟩
        · have f1 : acc 7 = false := rfl
          have f2 : itg 7 = false := rfl
          go_wp2
          go_ret
          exact ⟨rfl, Grown.refl _⟩
        · have f1 : acc 8 = true := rfl
          have f2 : itg 8 = false := rfl
          go_wp2
          go_ret
          exact ⟨rfl, Grown.refl _⟩
        · have f1 : acc 9 = false := rfl
          have f2 : itg 9 = false := rfl
          go_wp2
          go_ret
          exact ⟨rfl, Grown.refl _⟩
end Go.Proofs.Qxb6602602a.Json
