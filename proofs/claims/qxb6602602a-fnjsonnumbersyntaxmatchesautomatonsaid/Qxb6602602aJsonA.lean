/-
  THE CONTRACTS OF skipDigits, skipExponent, jsDigit, jsStep.
-/
import Derived.Test.Qxb6602602aRows
import Derived.Test.Qxb6602602aJsonPlain
import Derived.WalkKit
import Derived.RowKit3
import Derived.WalkSpells
import Derived.WalkLawsBesides
import Derived.Outline
import Derived.Deep.Light
namespace Go.Proofs.Qxb6602602a.Json
open Go.RowKit

/-- The byte at i, as a number. -/
def chr (s : ByteArray) (i : Nat) : Int := if h : i < s.size then (s[i].toNat : Int) else 0

theorem idx (s : ByteArray) (k : Nat) (h : k < s.size) (i : Int) (hi : i = (k : Int)) (w : World) : (Instr.index 9 (.string s) (.int .i64 i)).run Try.prog w = .ok (.int .u8 (chr s k)) w := by
  subst hi
  rw [run_index_string w 9 s .i64 k Try.underlying9]
  unfold chr
  simp [h]

set_option maxHeartbeats 400000 in
theorem skipDigits_any (s : ByteArray) (i : Nat) (w : World) (hs : s.size ≤ 1048576) (hi : i ≤ s.size) :
    Calls Try.prog 23 #[.string s, .int .i64 i] w fun e w' => w' = w ∧ ∃ j : Nat, e = .returned (.int .i64 j) ∧ SD (chr s) s.size i j := by
  go_enter Try.func23, Try.ntmps23
  go_wp2
  go_loop [1] (fun t => ∃ k : Nat, i ≤ k ∧ k ≤ s.size ∧ t = .int .i64 k ∧ ∀ y, i ≤ y → y < k → dg (chr s y) = true) (fun t => s.size - (intOf t).toNat)
  case atStart => exact ⟨i, Nat.le_refl _, hi, rfl, fun y h1 h2 => by omega⟩
  case round =>
    obtain ⟨k, hik, hk, rfl, hall⟩ := hrel
    have HL : Hid (∀ y, i ≤ y → y < k → dg (chr s y) = true) := hall
    clear hall
    by_cases hlt : k < s.size
    · have hki : (k : Int) < (s.size : Int) := by omega
      have hidx := idx s k hlt k rfl
      by_cases h1 : 48 ≤ chr s k
      · by_cases h2 : chr s k ≤ 57
        · go_wp2
          go_round
          case rel => exact ⟨k + 1, by omega, by omega, by go_num, fun y hy1 hy2 => by
            by_cases e : y = k
            · subst e; exact dg_true h1 h2
            · exact HL.out y hy1 (by omega)⟩
          case measure => simp [intOf]; omega
        · go_wp2
          go_ret
          exact ⟨rfl, k, rfl, hik, hk, HL.out, fun _ => dg_false (by omega)⟩
      · go_wp2
        go_ret
        exact ⟨rfl, k, rfl, hik, hk, HL.out, fun _ => dg_false (by omega)⟩
    · have hki : ¬ (k : Int) < (s.size : Int) := by omega
      go_wp2
      go_ret
      exact ⟨rfl, k, rfl, hik, hk, HL.out, fun h => absurd h hlt⟩

theorem skipDigits_int (s : ByteArray) (i : Int) (k : Nat) (w : World) (hik : i = (k : Int)) (hs : s.size ≤ 1048576) (hi : k ≤ s.size) :
    Calls Try.prog 23 #[.string s, .int .i64 i] w fun e w' => w' = w ∧ ∃ j : Nat, e = .returned (.int .i64 j) ∧ SD (chr s) s.size k j := by
  subst hik
  exact skipDigits_any s k w hs hi

/-- What skipExponent hands back. -/
def ExpRes (s : ByteArray) (k : Nat) (e : Ending) : Prop :=
  ((k = s.size ∨ (chr s k ≠ 101 ∧ chr s k ≠ 69)) ∧ e = .returned (.tuple #[.int .i64 k, .bool true])) ∨
    (k < s.size ∧ (chr s k = 101 ∨ chr s k = 69) ∧ ∃ k4 j : Nat, Sign (chr s) s.size k k4 ∧ SD (chr s) s.size k4 j ∧ e = .returned (.tuple #[.int .i64 j, .bool (decide (k4 < j))]))

set_option maxHeartbeats 1000000 in
theorem skipExponent_any (s : ByteArray) (k : Nat) (w : World) (hs : s.size ≤ 1048576) (hi : k ≤ s.size) :
    Calls Try.prog 24 #[.string s, .int .i64 k] w fun e w' => w' = w ∧ ExpRes s k e := by
  by_cases hn : k = s.size
  · have hb : ((k : Int) == (s.size : Int)) = true := beq_iff_eq.2 (by omega)
    have HN : Hid (k = s.size) := hn
    clear hn
    go_enter Try.func24, Try.ntmps24
    go_wp2
    go_ret2
    exact ⟨rfl, .inl ⟨.inl HN.out, rfl⟩⟩
  have hlt : k < s.size := by omega
  have hki : (k : Int) < (s.size : Int) := by omega
  have hb : ((k : Int) == (s.size : Int)) = false := beq_eq_false_iff_ne.2 (by omega)
  have hidx := idx s k hlt k rfl
  by_cases he : chr s k = 101 ∨ chr s k = 69
  · -- an exponent begins
    have HE : Hid (chr s k = 101 ∨ chr s k = 69) := he
    have hcase : ((chr s k != 101) = false) ∨ ((chr s k != 101) = true ∧ (chr s k != 69) = false) := by
      rcases he with h | h
      · exact .inl (by simp [h])
      · by_cases h' : chr s k = 101
        · exact .inl (by simp [h'])
        · exact .inr ⟨by simpa using h', by simp [h]⟩
    clear he hn
    by_cases hsg : k + 1 < s.size ∧ (chr s (k + 1) = 45 ∨ chr s (k + 1) = 43)
    · obtain ⟨hl1, hs1⟩ := hsg
      have HS : Hid (chr s (k + 1) = 45 ∨ chr s (k + 1) = 43) := hs1
      have hidx1 := idx s (k + 1) hl1 ((k : Int) + 1) (by omega)
      have hk1 : (k : Int) + 1 < (s.size : Int) := by omega
      have hc2 : ((chr s (k + 1) == 45) = true) ∨ ((chr s (k + 1) == 45) = false ∧ (chr s (k + 1) == 43) = true) := by
        rcases hs1 with h | h
        · exact .inl (by simp [h])
        · exact .inr ⟨by simp [h], by simp [h]⟩
      clear hs1
      rcases hcase with h1 | ⟨h1, h2⟩ <;> rcases hc2 with h3 | ⟨h3, h4⟩
      all_goals
        go_enter Try.func24, Try.ntmps24
        go_wp2_with fail
        refine (skipDigits_int s _ (k + 2) _ (by omega) hs (by omega)).mono ?_
        rintro e w' ⟨rfl, j, rfl, hsd⟩
        have HSD : Hid (SD (chr s) s.size (k + 2) j) := hsd
        clear hsd
        by_cases hj : k + 2 < j
        · have hji : (k : Int) + 1 + 1 < (j : Int) := by omega
          go_wp2
          go_ret2
          exact ⟨rfl, .inr ⟨hlt, HE.out, k + 2, j, .inr ⟨rfl, hl1, HS.out⟩, HSD.out, by simp [hj]⟩⟩
        · have hji : ¬ (k : Int) + 1 + 1 < (j : Int) := by omega
          go_wp2
          go_ret2
          exact ⟨rfl, .inr ⟨hlt, HE.out, k + 2, j, .inr ⟨rfl, hl1, HS.out⟩, HSD.out, by simp [hj]; omega⟩⟩
    · have HNS : Hid (¬ (k + 1 < s.size ∧ (chr s (k + 1) = 45 ∨ chr s (k + 1) = 43))) := hsg
      by_cases hl1 : k + 1 < s.size
      · have hidx1 := idx s (k + 1) hl1 ((k : Int) + 1) (by omega)
        have hk1 : (k : Int) + 1 < (s.size : Int) := by omega
        have h3 : (chr s (k + 1) == 45) = false := by
          have : chr s (k + 1) ≠ 45 := fun h => hsg ⟨hl1, .inl h⟩
          simpa using this
        have h4 : (chr s (k + 1) == 43) = false := by
          have : chr s (k + 1) ≠ 43 := fun h => hsg ⟨hl1, .inr h⟩
          simpa using this
        clear hsg
        rcases hcase with h1 | ⟨h1, h2⟩
        all_goals
          go_enter Try.func24, Try.ntmps24
          go_wp2_with fail
          refine (skipDigits_int s _ (k + 1) _ (by omega) hs (by omega)).mono ?_
          rintro e w' ⟨rfl, j, rfl, hsd⟩
          have HSD : Hid (SD (chr s) s.size (k + 1) j) := hsd
          clear hsd
          by_cases hj : k + 1 < j
          · have hji : (k : Int) + 1 < (j : Int) := by omega
            go_wp2
            go_ret2
            exact ⟨rfl, .inr ⟨hlt, HE.out, k + 1, j, .inl ⟨rfl, HNS.out⟩, HSD.out, by simp [hj]⟩⟩
          · have hji : ¬ (k : Int) + 1 < (j : Int) := by omega
            go_wp2
            go_ret2
            exact ⟨rfl, .inr ⟨hlt, HE.out, k + 1, j, .inl ⟨rfl, HNS.out⟩, HSD.out, by simp [hj]; omega⟩⟩
      · have hk1 : ¬ (k : Int) + 1 < (s.size : Int) := by omega
        clear hsg
        rcases hcase with h1 | ⟨h1, h2⟩
        all_goals
          go_enter Try.func24, Try.ntmps24
          go_wp2_with fail
          refine (skipDigits_int s _ (k + 1) _ (by omega) hs (by omega)).mono ?_
          rintro e w' ⟨rfl, j, rfl, hsd⟩
          have HSD : Hid (SD (chr s) s.size (k + 1) j) := hsd
          clear hsd
          by_cases hj : k + 1 < j
          · have hji : (k : Int) + 1 < (j : Int) := by omega
            go_wp2
            go_ret2
            exact ⟨rfl, .inr ⟨hlt, HE.out, k + 1, j, .inl ⟨rfl, HNS.out⟩, HSD.out, by simp [hj]⟩⟩
          · have hji : ¬ (k : Int) + 1 < (j : Int) := by omega
            go_wp2
            go_ret2
            exact ⟨rfl, .inr ⟨hlt, HE.out, k + 1, j, .inl ⟨rfl, HNS.out⟩, HSD.out, by simp [hj]; omega⟩⟩
  · have HE : Hid (chr s k ≠ 101 ∧ chr s k ≠ 69) := ⟨fun h => he (.inl h), fun h => he (.inr h)⟩
    have h1 : (chr s k != 101) = true := by simpa using HE.out.1
    have h2 : (chr s k != 69) = true := by simpa using HE.out.2
    clear he hn
    go_enter Try.func24, Try.ntmps24
    go_wp2
    go_ret2
    exact ⟨rfl, .inl ⟨.inr HE.out, rfl⟩⟩
theorem skipExponent_int (s : ByteArray) (i : Int) (k : Nat) (w : World) (hik : i = (k : Int)) (hs : s.size ≤ 1048576) (hi : k ≤ s.size) :
    Calls Try.prog 24 #[.string s, .int .i64 i] w fun e w' => w' = w ∧ ExpRes s k e := by
  subst hik
  exact skipExponent_any s k w hs hi
end Go.Proofs.Qxb6602602a.Json
