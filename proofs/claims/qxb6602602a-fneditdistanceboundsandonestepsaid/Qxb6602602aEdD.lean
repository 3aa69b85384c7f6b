/-
  THE WALK OF FnEditDistanceBoundsAndOneStep.
-/
import Derived.Test.Qxb6602602aEdC
namespace Go.Proofs.Qxb6602602a.Ed
open Go.RowKit

theorem zzed_any (a : Option Addr) (n ca : Nat) (f : Nat → Int) (b : Option Addr) (m cb : Nat) (g : Nat → Int) (w : World) (hn : n ≤ 1025) (hm : m ≤ 1025) (hA : Runes w a n f) (hB : Runes w b m g) :
    Calls Try.prog 14 #[.slice a n ca, .slice b m cb] w fun e w' => e = .returned (.int .i64 (D f g n m)) ∧ Below w.heap.size w w' := by
  have HA : Hid (Runes w a n f) := hA
  have HB : Hid (Runes w b m g) := hB
  clear hA hB
  go_enter Try.func14, Try.ntmps14
  go_wp2_with fail
  refine (editDistance_any a n ca f b m cb g w hn hm HA.out HB.out).mono ?_
  rintro e w' ⟨rfl, hb⟩
  have HW : Hid (Below w.heap.size w w') := hb
  clear hb
  go_wp2
  go_ret
  exact ⟨rfl, HW.out⟩

theorem zz16 (a : Option Addr) (n ca : Nat) (b : Option Addr) (m cb : Nat) (x : Int) (w : World) (hn : n ≤ 1024) (hm : m ≤ 1024) :
    Calls Try.prog 16 #[.slice a n ca, .slice b m cb, .int .i32 x] w fun e w' => e = .returned (.bool true) ∧ w' = w := by
  go_enter Try.func16, Try.ntmps16
  go_wp2
  go_ret
  exact ⟨rfl, rfl⟩

set_option maxRecDepth 100000 in
set_option maxHeartbeats 400000 in
theorem ed_long (a : Option Addr) (n ca : Nat) (b : Option Addr) (m cb : Nat) (x : Int) (w : World) (hn : n ≤ maxLen) (hm : m ≤ maxLen) (h : 1024 < n ∨ 1024 < m) :
    Calls Try.prog 6 #[.slice a n ca, .slice b m cb, .int .i32 x] w fun e w' => e = .returned (.bool true) ∧ Below w.heap.size w w' := by
  unfold maxLen at hn hm
  by_cases c1 : (1048576 : Int) < (n : Int)
  · go_enter Try.func6, Try.ntmps6
    go_wp2
    go_ret
    exact ⟨rfl, Below.refl _ _⟩
  by_cases c2 : (1048576 : Int) < (m : Int)
  · go_enter Try.func6, Try.ntmps6
    go_wp2
    go_ret
    exact ⟨rfl, Below.refl _ _⟩
  by_cases c3 : (1048576 : Int) < (n : Int) + (m : Int)
  · go_enter Try.func6, Try.ntmps6
    go_wp2
    go_ret
    exact ⟨rfl, Below.refl _ _⟩
  by_cases c4 : (1024 : Int) < (n : Int)
  · go_enter Try.func6, Try.ntmps6
    go_wp2
    go_ret
    exact ⟨rfl, Below.refl _ _⟩
  · have c5 : (1024 : Int) < (m : Int) := by omega
    go_enter Try.func6, Try.ntmps6
    go_wp2
    go_ret
    exact ⟨rfl, Below.refl _ _⟩

set_option maxRecDepth 100000 in
set_option maxHeartbeats 4000000 in
theorem ed_short (a : Option Addr) (n ca : Nat) (f : Nat → Int) (b : Option Addr) (m cb : Nat) (g : Nat → Int) (x : Int) (w : World) (hn : n ≤ 1024) (hm : m ≤ 1024) (ha0 : a = none → n = 0 ∧ ca = 0) (hb0 : b = none → m = 0 ∧ cb = 0) (hA : Runes w a n f) (hB : Runes w b m g) :
    Calls Try.prog 6 #[.slice a n ca, .slice b m cb, .int .i32 x] w fun e w' => e = .returned (.bool true) ∧ Below w.heap.size w w' := by
  have HA : Hid (Runes w a n f) := hA
  have HB : Hid (Runes w b m g) := hB
  have HA0 : Hid (a = none → n = 0 ∧ ca = 0) := ha0
  have HB0 : Hid (b = none → m = 0 ∧ cb = 0) := hb0
  clear hA hB ha0 hb0
  go_enter Try.func6, Try.ntmps6
  go_wp2_with fail
  refine (zz16 _ _ _ _ _ _ _ _ hn hm).mono ?_
  rintro e w1 ⟨rfl, rfl⟩
  go_wp2_with fail
  refine (edClone_any a n ca f w1 hn HA0.out HA.out).mono ?_
  rintro e w2 ⟨a2, rfl, hr2, hb2⟩
  have HA2 : Hid (Runes w2 a2 n f) := hr2
  have HB2 : Hid (Runes w2 b m g) := HB.out.below hb2
  have HW2 : Hid (Below w1.heap.size w1 w2) := hb2
  clear hr2 hb2
  go_wp2_with fail
  refine (edClone_any b m cb g w2 hm HB0.out HB2.out).mono ?_
  rintro e w3 ⟨b3, rfl, hr3, hb3⟩
  have HA3 : Hid (Runes w3 a2 n f) := HA2.out.below hb3
  have HB3 : Hid (Runes w3 b3 m g) := hr3
  have HW3 : Hid (Below w1.heap.size w1 w3) := HW2.out.trans (hb3.mono HW2.out.size)
  clear hr3 hb3
  go_wp2_with fail
  refine (zzed_any a2 n n f b3 m m g w3 (by omega) (by omega) HA3.out HB3.out).mono ?_
  rintro e w4 ⟨rfl, hb4⟩
  have HA4 : Hid (Runes w4 a2 n f) := HA3.out.below hb4
  have HB4 : Hid (Runes w4 b3 m g) := HB3.out.below hb4
  have HW4 : Hid (Below w1.heap.size w1 w4) := HW3.out.trans (hb4.mono HW3.out.size)
  clear hb4
  have hg1 := (gap_le f g n m).1
  have hg2 := (gap_le f g n m).2
  have hg3 := D_nonneg f g n m
  have hg4 := D_le_max f g n m
  generalize hD : D f g n m = d at *
  have HD : Hid (D f g n m = d) := hD
  clear hD
  rcases Nat.lt_trichotomy n m with hnm | hnm | hnm
  · have q1 : (n : Int) - (m : Int) < 0 := by omega
    have q2 : (n : Int) < (m : Int) := by omega
    have q3 : ¬ d < -((n : Int) - (m : Int)) := by omega
    have q4 : ¬ (m : Int) < d := by omega
    have q5 : ((n : Int) == (m : Int)) = false := beq_eq_false_iff_ne.2 (by omega)
    clear hg4
    go_wp2_with fail
    refine (edEqual_any a2 n n f b3 m m g w4 hn hm HA4.out HB4.out).mono ?_
    rintro e w5 ⟨hb5, hres⟩
    have HA5 : Hid (Runes w5 a2 n f) := HA4.out.below hb5
    have HB5 : Hid (Runes w5 b3 m g) := HB4.out.below hb5
    have HW5 : Hid (Below w1.heap.size w1 w5) := HW4.out.trans (hb5.mono HW4.out.size)
    clear hb5
    rcases hres with ⟨rfl, hsame⟩ | ⟨rfl, hsame⟩
    · have hd0 : (d == 0) = true := by
        have := (zero_iff f g n m).2 hsame
        rw [HD.out] at this
        simp [this]
      clear hsame
      go_wp2_with fail
      refine (edAppend_any a2 n n f x w5 hn HA5.out).mono ?_
      rintro e w7 ⟨a7, rfl, hr7, hb7⟩
      have HR7 : Hid (Runes w7 a7 (n + 1) (app f n x)) := hr7
      have HB7 : Hid (Runes w7 b3 m g) := HB5.out.below hb7
      have HW7 : Hid (Below w1.heap.size w1 w7) := HW5.out.trans (hb7.mono HW5.out.size)
      clear hr7 hb7
      go_wp2_with fail
      refine (zzed_any a7 (n + 1) (n + 1) (app f n x) b3 m m g w7 (by omega) (by omega) HR7.out HB7.out).mono ?_
      rintro e w8 ⟨rfl, hb8⟩
      have HR8 : Hid (Runes w8 a7 (n + 1) (app f n x)) := HR7.out.below hb8
      have HB8 : Hid (Runes w8 b3 m g) := HB7.out.below hb8
      have HW8 : Hid (Below w1.heap.size w1 w8) := HW7.out.trans (hb8.mono HW7.out.size)
      clear hb8
      have h2a : D (app f n x) g (n + 1) m ≤ d + 1 := by rw [← HD.out]; exact (one_more f g n m x).1
      have h2b : d ≤ D (app f n x) g (n + 1) m + 1 := by rw [← HD.out]; exact (one_more f g n m x).2
      have h2c : 0 ≤ D (app f n x) g (n + 1) m := D_nonneg _ _ _ _
      generalize D (app f n x) g (n + 1) m = d2 at *
      go_wp2_with fail
      refine (edAppend_any b3 m m g x w8 hm HB8.out).mono ?_
      rintro e w9 ⟨b9, rfl, hr9, hb9⟩
      have HR9 : Hid (Runes w9 a7 (n + 1) (app f n x)) := HR8.out.below hb9
      have HS9 : Hid (Runes w9 b9 (m + 1) (app g m x)) := hr9
      have HW9 : Hid (Below w1.heap.size w1 w9) := HW8.out.trans (hb9.mono HW8.out.size)
      clear hr9 hb9
      go_wp2_with fail
      refine (zzed_any a7 (n + 1) (n + 1) (app f n x) b9 (m + 1) (m + 1) (app g m x) w9 (by omega) (by omega) HR9.out HS9.out).mono ?_
      rintro e wa ⟨rfl, hba⟩
      have HWa : Hid (Below w1.heap.size w1 wa) := HW9.out.trans (hba.mono HW9.out.size)
      clear hba
      have h3a : D (app f n x) (app g m x) (n + 1) (m + 1) ≤ d := by rw [← HD.out]; exact both_more f g n m x
      have h3c : 0 ≤ D (app f n x) (app g m x) (n + 1) (m + 1) := D_nonneg _ _ _ _
      generalize D (app f n x) (app g m x) (n + 1) (m + 1) = d3 at *
      go_wp2
      go_ret
      exact ⟨rfl, HWa.out⟩
    · have hd0 : (d == 0) = false := by
        have : d ≠ 0 := fun h => hsame ((zero_iff f g n m).1 (HD.out.trans h))
        simpa using this
      clear hsame
      go_wp2_with fail
      refine (edAppend_any a2 n n f x w5 hn HA5.out).mono ?_
      rintro e w7 ⟨a7, rfl, hr7, hb7⟩
      have HR7 : Hid (Runes w7 a7 (n + 1) (app f n x)) := hr7
      have HB7 : Hid (Runes w7 b3 m g) := HB5.out.below hb7
      have HW7 : Hid (Below w1.heap.size w1 w7) := HW5.out.trans (hb7.mono HW5.out.size)
      clear hr7 hb7
      go_wp2_with fail
      refine (zzed_any a7 (n + 1) (n + 1) (app f n x) b3 m m g w7 (by omega) (by omega) HR7.out HB7.out).mono ?_
      rintro e w8 ⟨rfl, hb8⟩
      have HR8 : Hid (Runes w8 a7 (n + 1) (app f n x)) := HR7.out.below hb8
      have HB8 : Hid (Runes w8 b3 m g) := HB7.out.below hb8
      have HW8 : Hid (Below w1.heap.size w1 w8) := HW7.out.trans (hb8.mono HW7.out.size)
      clear hb8
      have h2a : D (app f n x) g (n + 1) m ≤ d + 1 := by rw [← HD.out]; exact (one_more f g n m x).1
      have h2b : d ≤ D (app f n x) g (n + 1) m + 1 := by rw [← HD.out]; exact (one_more f g n m x).2
      have h2c : 0 ≤ D (app f n x) g (n + 1) m := D_nonneg _ _ _ _
      generalize D (app f n x) g (n + 1) m = d2 at *
      go_wp2_with fail
      refine (edAppend_any b3 m m g x w8 hm HB8.out).mono ?_
      rintro e w9 ⟨b9, rfl, hr9, hb9⟩
      have HR9 : Hid (Runes w9 a7 (n + 1) (app f n x)) := HR8.out.below hb9
      have HS9 : Hid (Runes w9 b9 (m + 1) (app g m x)) := hr9
      have HW9 : Hid (Below w1.heap.size w1 w9) := HW8.out.trans (hb9.mono HW8.out.size)
      clear hr9 hb9
      go_wp2_with fail
      refine (zzed_any a7 (n + 1) (n + 1) (app f n x) b9 (m + 1) (m + 1) (app g m x) w9 (by omega) (by omega) HR9.out HS9.out).mono ?_
      rintro e wa ⟨rfl, hba⟩
      have HWa : Hid (Below w1.heap.size w1 wa) := HW9.out.trans (hba.mono HW9.out.size)
      clear hba
      have h3a : D (app f n x) (app g m x) (n + 1) (m + 1) ≤ d := by rw [← HD.out]; exact both_more f g n m x
      have h3c : 0 ≤ D (app f n x) (app g m x) (n + 1) (m + 1) := D_nonneg _ _ _ _
      generalize D (app f n x) (app g m x) (n + 1) (m + 1) = d3 at *
      go_wp2
      go_ret
      exact ⟨rfl, HWa.out⟩
  · subst hnm
    have q1 : ¬ (n : Int) - (n : Int) < 0 := by omega
    have q4 : ¬ (n : Int) < d := by omega
    clear hg4
    go_wp2_with fail
    refine (edEqual_any a2 n n f b3 n n g w4 hn hn HA4.out HB4.out).mono ?_
    rintro e w5 ⟨hb5, hres⟩
    have HA5 : Hid (Runes w5 a2 n f) := HA4.out.below hb5
    have HB5 : Hid (Runes w5 b3 n g) := HB4.out.below hb5
    have HW5 : Hid (Below w1.heap.size w1 w5) := HW4.out.trans (hb5.mono HW4.out.size)
    clear hb5
    rcases hres with ⟨rfl, hsame⟩ | ⟨rfl, hsame⟩
    · have hd0 : (d == 0) = true := by
        have := (zero_iff f g n n).2 hsame
        rw [HD.out] at this
        simp [this]
      clear hsame
      go_wp2_with fail
      refine (edHamming_any a2 n n f b3 n g w5 hn HA5.out HB5.out).mono ?_
      rintro e w6 ⟨hb6, rfl⟩
      have hham : d ≤ ham f g n := by rw [← HD.out]; exact D_le_ham f g n
      have hhb := ham_bound f g n
      have HA6 : Hid (Runes w6 a2 n f) := HA5.out.below hb6
      have HB6 : Hid (Runes w6 b3 n g) := HB5.out.below hb6
      have HW6 : Hid (Below w1.heap.size w1 w6) := HW5.out.trans (hb6.mono HW5.out.size)
      clear hb6
      go_wp2_with fail
      refine (edAppend_any a2 n n f x w6 hn HA6.out).mono ?_
      rintro e w7 ⟨a7, rfl, hr7, hb7⟩
      have HR7 : Hid (Runes w7 a7 (n + 1) (app f n x)) := hr7
      have HB7 : Hid (Runes w7 b3 n g) := HB6.out.below hb7
      have HW7 : Hid (Below w1.heap.size w1 w7) := HW6.out.trans (hb7.mono HW6.out.size)
      clear hr7 hb7
      go_wp2_with fail
      refine (zzed_any a7 (n + 1) (n + 1) (app f n x) b3 n n g w7 (by omega) (by omega) HR7.out HB7.out).mono ?_
      rintro e w8 ⟨rfl, hb8⟩
      have HR8 : Hid (Runes w8 a7 (n + 1) (app f n x)) := HR7.out.below hb8
      have HB8 : Hid (Runes w8 b3 n g) := HB7.out.below hb8
      have HW8 : Hid (Below w1.heap.size w1 w8) := HW7.out.trans (hb8.mono HW7.out.size)
      clear hb8
      have h2a : D (app f n x) g (n + 1) n ≤ d + 1 := by rw [← HD.out]; exact (one_more f g n n x).1
      have h2b : d ≤ D (app f n x) g (n + 1) n + 1 := by rw [← HD.out]; exact (one_more f g n n x).2
      have h2c : 0 ≤ D (app f n x) g (n + 1) n := D_nonneg _ _ _ _
      generalize D (app f n x) g (n + 1) n = d2 at *
      go_wp2_with fail
      refine (edAppend_any b3 n n g x w8 hn HB8.out).mono ?_
      rintro e w9 ⟨b9, rfl, hr9, hb9⟩
      have HR9 : Hid (Runes w9 a7 (n + 1) (app f n x)) := HR8.out.below hb9
      have HS9 : Hid (Runes w9 b9 (n + 1) (app g n x)) := hr9
      have HW9 : Hid (Below w1.heap.size w1 w9) := HW8.out.trans (hb9.mono HW8.out.size)
      clear hr9 hb9
      go_wp2_with fail
      refine (zzed_any a7 (n + 1) (n + 1) (app f n x) b9 (n + 1) (n + 1) (app g n x) w9 (by omega) (by omega) HR9.out HS9.out).mono ?_
      rintro e wa ⟨rfl, hba⟩
      have HWa : Hid (Below w1.heap.size w1 wa) := HW9.out.trans (hba.mono HW9.out.size)
      clear hba
      have h3a : D (app f n x) (app g n x) (n + 1) (n + 1) ≤ d := by rw [← HD.out]; exact both_more f g n n x
      have h3c : 0 ≤ D (app f n x) (app g n x) (n + 1) (n + 1) := D_nonneg _ _ _ _
      generalize D (app f n x) (app g n x) (n + 1) (n + 1) = d3 at *
      go_wp2
      go_ret
      exact ⟨rfl, HWa.out⟩
    · have hd0 : (d == 0) = false := by
        have : d ≠ 0 := fun h => hsame ((zero_iff f g n n).1 (HD.out.trans h))
        simpa using this
      clear hsame
      go_wp2_with fail
      refine (edHamming_any a2 n n f b3 n g w5 hn HA5.out HB5.out).mono ?_
      rintro e w6 ⟨hb6, rfl⟩
      have hham : d ≤ ham f g n := by rw [← HD.out]; exact D_le_ham f g n
      have hhb := ham_bound f g n
      have HA6 : Hid (Runes w6 a2 n f) := HA5.out.below hb6
      have HB6 : Hid (Runes w6 b3 n g) := HB5.out.below hb6
      have HW6 : Hid (Below w1.heap.size w1 w6) := HW5.out.trans (hb6.mono HW5.out.size)
      clear hb6
      go_wp2_with fail
      refine (edAppend_any a2 n n f x w6 hn HA6.out).mono ?_
      rintro e w7 ⟨a7, rfl, hr7, hb7⟩
      have HR7 : Hid (Runes w7 a7 (n + 1) (app f n x)) := hr7
      have HB7 : Hid (Runes w7 b3 n g) := HB6.out.below hb7
      have HW7 : Hid (Below w1.heap.size w1 w7) := HW6.out.trans (hb7.mono HW6.out.size)
      clear hr7 hb7
      go_wp2_with fail
      refine (zzed_any a7 (n + 1) (n + 1) (app f n x) b3 n n g w7 (by omega) (by omega) HR7.out HB7.out).mono ?_
      rintro e w8 ⟨rfl, hb8⟩
      have HR8 : Hid (Runes w8 a7 (n + 1) (app f n x)) := HR7.out.below hb8
      have HB8 : Hid (Runes w8 b3 n g) := HB7.out.below hb8
      have HW8 : Hid (Below w1.heap.size w1 w8) := HW7.out.trans (hb8.mono HW7.out.size)
      clear hb8
      have h2a : D (app f n x) g (n + 1) n ≤ d + 1 := by rw [← HD.out]; exact (one_more f g n n x).1
      have h2b : d ≤ D (app f n x) g (n + 1) n + 1 := by rw [← HD.out]; exact (one_more f g n n x).2
      have h2c : 0 ≤ D (app f n x) g (n + 1) n := D_nonneg _ _ _ _
      generalize D (app f n x) g (n + 1) n = d2 at *
      go_wp2_with fail
      refine (edAppend_any b3 n n g x w8 hn HB8.out).mono ?_
      rintro e w9 ⟨b9, rfl, hr9, hb9⟩
      have HR9 : Hid (Runes w9 a7 (n + 1) (app f n x)) := HR8.out.below hb9
      have HS9 : Hid (Runes w9 b9 (n + 1) (app g n x)) := hr9
      have HW9 : Hid (Below w1.heap.size w1 w9) := HW8.out.trans (hb9.mono HW8.out.size)
      clear hr9 hb9
      go_wp2_with fail
      refine (zzed_any a7 (n + 1) (n + 1) (app f n x) b9 (n + 1) (n + 1) (app g n x) w9 (by omega) (by omega) HR9.out HS9.out).mono ?_
      rintro e wa ⟨rfl, hba⟩
      have HWa : Hid (Below w1.heap.size w1 wa) := HW9.out.trans (hba.mono HW9.out.size)
      clear hba
      have h3a : D (app f n x) (app g n x) (n + 1) (n + 1) ≤ d := by rw [← HD.out]; exact both_more f g n n x
      have h3c : 0 ≤ D (app f n x) (app g n x) (n + 1) (n + 1) := D_nonneg _ _ _ _
      generalize D (app f n x) (app g n x) (n + 1) (n + 1) = d3 at *
      go_wp2
      go_ret
      exact ⟨rfl, HWa.out⟩
  · have q1 : ¬ (n : Int) - (m : Int) < 0 := by omega
    have q2 : ¬ (n : Int) < (m : Int) := by omega
    have q3 : ¬ d < (n : Int) - (m : Int) := by omega
    have q4 : ¬ (n : Int) < d := by omega
    have q5 : ((n : Int) == (m : Int)) = false := beq_eq_false_iff_ne.2 (by omega)
    clear hg4
    go_wp2_with fail
    refine (edEqual_any a2 n n f b3 m m g w4 hn hm HA4.out HB4.out).mono ?_
    rintro e w5 ⟨hb5, hres⟩
    have HA5 : Hid (Runes w5 a2 n f) := HA4.out.below hb5
    have HB5 : Hid (Runes w5 b3 m g) := HB4.out.below hb5
    have HW5 : Hid (Below w1.heap.size w1 w5) := HW4.out.trans (hb5.mono HW4.out.size)
    clear hb5
    rcases hres with ⟨rfl, hsame⟩ | ⟨rfl, hsame⟩
    · have hd0 : (d == 0) = true := by
        have := (zero_iff f g n m).2 hsame
        rw [HD.out] at this
        simp [this]
      clear hsame
      go_wp2_with fail
      refine (edAppend_any a2 n n f x w5 hn HA5.out).mono ?_
      rintro e w7 ⟨a7, rfl, hr7, hb7⟩
      have HR7 : Hid (Runes w7 a7 (n + 1) (app f n x)) := hr7
      have HB7 : Hid (Runes w7 b3 m g) := HB5.out.below hb7
      have HW7 : Hid (Below w1.heap.size w1 w7) := HW5.out.trans (hb7.mono HW5.out.size)
      clear hr7 hb7
      go_wp2_with fail
      refine (zzed_any a7 (n + 1) (n + 1) (app f n x) b3 m m g w7 (by omega) (by omega) HR7.out HB7.out).mono ?_
      rintro e w8 ⟨rfl, hb8⟩
      have HR8 : Hid (Runes w8 a7 (n + 1) (app f n x)) := HR7.out.below hb8
      have HB8 : Hid (Runes w8 b3 m g) := HB7.out.below hb8
      have HW8 : Hid (Below w1.heap.size w1 w8) := HW7.out.trans (hb8.mono HW7.out.size)
      clear hb8
      have h2a : D (app f n x) g (n + 1) m ≤ d + 1 := by rw [← HD.out]; exact (one_more f g n m x).1
      have h2b : d ≤ D (app f n x) g (n + 1) m + 1 := by rw [← HD.out]; exact (one_more f g n m x).2
      have h2c : 0 ≤ D (app f n x) g (n + 1) m := D_nonneg _ _ _ _
      generalize D (app f n x) g (n + 1) m = d2 at *
      go_wp2_with fail
      refine (edAppend_any b3 m m g x w8 hm HB8.out).mono ?_
      rintro e w9 ⟨b9, rfl, hr9, hb9⟩
      have HR9 : Hid (Runes w9 a7 (n + 1) (app f n x)) := HR8.out.below hb9
      have HS9 : Hid (Runes w9 b9 (m + 1) (app g m x)) := hr9
      have HW9 : Hid (Below w1.heap.size w1 w9) := HW8.out.trans (hb9.mono HW8.out.size)
      clear hr9 hb9
      go_wp2_with fail
      refine (zzed_any a7 (n + 1) (n + 1) (app f n x) b9 (m + 1) (m + 1) (app g m x) w9 (by omega) (by omega) HR9.out HS9.out).mono ?_
      rintro e wa ⟨rfl, hba⟩
      have HWa : Hid (Below w1.heap.size w1 wa) := HW9.out.trans (hba.mono HW9.out.size)
      clear hba
      have h3a : D (app f n x) (app g m x) (n + 1) (m + 1) ≤ d := by rw [← HD.out]; exact both_more f g n m x
      have h3c : 0 ≤ D (app f n x) (app g m x) (n + 1) (m + 1) := D_nonneg _ _ _ _
      generalize D (app f n x) (app g m x) (n + 1) (m + 1) = d3 at *
      go_wp2
      go_ret
      exact ⟨rfl, HWa.out⟩
    · have hd0 : (d == 0) = false := by
        have : d ≠ 0 := fun h => hsame ((zero_iff f g n m).1 (HD.out.trans h))
        simpa using this
      clear hsame
      go_wp2_with fail
      refine (edAppend_any a2 n n f x w5 hn HA5.out).mono ?_
      rintro e w7 ⟨a7, rfl, hr7, hb7⟩
      have HR7 : Hid (Runes w7 a7 (n + 1) (app f n x)) := hr7
      have HB7 : Hid (Runes w7 b3 m g) := HB5.out.below hb7
      have HW7 : Hid (Below w1.heap.size w1 w7) := HW5.out.trans (hb7.mono HW5.out.size)
      clear hr7 hb7
      go_wp2_with fail
      refine (zzed_any a7 (n + 1) (n + 1) (app f n x) b3 m m g w7 (by omega) (by omega) HR7.out HB7.out).mono ?_
      rintro e w8 ⟨rfl, hb8⟩
      have HR8 : Hid (Runes w8 a7 (n + 1) (app f n x)) := HR7.out.below hb8
      have HB8 : Hid (Runes w8 b3 m g) := HB7.out.below hb8
      have HW8 : Hid (Below w1.heap.size w1 w8) := HW7.out.trans (hb8.mono HW7.out.size)
      clear hb8
      have h2a : D (app f n x) g (n + 1) m ≤ d + 1 := by rw [← HD.out]; exact (one_more f g n m x).1
      have h2b : d ≤ D (app f n x) g (n + 1) m + 1 := by rw [← HD.out]; exact (one_more f g n m x).2
      have h2c : 0 ≤ D (app f n x) g (n + 1) m := D_nonneg _ _ _ _
      generalize D (app f n x) g (n + 1) m = d2 at *
      go_wp2_with fail
      refine (edAppend_any b3 m m g x w8 hm HB8.out).mono ?_
      rintro e w9 ⟨b9, rfl, hr9, hb9⟩
      have HR9 : Hid (Runes w9 a7 (n + 1) (app f n x)) := HR8.out.below hb9
      have HS9 : Hid (Runes w9 b9 (m + 1) (app g m x)) := hr9
      have HW9 : Hid (Below w1.heap.size w1 w9) := HW8.out.trans (hb9.mono HW8.out.size)
      clear hr9 hb9
      go_wp2_with fail
      refine (zzed_any a7 (n + 1) (n + 1) (app f n x) b9 (m + 1) (m + 1) (app g m x) w9 (by omega) (by omega) HR9.out HS9.out).mono ?_
      rintro e wa ⟨rfl, hba⟩
      have HWa : Hid (Below w1.heap.size w1 wa) := HW9.out.trans (hba.mono HW9.out.size)
      clear hba
      have h3a : D (app f n x) (app g m x) (n + 1) (m + 1) ≤ d := by rw [← HD.out]; exact both_more f g n m x
      have h3c : 0 ≤ D (app f n x) (app g m x) (n + 1) (m + 1) := D_nonneg _ _ _ _
      generalize D (app f n x) (app g m x) (n + 1) (m + 1) = d3 at *
      go_wp2
      go_ret
      exact ⟨rfl, HWa.out⟩
end Go.Proofs.Qxb6602602a.Ed
