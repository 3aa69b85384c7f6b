/-
  THE CONTRACTS OF edClone, edAppend, edEqual, edHamming.
-/
import Derived.Test.Qxb6602602aRows
import Derived.Test.Qxb6602602aEdPlain
import Derived.WalkKit
import Derived.RowKit3
import Derived.WalkSpells
import Derived.WalkLawsBesides
import Derived.Outline
import Derived.Deep.Light
import Derived.Deep.QuietTactic
import Derived.BigQuiet
namespace Go.Proofs.Qxb6602602a.Ed
open Go.RowKit

/-- A slice of 'len' runes: its i-th cell holds 'f i'. -/
def Runes (w : World) (a : Option Addr) (len : Nat) (f : Nat → Int) : Prop :=
  0 < len → ∃ b off, a = some ⟨b, off, none⟩ ∧ b < w.heap.size ∧ ∀ i, i < len → w.cell? ⟨b, off + i, none⟩ = some (.int .i32 (f i))
theorem Runes.below {w w' : World} {a : Option Addr} {len : Nat} {f : Nat → Int} (h : Runes w a len f) (hb : Below w.heap.size w w') : Runes w' a len f := by
  intro hl
  obtain ⟨b, off, rfl, hbs, hc⟩ := h hl
  exact ⟨b, off, rfl, Nat.lt_of_lt_of_le hbs hb.size, fun i hi => (hb.cell (p := ⟨b, off + i, none⟩) hbs).trans (hc i hi)⟩
theorem Runes.draws {w : World} {a : Option Addr} {len : Nat} {f : Nat → Int} (h : Runes w a len f) (q : Nat) : Runes (w.drewN q) a len f := h.below (below_drewN (Below.refl _ _) q)

theorem info21 : (Try.prog.info? 21).map (fun i => (i.zero, i.size, i.bytes)) = some (some (.int .i32 0), 1, 4) := by kernel_rfl

theorem edClone_nil (w : World) : Calls Try.prog 13 #[.slice none 0 0] w fun e w' => e = .returned (.slice none 0 0) ∧ w' = w := by
  have hnil := fun w => Lib.run_eql_slice_nil (P := Try.prog) w 26 21 none 0 0 0 0 Try.underlying26
  go_enter Try.func13, Try.ntmps13
  go_wp2
  go_ret
  exact ⟨rfl, rfl⟩

set_option maxHeartbeats 1000000 in
theorem edClone_some (x : Addr) (n cap : Nat) (f : Nat → Int) (w : World) (hn : n ≤ 1024) (hA : Runes w (some x) n f) :
    Calls Try.prog 13 #[.slice (some x) n cap] w fun e w' => e = .returned (.slice (some ⟨w.heap.size, 0, none⟩) n n) ∧ Runes w' (some ⟨w.heap.size, 0, none⟩) n f ∧ Below w.heap.size w w' := by
  obtain ⟨i21, ki, kz0, kz1, kz2⟩ := info_parts info21
  have hnil := fun w => Lib.run_eql_slice_nil (P := Try.prog) w 26 21 (some x) n cap 0 0 Try.underlying26
  have HA : Hid (Runes w (some x) n f) := hA
  clear hA
  go_enter Try.func13, Try.ntmps13
  go_wp2_with (at_make; refine wpList_make_full _ rfl (.tmp 8) (.tmp 8) 26 rfl w.heap.size 21 i21 _ 1 Try.underlying26 ki kz0 kz1 .i64 .i64 _ _ n rfl rfl rfl rfl (by rw [kz2]; omega) (by unfold maxLen; omega) (Nat.le_refl _) ?_; intro w1 hown1 hg1)
  have hb1 : Below w.heap.size w w1 := (Below.refl _ _).grown hg1 (Nat.le_refl _) (fun j hj => by cases hj)
  clear hg1
  go_loopw [4] (fun i wr => ∃ (k : Nat) (xs : List Value), k ≤ n ∧ i = .int .i64 k ∧ wr.ownsRow w.heap.size 21 1 (.slice (some ⟨w.heap.size, 0, none⟩) n n) n xs ∧ (∀ y, y < k → xs[y]? = some (.int .i32 (f y))) ∧ Below w.heap.size w wr) (fun i _ => n - (intOf i).toNat)
  case atStart => exact ⟨0, _, Nat.zero_le _, rfl, hown1, fun j hj => absurd hj (Nat.not_lt_zero _), hb1⟩
  case round =>
    obtain ⟨k, xs, hk, rfl, hown, hall, hbr⟩ := hrel
    have HX : Hid (∀ y, y < k → xs[y]? = some (.int .i32 (f y))) := hall
    have HO : Hid (wr.ownsRow w.heap.size 21 1 (.slice (some ⟨w.heap.size, 0, none⟩) n n) n xs) := hown
    have HB : Hid (Below w.heap.size w wr) := hbr
    clear hall hown hbr hown1 hb1
    by_cases hlt : k < n
    · obtain ⟨b, off, e0, hb, hc⟩ := HA.out (by omega)
      obtain rfl : x = ⟨b, off, none⟩ := by simpa using e0
      have hck := (HB.out.cell (p := ⟨b, off + k, none⟩) hb).trans (hc k hlt)
      have hi : (k : Int) < (n : Int) := by omega
      have hlx : xs.length = n := by have := HO.out.1; omega
      obtain ⟨v0, hv0⟩ : ∃ v, wr.cell? ⟨w.heap.size, k, none⟩ = some v := ⟨xs[k], by rw [HO.out.cellAt _ (by omega)]; simp⟩
      have hfz := HO.out.frozenAt k
      clear hc e0
      go_wp2
      go_roundw
      case rel => exact ⟨k + 1, xs.set k (.int .i32 (f k)), by omega, by go_num, (HO.out.stored k _).1, fun y hy => by
        by_cases e : y = k
        · subst e; simp [hlx, hlt]
        · rw [List.getElem?_set_ne (by omega)]; exact HX.out y (by omega), HB.out.setCell (Nat.le_refl _) _⟩
      case measure => simp [intOf]; omega
    · have hi : ¬ (k : Int) < (n : Int) := by omega
      obtain rfl : k = n := by omega
      go_wp2
      go_ret
      exact ⟨rfl, fun _ => ⟨_, _, rfl, (HO.out.lt w.heap.size rfl).2, fun i hi => by rw [Nat.zero_add, HO.out.cellAt i (by omega)]; exact HX.out i hi⟩, HB.out⟩

theorem edClone_any (a : Option Addr) (n cap : Nat) (f : Nat → Int) (w : World) (hn : n ≤ 1024) (h0 : a = none → n = 0 ∧ cap = 0) (hA : Runes w a n f) :
    Calls Try.prog 13 #[.slice a n cap] w fun e w' => ∃ a', e = .returned (.slice a' n n) ∧ Runes w' a' n f ∧ Below w.heap.size w w' := by
  cases a with
  | none =>
    obtain ⟨rfl, rfl⟩ := h0 rfl
    refine (edClone_nil w).mono ?_
    rintro e w' ⟨rfl, rfl⟩
    exact ⟨none, rfl, fun h => absurd h (Nat.lt_irrefl _), Below.refl _ _⟩
  | some x =>
    refine (edClone_some x n cap f w hn hA).mono ?_
    rintro e w' ⟨rfl, h1, h2⟩
    exact ⟨_, rfl, h1, h2⟩

set_option maxHeartbeats 1000000 in
theorem edAppend_any (a : Option Addr) (n cap : Nat) (f : Nat → Int) (x : Int) (w : World) (hn : n ≤ 1024) (hA : Runes w a n f) :
    Calls Try.prog 19 #[.slice a n cap, .int .i32 x] w fun e w' => ∃ a', e = .returned (.slice a' (n + 1) (n + 1)) ∧ Runes w' a' (n + 1) (app f n x) ∧ Below w.heap.size w w' := by
  obtain ⟨i21, ki, kz0, kz1, kz2⟩ := info_parts info21
  have HA : Hid (Runes w a n f) := hA
  clear hA
  go_enter Try.func19, Try.ntmps19
  go_wp2_with (at_make; refine wpList_make_full _ rfl (.tmp 9) (.tmp 9) 26 rfl w.heap.size 21 i21 _ 1 Try.underlying26 ki kz0 kz1 .i64 .i64 _ _ (n + 1) rfl rfl (by omega) (by omega) (by rw [kz2]; omega) (by unfold maxLen; omega) (Nat.le_refl _) ?_; intro w1 hown1 hg1)
  have hb1 : Below w.heap.size w w1 := (Below.refl _ _).grown hg1 (Nat.le_refl _) (fun j hj => by cases hj)
  clear hg1
  go_loopw [6] (fun i wr => ∃ (k : Nat) (xs : List Value), k ≤ n ∧ i = .int .i64 k ∧ wr.ownsRow w.heap.size 21 1 (.slice (some ⟨w.heap.size, 0, none⟩) (n + 1) (n + 1)) (n + 1) xs ∧ (∀ y, y < k → xs[y]? = some (.int .i32 (f y))) ∧ Below w.heap.size w wr) (fun i _ => n - (intOf i).toNat)
  case atStart => exact ⟨0, _, Nat.zero_le _, rfl, hown1, fun j hj => absurd hj (Nat.not_lt_zero _), hb1⟩
  case round =>
    obtain ⟨k, xs, hk, rfl, hown, hall, hbr⟩ := hrel
    have HX : Hid (∀ y, y < k → xs[y]? = some (.int .i32 (f y))) := hall
    have HO : Hid (wr.ownsRow w.heap.size 21 1 (.slice (some ⟨w.heap.size, 0, none⟩) (n + 1) (n + 1)) (n + 1) xs) := hown
    have HB : Hid (Below w.heap.size w wr) := hbr
    have hlx : xs.length = n + 1 := by have := hown.1; omega
    clear hall hown hbr hown1 hb1
    by_cases hlt : k < n
    · obtain ⟨b, off, rfl, hb, hc⟩ := HA.out (by omega)
      have hck := (HB.out.cell (p := ⟨b, off + k, none⟩) hb).trans (hc k hlt)
      have hi : (k : Int) < (n : Int) := by omega
      have hi1 : (k : Int) < (n : Int) + 1 := by omega
      obtain ⟨v0, hv0⟩ : ∃ v, wr.cell? ⟨w.heap.size, k, none⟩ = some v := ⟨xs[k], by rw [HO.out.cellAt _ (by omega)]; simp⟩
      have hfz := HO.out.frozenAt k
      clear hc
      go_wp2
      go_roundw
      case rel => exact ⟨k + 1, xs.set k (.int .i32 (f k)), by omega, by go_num, (HO.out.stored k _).1, fun y hy => by
        by_cases e : y = k
        · rw [e, List.getElem?_set_self (by omega)]
        · rw [List.getElem?_set_ne (by omega)]; exact HX.out y (by omega), HB.out.setCell (Nat.le_refl _) _⟩
      case measure => simp [intOf]; omega
    · have hi : ¬ (k : Int) < (n : Int) := by omega
      obtain rfl : k = n := by omega
      obtain ⟨v0, hv0⟩ : ∃ v, wr.cell? ⟨w.heap.size, k, none⟩ = some v := ⟨xs[k], by rw [HO.out.cellAt _ (by omega)]; simp⟩
      have hfz := HO.out.frozenAt k
      have hi1 : (k : Int) < (k : Int) + 1 := by omega
      have HS := (HO.out.stored k (.int .i32 x)).1
      have HS1 : Hid ((wr.setCell ⟨w.heap.size, k, none⟩ (.int .i32 x)).ownsRow w.heap.size 21 1 (.slice (some ⟨w.heap.size, 0, none⟩) (k + 1) (k + 1)) (k + 1) (xs.set k (.int .i32 x))) := HS
      clear HS
      go_wp2
      go_ret
      exact ⟨_, rfl, fun _ => ⟨_, _, rfl, (HS1.out.lt w.heap.size rfl).2, fun i hi => by
        rw [Nat.zero_add, HS1.out.cellAt i (by omega)]
        by_cases e : i = k
        · rw [e, app_at, List.getElem?_set_self (by omega)]
        · rw [app_lt f k x i (by omega), List.getElem?_set_ne (by omega)]; exact HX.out i (by omega)⟩, HB.out.setCell (Nat.le_refl _) _⟩

def Same (f g : Nat → Int) (n m : Nat) : Prop := n = m ∧ ∀ t, t < n → f t = g t

set_option maxHeartbeats 1000000 in
theorem edEqual_any (a : Option Addr) (n ca : Nat) (f : Nat → Int) (b : Option Addr) (m cb : Nat) (g : Nat → Int) (w : World) (hn : n ≤ 1024) (hm : m ≤ 1024) (hA : Runes w a n f) (hB : Runes w b m g) :
    Calls Try.prog 17 #[.slice a n ca, .slice b m cb] w fun e w' => Below w.heap.size w w' ∧ ((e = .returned (.bool true) ∧ Same f g n m) ∨ (e = .returned (.bool false) ∧ ¬ Same f g n m)) := by
  have HA : Hid (Runes w a n f) := hA
  have HB : Hid (Runes w b m g) := hB
  clear hA hB
  by_cases hnm : n = m
  · subst hnm
    go_enter Try.func17, Try.ntmps17
    go_wp2
    go_loopw [5] (fun i wr => ∃ k : Nat, k ≤ n ∧ i = .int .i64 k ∧ (∀ t, t < k → f t = g t) ∧ Below w.heap.size w wr) (fun i _ => n - (intOf i).toNat)
    case atStart => exact ⟨0, Nat.zero_le _, rfl, fun t ht => absurd ht (Nat.not_lt_zero _), Below.refl _ _⟩
    case round =>
      obtain ⟨k, hk, rfl, hall, hbr⟩ := hrel
      have HL : Hid (∀ t, t < k → f t = g t) := hall
      have HW : Hid (Below w.heap.size w wr) := hbr
      clear hall hbr
      by_cases hlt : k < n
      · obtain ⟨p, po, rfl, hp, hpc⟩ := HA.out (by omega)
        obtain ⟨q, qo, rfl, hq, hqc⟩ := HB.out (by omega)
        have c1 := (HW.out.cell (p := ⟨p, po + k, none⟩) hp).trans (hpc k hlt)
        have c2 := (HW.out.cell (p := ⟨q, qo + k, none⟩) hq).trans (hqc k hlt)
        have hi : (k : Int) < (n : Int) := by omega
        clear hpc hqc
        by_cases he : f k = g k
        · have hb : (f k != g k) = false := by simp [he]
          have HE : Hid (f k = g k) := he
          clear he
          go_wp2
          go_quiet (fail)
          go_wp2
          exact ⟨⟨k + 1, by omega, by go_num, fun t ht => by
            by_cases e : t = k
            · subst e; exact HE.out
            · exact HL.out t (by omega), below_drewN HW.out _⟩, by simp only [intOf]; omega⟩
        · have hb : (f k != g k) = true := by simpa using he
          have HE : Hid (f k ≠ g k) := he
          clear he
          go_wp2
          go_quiet (fail)
          go_wp2
          go_ret
          exact ⟨below_drewN HW.out _, .inr ⟨rfl, fun h => HE.out (h.2 k hlt)⟩⟩
      · have hi : ¬ (k : Int) < (n : Int) := by omega
        go_wp2
        go_ret
        exact ⟨HW.out, .inl ⟨rfl, rfl, fun t ht => HL.out t (by omega)⟩⟩
  · have hb : ((n : Int) != (m : Int)) = true := by simp; omega
    have HN : Hid (n ≠ m) := hnm
    clear hnm
    go_enter Try.func17, Try.ntmps17
    go_wp2
    go_ret
    exact ⟨Below.refl _ _, .inr ⟨rfl, fun h => HN.out h.1⟩⟩

set_option maxHeartbeats 1000000 in
theorem edHamming_any (a : Option Addr) (n ca : Nat) (f : Nat → Int) (b : Option Addr) (cb : Nat) (g : Nat → Int) (w : World) (hn : n ≤ 1024) (hA : Runes w a n f) (hB : Runes w b n g) :
    Calls Try.prog 18 #[.slice a n ca, .slice b n cb] w fun e w' => Below w.heap.size w w' ∧ e = .returned (.int .i64 (ham f g n)) := by
  have HA : Hid (Runes w a n f) := hA
  have HB : Hid (Runes w b n g) := hB
  clear hA hB
  go_enter Try.func18, Try.ntmps18
  go_wp2
  go_loopw [5, 6] (fun c i wr => ∃ k : Nat, k ≤ n ∧ i = .int .i64 k ∧ c = .int .i64 (ham f g k) ∧ Below w.heap.size w wr) (fun _ i _ => n - (intOf i).toNat)
  case atStart => exact ⟨0, Nat.zero_le _, rfl, rfl, Below.refl _ _⟩
  case round =>
    obtain ⟨k, hk, rfl, rfl, hbr⟩ := hrel
    have HW : Hid (Below w.heap.size w wr) := hbr
    clear hbr
    have hh := ham_bound f g k
    by_cases hlt : k < n
    · obtain ⟨p, po, rfl, hp, hpc⟩ := HA.out (by omega)
      obtain ⟨q, qo, rfl, hq, hqc⟩ := HB.out (by omega)
      have c1 := (HW.out.cell (p := ⟨p, po + k, none⟩) hp).trans (hpc k hlt)
      have c2 := (HW.out.cell (p := ⟨q, qo + k, none⟩) hq).trans (hqc k hlt)
      have hi : (k : Int) < (n : Int) := by omega
      clear hpc hqc
      by_cases he : f k = g k
      · have hb : (f k != g k) = false := by simp [he]
        have HE : Hid (f k = g k) := he
        clear he
        go_wp2
        go_quiet (fail)
        go_wp2
        exact ⟨⟨k + 1, by omega, by go_num, by rw [ham_yes HE.out], below_drewN HW.out _⟩, by simp only [intOf]; omega⟩
      · have hb : (f k != g k) = true := by simpa using he
        have HE : Hid (f k ≠ g k) := he
        clear he
        go_wp2
        go_quiet (fail)
        go_wp2
        exact ⟨⟨k + 1, by omega, by go_num, by rw [ham_no HE.out], below_drewN HW.out _⟩, by simp only [intOf]; omega⟩
    · have hi : ¬ (k : Int) < (n : Int) := by omega
      obtain rfl : k = n := by omega
      go_wp2
      go_ret
      exact ⟨HW.out, rfl⟩
end Go.Proofs.Qxb6602602a.Ed
