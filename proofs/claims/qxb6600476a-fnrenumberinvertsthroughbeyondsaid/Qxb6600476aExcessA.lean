/-
  THE CONTRACTS OF THE SMALL FUNCTIONS ON THE ROAD OF FnExcess..: zzBytes, countsFit, kOf, overflows, excess, ZZExcess: all of them only read.
-/
import Derived.Test.Qxb6600476aRows
import Derived.WalkKit
import Derived.RowKit3
import Derived.WalkSpells
import Derived.WalkLawsBesides
namespace Go.Proofs.Qxb6600476a.Excess
open Go.RowKit

/-- A slice of 'len' integers: its i-th cell holds 'f i'. -/
def Ints (w : World) (a : Option Addr) (len : Nat) (f : Nat → Int) : Prop :=
  0 < len → ∃ b off, a = some ⟨b, off, none⟩ ∧ b < w.heap.size ∧ ∀ i, i < len → w.cell? ⟨b, off + i, none⟩ = some (.int .i64 (f i))

/-- A slice of 'len' slices: its i-th cell holds one of 'c i' elements. -/
def Rows2 (w : World) (a : Option Addr) (len : Nat) (c : Nat → Nat) : Prop :=
  0 < len → ∃ b off, a = some ⟨b, off, none⟩ ∧ ∀ i, i < len → ∃ pa pc, w.cell? ⟨b, off + i, none⟩ = some (.slice pa (c i) pc)

theorem Ints.below {w w' : World} {a : Option Addr} {len : Nat} {f : Nat → Int} (h : Ints w a len f) (hb : Below w.heap.size w w') : Ints w' a len f := by
  intro hl
  obtain ⟨b, off, rfl, hbs, hc⟩ := h hl
  exact ⟨b, off, rfl, Nat.lt_of_lt_of_le hbs hb.size, fun i hi => (hb.cell (p := ⟨b, off + i, none⟩) hbs).trans (hc i hi)⟩

/-- k at place z. -/
def kof (m : Nat) (kf : Nat → Int) (z : Nat) : Int := if z < m then kf z else 0
/-- c values are more than k allows. -/
def ov (c k : Int) : Bool := decide (k ≠ -1) && decide (k < c)

theorem overflows_any (c k : Int) (w : World) :
    Calls Try.prog 26 #[.int .i64 c, .int .i64 k] w fun e w' => e = .returned (.bool (ov c k)) ∧ w' = w := by
  by_cases h1 : k = -1
  · subst h1
    go_enter Try.func26, Try.ntmps26
    go_wp2
    go_ret
    exact ⟨by simp [ov], rfl⟩
  · have h2 : (k != -1) = true := by simpa using h1
    by_cases h3 : k < c
    · go_enter Try.func26, Try.ntmps26
      go_wp2
      go_ret
      exact ⟨by simp [ov, h1, h3], rfl⟩
    · go_enter Try.func26, Try.ntmps26
      go_wp2
      go_ret
      exact ⟨by simp [ov, h1, h3], rfl⟩

theorem kOf_any (a : Option Addr) (m cap : Nat) (kf : Nat → Int) (z : Nat) (w : World) (hK : Ints w a m kf) :
    Calls Try.prog 27 #[.slice a m cap, .int .i64 z] w fun e w' => e = .returned (.int .i64 (kof m kf z)) ∧ w' = w := by
  by_cases h : z < m
  · obtain ⟨b, off, rfl, hb, hc⟩ := hK (by omega)
    have hcz := hc z h
    clear hc
    have hi : (z : Int) < (m : Int) := by omega
    go_enter Try.func27, Try.ntmps27
    go_wp2
    go_ret
    exact ⟨by simp [kof, h], rfl⟩
  · have hi : ¬ (z : Int) < (m : Int) := by omega
    go_enter Try.func27, Try.ntmps27
    go_wp2
    go_ret
    exact ⟨by simp [kof, h], rfl⟩

/-- countsFit. -/
theorem countsFit_any (a : Option Addr) (n cap : Nat) (f : Nat → Int) (w : World) (hn : n ≤ 4096) (hA : Ints w a n f) :
    Calls Try.prog 23 #[.slice a n cap] w fun e w' => w' = w ∧ ((e = .returned (.bool true) ∧ ∀ i, i < n → 0 ≤ f i ∧ f i ≤ 32768) ∨ e = .returned (.bool false)) := by
  go_enter Try.func23, Try.ntmps23
  go_wp2
  go_loop [3] (fun i => ∃ k : Nat, k ≤ n ∧ i = .int .i64 k ∧ ∀ j, j < k → 0 ≤ f j ∧ f j ≤ 32768) (fun i => n - (intOf i).toNat)
  case atStart => exact ⟨0, Nat.zero_le _, rfl, fun j hj => absurd hj (Nat.not_lt_zero _)⟩
  case round =>
    obtain ⟨k, hk, rfl, hall⟩ := hrel
    have HA : Hid (∀ j, j < k → 0 ≤ f j ∧ f j ≤ 32768) := hall
    clear hall
    by_cases hlt : k < n
    · obtain ⟨b, off, rfl, hb, hc⟩ := hA (by omega)
      have hck := hc k hlt
      have hi : (k : Int) < (n : Int) := by omega
      clear hc hA
      by_cases h1 : f k < 0
      · go_wp2
        go_ret
        exact ⟨rfl, .inr rfl⟩
      · by_cases h2 : 32768 < f k
        · go_wp2
          go_ret
          exact ⟨rfl, .inr rfl⟩
        · go_wp2
          go_round
          case rel => exact ⟨k + 1, by omega, by go_num, fun j hj => by
            by_cases e : j = k
            · subst e; omega
            · exact HA.out j (by omega)⟩
          case measure => simp [intOf]; omega
    · have hi : ¬ (k : Int) < (n : Int) := by omega
      go_wp2
      go_ret
      exact ⟨rfl, .inl ⟨rfl, fun j hj => HA.out j (by omega)⟩⟩

/-- excess: the first place that overflows, or (0, 0). -/
theorem excess_any (a : Option Addr) (n cap : Nat) (c : Nat → Nat) (ka : Option Addr) (m kcap : Nat) (kf : Nat → Int) (op : Int) (w : World) (hn : n ≤ 4096) (hA : Rows2 w a n c) (hK : Ints w ka m kf) :
    Calls Try.prog 33 #[.slice a n cap, .slice ka m kcap, .int .u8 op] w fun e w' => w' = w ∧
      ((∃ z : Nat, z < n ∧ e = .returned (.tuple #[.int .u8 op, .int .i64 ((z : Int) + 1)]) ∧ ov (c z) (kof m kf z) = true ∧ ∀ y, y < z → ov (c y) (kof m kf y) = false) ∨
        (e = .returned (.tuple #[.int .u8 0, .int .i64 0]) ∧ ∀ y, y < n → ov (c y) (kof m kf y) = false)) := by
  go_enter Try.func33, Try.ntmps33
  go_wp2
  go_loop [13] (fun i => ∃ k : Nat, k ≤ n ∧ i = .int .i64 k ∧ ∀ y, y < k → ov (c y) (kof m kf y) = false) (fun i => n - (intOf i).toNat)
  case atStart => exact ⟨0, Nat.zero_le _, rfl, fun j hj => absurd hj (Nat.not_lt_zero _)⟩
  case round =>
    obtain ⟨k, hk, rfl, hall⟩ := hrel
    have HA : Hid (∀ y, y < k → ov (c y) (kof m kf y) = false) := hall
    clear hall
    by_cases hlt : k < n
    · obtain ⟨b, off, rfl, hc⟩ := hA (by omega)
      obtain ⟨pa, pc, hck⟩ := hc k hlt
      have hi : (k : Int) < (n : Int) := by omega
      clear hc hA
      by_cases hm : k < m
      · obtain ⟨kb, koff, rfl, hkb, hkc⟩ := hK (by omega)
        have hkk := hkc k hm
        have him : (k : Int) < (m : Int) := by omega
        clear hkc hK
        have HK : Hid (kof m kf k = kf k) := by simp [kof, hm, Hid]
        generalize kf k = kk at *
        by_cases h1 : kk = -1
        · subst h1
          go_wp2
          go_round
          case rel => exact ⟨k + 1, by omega, by go_num, fun j hj => by
            by_cases e : j = k
            · subst e; rw [HK.out]; simp [ov]
            · exact HA.out j (by omega)⟩
          case measure => simp [intOf]; omega
        · have h1' : (kk != -1) = true := by simpa using h1
          by_cases h2 : kk < (c k : Int)
          · go_wp2
            go_ret2
            exact ⟨rfl, .inl ⟨k, hlt, rfl, by rw [HK.out]; simp [ov, h1, h2], HA.out⟩⟩
          · go_wp2
            go_round
            case rel => exact ⟨k + 1, by omega, by go_num, fun j hj => by
              by_cases e : j = k
              · subst e; rw [HK.out]; simp [ov, h1, h2]
              · exact HA.out j (by omega)⟩
            case measure => simp [intOf]; omega
      · have him : ¬ (k : Int) < (m : Int) := by omega
        have HK : Hid (kof m kf k = 0) := by simp [kof, hm, Hid]
        by_cases h2 : (0 : Int) < (c k : Int)
        · go_wp2
          go_ret2
          exact ⟨rfl, .inl ⟨k, hlt, rfl, by rw [HK.out]; simp [ov]; omega, HA.out⟩⟩
        · go_wp2
          go_round
          case rel => exact ⟨k + 1, by omega, by go_num, fun j hj => by
            by_cases e : j = k
            · subst e; rw [HK.out]; simp [ov]; omega
            · exact HA.out j (by omega)⟩
          case measure => simp [intOf]; omega
    · have hi : ¬ (k : Int) < (n : Int) := by omega
      go_wp2
      go_ret2
      exact ⟨rfl, .inr ⟨rfl, fun j hj => HA.out j (by omega)⟩⟩

end Go.Proofs.Qxb6600476a.Excess
