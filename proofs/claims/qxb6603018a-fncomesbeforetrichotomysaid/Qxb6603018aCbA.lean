/-
  THE CONTRACTS OF THE FUNCTIONS THAT ONLY READ: zzBytes, stepsBytes, sameKinds, sameBytes, samePath.
-/
import Derived.Test.Qxb6603018aRows
import Derived.Test.Qxb6603018aCbPlain
import Derived.WalkKit
import Derived.RowKit3
import Derived.WalkSpells
import Derived.WalkLawsBesides
import Derived.Outline
import Derived.Deep.Light
import Derived.Deep.QuietTactic
import Derived.BigQuiet
namespace Go.Proofs.Qxb6603018a.Cb
open Go.RowKit

/-- The four cells of a step. -/
def Cells4 (w : World) (b o : Nat) (r : Stp) : Prop :=
  w.cell? ⟨b, o, none⟩ = some (.string r.nm) ∧ w.cell? ⟨b, o + 1, none⟩ = some (.int .i64 r.ix) ∧ w.cell? ⟨b, o + 2, none⟩ = some (.bool r.it) ∧ w.cell? ⟨b, o + 3, none⟩ = some (.bool r.ky)
def Steps (w : World) (a : Option Addr) (n : Nat) (g : Nat → Stp) : Prop :=
  0 < n → ∃ b off, a = some ⟨b, off, none⟩ ∧ b < w.heap.size ∧ ∀ i, i < n → Cells4 w b (off + i * 4) (g i)
theorem Cells4.below {w w' : World} {b o : Nat} {r : Stp} (h : Cells4 w b o r) (hb : b < w.heap.size) (hB : Below w.heap.size w w') : Cells4 w' b o r :=
  ⟨(hB.cell (p := ⟨b, o, none⟩) hb).trans h.1, (hB.cell (p := ⟨b, o + 1, none⟩) hb).trans h.2.1, (hB.cell (p := ⟨b, o + 2, none⟩) hb).trans h.2.2.1, (hB.cell (p := ⟨b, o + 3, none⟩) hb).trans h.2.2.2⟩
theorem Steps.below {w w' : World} {a : Option Addr} {n : Nat} {g : Nat → Stp} (h : Steps w a n g) (hB : Below w.heap.size w w') : Steps w' a n g := by
  intro hn
  obtain ⟨b, off, rfl, hb, hc⟩ := h hn
  exact ⟨b, off, rfl, Nat.lt_of_lt_of_le hb hB.size, fun i hi => (hc i hi).below hb hB⟩

/-- Nothing but draws between two worlds. -/
def QW (w w' : World) : Prop := ∃ q, w' = w.drewN q
theorem QW.rfl' (w : World) : QW w w := ⟨0, rfl⟩
theorem QW.draws {w w' : World} (h : QW w w') (q : Nat) : QW w (w'.drewN q) := by
  obtain ⟨p, rfl⟩ := h
  exact ⟨p + q, by rw [World.drewN_drewN]⟩
theorem QW.cell {w w' : World} (h : QW w w') (a : Addr) : w'.cell? a = w.cell? a := by
  obtain ⟨p, rfl⟩ := h
  rfl
theorem QW.below {w w' : World} (h : QW w w') : Below w.heap.size w w' := by
  obtain ⟨p, rfl⟩ := h
  exact below_drewN (Below.refl _ _) p

/-- What zzBytes' yes says. -/
def Short (n : Nat) (g : Nat → Stp) : Prop := n ≤ 1048576 ∧ ∀ i, i < n → (g i).nm.size ≤ 1048576

set_option maxRecDepth 100000 in
set_option maxHeartbeats 2000000 in
theorem zz5 (a : Option Addr) (n ca : Nat) (A : Nat → Stp) (b : Option Addr) (m cb : Nat) (B : Nat → Stp) (w : World) (hn : n ≤ maxLen) (hm : m ≤ maxLen) (hsa : ∀ i, i < n → (A i).nm.size ≤ maxLen) (hsb : ∀ i, i < m → (B i).nm.size ≤ maxLen) (hA : Steps w a n A) (hB : Steps w b m B) :
    Calls Try.prog 5 #[.slice a n ca, .slice b m cb] w fun e w' => w' = w ∧ (e = .returned (.bool false) ∨ (e = .returned (.bool true) ∧ Short n A ∧ Short m B)) := by
  unfold maxLen at hn hm hsa hsb
  have HA : Hid (Steps w a n A) := hA
  have HB : Hid (Steps w b m B) := hB
  have HSA : Hid (∀ i, i < n → (A i).nm.size ≤ 9223372036854775807) := hsa
  have HSB : Hid (∀ i, i < m → (B i).nm.size ≤ 9223372036854775807) := hsb
  clear hA hB hsa hsb
  by_cases c1 : (1048576 : Int) < (n : Int)
  · go_enter Try.func5, Try.ntmps5
    go_wp2
    go_ret
    exact ⟨rfl, .inl rfl⟩
  go_enter Try.func5, Try.ntmps5
  go_wp2
  go_loop [5, 6] (fun z i => ∃ (k v : Nat), k ≤ n ∧ i = .int .i64 k ∧ z = .int .i64 v ∧ v ≤ 1048576 ∧ ∀ t, t < k → (A t).nm.size ≤ 1048576) (fun _ i => n - (intOf i).toNat)
  case atStart => exact ⟨0, n, Nat.zero_le _, rfl, rfl, by omega, fun t ht => absurd ht (Nat.not_lt_zero _)⟩
  case round =>
    obtain ⟨k, v, hk, rfl, rfl, hv, hall⟩ := hrel
    have HL : Hid (∀ t, t < k → (A t).nm.size ≤ 1048576) := hall
    clear hall
    by_cases hlt : k < n
    · obtain ⟨p, po, rfl, hp, hpc⟩ := HA.out (by omega)
      obtain ⟨x0, _, _, _⟩ := hpc k hlt
      have hi : (k : Int) < (n : Int) := by omega
      have hsz := HSA.out k hlt
      clear hpc
      generalize hN : (A k).nm = N at *
      have HN : Hid ((A k).nm = N) := hN
      clear hN
      by_cases c2 : (1048576 : Int) < (N.size : Int)
      · go_wp2
        go_ret
        exact ⟨rfl, .inl rfl⟩
      · by_cases c3 : (1048576 : Int) < (v : Int) + (N.size : Int)
        · go_wp2
          go_ret
          exact ⟨rfl, .inl rfl⟩
        · go_wp2
          go_round
          case rel => exact ⟨k + 1, v + N.size, by omega, by go_num, by go_num, by omega, fun t ht => by
            by_cases e : t = k
            · rw [e, HN.out]; omega
            · exact HL.out t (by omega)⟩
          case measure => simp [intOf]; omega
    · have hi : ¬ (k : Int) < (n : Int) := by omega
      obtain rfl : k = n := by omega
      by_cases d1 : (1048576 : Int) < (m : Int)
      · go_wp2
        go_ret
        exact ⟨rfl, .inl rfl⟩
      by_cases d2 : (1048576 : Int) < (v : Int) + (m : Int)
      · go_wp2
        go_ret
        exact ⟨rfl, .inl rfl⟩
      go_wp2
      go_loop [5, 7] (fun z i => ∃ (j u : Nat), j ≤ m ∧ i = .int .i64 j ∧ z = .int .i64 u ∧ u ≤ 1048576 ∧ ∀ t, t < j → (B t).nm.size ≤ 1048576) (fun _ i => m - (intOf i).toNat)
      case atStart => exact ⟨0, v + m, Nat.zero_le _, rfl, by go_num, by omega, fun t ht => absurd ht (Nat.not_lt_zero _)⟩
      case round =>
        obtain ⟨j, u, hj, rfl, rfl, hu, hall⟩ := hrel
        have HM : Hid (∀ t, t < j → (B t).nm.size ≤ 1048576) := hall
        clear hall
        by_cases hltj : j < m
        · obtain ⟨p, po, rfl, hp, hpc⟩ := HB.out (by omega)
          obtain ⟨x0, _, _, _⟩ := hpc j hltj
          have hij : (j : Int) < (m : Int) := by omega
          have hsz := HSB.out j hltj
          clear hpc
          generalize hN : (B j).nm = N at *
          have HN : Hid ((B j).nm = N) := hN
          clear hN
          by_cases c2 : (1048576 : Int) < (N.size : Int)
          · go_wp2
            go_ret
            exact ⟨rfl, .inl rfl⟩
          · by_cases c3 : (1048576 : Int) < (u : Int) + (N.size : Int)
            · go_wp2
              go_ret
              exact ⟨rfl, .inl rfl⟩
            · go_wp2
              go_round
              case rel => exact ⟨j + 1, u + N.size, by omega, by go_num, by go_num, by omega, fun t ht => by
                by_cases e : t = j
                · rw [e, HN.out]; omega
                · exact HM.out t (by omega)⟩
              case measure => simp [intOf]; omega
        · have hij : ¬ (j : Int) < (m : Int) := by omega
          obtain rfl : j = m := by omega
          go_wp2
          go_ret
          exact ⟨rfl, .inr ⟨rfl, ⟨by omega, HL.out⟩, ⟨by omega, HM.out⟩⟩⟩

set_option maxRecDepth 100000 in
set_option maxHeartbeats 1000000 in
theorem stepsBytes_any (a : Option Addr) (n ca : Nat) (A : Nat → Stp) (w : World) (hS : Short n A) (hA : Steps w a n A) :
    Calls Try.prog 6 #[.slice a n ca] w fun e w' => w' = w ∧ ∃ v : Int, e = .returned (.int .i64 v) ∧ 0 ≤ v ∧ v ≤ 2097152 := by
  have hn : n ≤ 1048576 := hS.1
  have HSA : Hid (∀ i, i < n → (A i).nm.size ≤ 1048576) := hS.2
  have HA : Hid (Steps w a n A) := hA
  clear hS hA
  go_enter Try.func6, Try.ntmps6
  go_wp2
  go_loop [3, 4] (fun z i => ∃ (k : Nat) (v : Int), k ≤ n ∧ i = .int .i64 k ∧ z = .int .i64 v ∧ 0 ≤ v ∧ v ≤ 33554432 ∧ (0 < k → v ≤ 1048576) ∧ (k = 0 → v = 32 * (n : Int))) (fun _ i => n - (intOf i).toNat)
  case atStart => exact ⟨0, _, Nat.zero_le _, rfl, rfl, by omega, by omega, fun h => absurd h (Nat.lt_irrefl _), fun _ => by omega⟩
  case round =>
    obtain ⟨k, v, hk, rfl, rfl, hv0, hv1, hv2, hv3⟩ := hrel
    have H2 : Hid (0 < k → v ≤ 1048576) := hv2
    have H3 : Hid (k = 0 → v = 32 * (n : Int)) := hv3
    clear hv2 hv3
    by_cases hlt : k < n
    · obtain ⟨p, po, rfl, hp, hpc⟩ := HA.out (by omega)
      obtain ⟨x0, _, _, _⟩ := hpc k hlt
      have hi : (k : Int) < (n : Int) := by omega
      have hsz := HSA.out k hlt
      clear hpc
      generalize (A k).nm = N at *
      by_cases c3 : (1048576 : Int) < v + (N.size : Int)
      · go_wp2
        go_ret
        exact ⟨rfl, _, rfl, by omega, by omega⟩
      · go_wp2
        go_round
        case rel => exact ⟨k + 1, v + N.size, by omega, by go_num, rfl, by omega, by omega, fun _ => by omega, fun h => by omega⟩
        case measure => simp [intOf]; omega
    · have hi : ¬ (k : Int) < (n : Int) := by omega
      obtain rfl : k = n := by omega
      have hfin : v ≤ 2097152 := by
        by_cases e : 0 < k
        · have := H2.out e; omega
        · have := H3.out (by omega); omega
      go_wp2
      go_ret
      exact ⟨rfl, _, rfl, by omega, by omega⟩
end Go.Proofs.Qxb6603018a.Cb
