/-
  THE CONTRACTS OF sameKinds, samePath, comesBefore.
-/
import Derived.Test.Qxb6603018aCbB
namespace Go.Proofs.Qxb6603018a.Cb
open Go.RowKit

theorem Steps.draws {w w' : World} (hq : QW w w') {a : Option Addr} {n : Nat} {g : Nat → Stp} (h : Steps w a n g) : Steps w' a n g := h.below hq.below

set_option maxHeartbeats 1000000 in
theorem sameKinds_any (a : Option Addr) (n ca : Nat) (A : Nat → Stp) (b : Option Addr) (m cb : Nat) (B : Nat → Stp) (w : World) (hn : n ≤ 1048576) (hA : Steps w a n A) (hB : Steps w b m B) :
    Calls Try.prog 7 #[.slice a n ca, .slice b m cb] w fun e w' => QW w w' ∧ (e = .returned (.bool false) ∨ (e = .returned (.bool true) ∧ ∀ t, t < n → t < m → (A t).it = (B t).it)) := by
  have HA : Hid (Steps w a n A) := hA
  have HB : Hid (Steps w b m B) := hB
  clear hA hB
  go_enter Try.func7, Try.ntmps7
  go_wp2
  go_loopw [5] (fun i wr => ∃ k : Nat, k ≤ n ∧ i = .int .i64 k ∧ QW w wr ∧ ∀ t, t < k → (A t).it = (B t).it) (fun i _ => n - (intOf i).toNat)
  case atStart => exact ⟨0, Nat.zero_le _, rfl, QW.rfl' w, fun t ht => absurd ht (Nat.not_lt_zero _)⟩
  case round =>
    obtain ⟨k, hk, rfl, hq, hall⟩ := hrel
    have HL : Hid (∀ t, t < k → (A t).it = (B t).it) := hall
    have HQ : Hid (QW w wr) := hq
    clear hall hq
    by_cases hlt : k < n
    · have hi : (k : Int) < (n : Int) := by omega
      by_cases hlm : k < m
      · have hj : (k : Int) < (m : Int) := by omega
        obtain ⟨p, po, rfl, hp, hpc⟩ := (HA.out.draws HQ.out) (by omega)
        obtain ⟨q, qo, rfl, hqq, hqc⟩ := (HB.out.draws HQ.out) (by omega)
        obtain ⟨_, _, x2, _⟩ := hpc k hlt
        obtain ⟨_, _, y2, _⟩ := hqc k hlm
        clear hpc hqc
        generalize hX : (A k).it = X at *
        generalize hY : (B k).it = Y at *
        have HX : Hid ((A k).it = X) := hX
        have HY : Hid ((B k).it = Y) := hY
        clear hX hY
        by_cases e : X = Y
        · subst e
          go_wp2
          go_quiet (fail)
          go_wp2
          exact ⟨⟨k + 1, by omega, by go_num, HQ.out.draws _, fun t ht => by
            by_cases e : t = k
            · rw [e, HX.out, HY.out]
            · exact HL.out t (by omega)⟩, by simp only [intOf]; omega⟩
        · have he : (X == Y) = false := by simpa using e
          clear e
          go_wp2
          go_quiet (fail)
          go_wp2
          go_ret
          exact ⟨HQ.out.draws _, .inl rfl⟩
      · have hj : ¬ (k : Int) < (m : Int) := by omega
        go_wp2
        go_ret
        exact ⟨HQ.out, .inr ⟨rfl, fun t h1 h2 => HL.out t (by omega)⟩⟩
    · have hi : ¬ (k : Int) < (n : Int) := by omega
      go_wp2
      go_ret
      exact ⟨HQ.out, .inr ⟨rfl, fun t h1 h2 => HL.out t (by omega)⟩⟩

/-- What samePath answers. -/
def SPB (A B : Nat → Stp) (n m : Nat) (e : Ending) : Prop := ∃ sp : Bool, e = .returned (.bool sp) ∧ (sp = true ↔ SP A B n m)
theorem SPB.no {A B : Nat → Stp} {n m : Nat} (h : ¬ SP A B n m) : SPB A B n m (.returned (.bool false)) := ⟨false, rfl, fun h => absurd h (by decide), fun h' => absurd h' h⟩
theorem SPB.yes {A B : Nat → Stp} {n m : Nat} (h : SP A B n m) : SPB A B n m (.returned (.bool true)) := ⟨true, rfl, fun _ => h, fun _ => rfl⟩
theorem not_sp {A B : Nat → Stp} {n m k : Nat} (hk : k < n) (h : diff A B k = true) : ¬ SP A B n m := fun hs => by
  have := hs.2 k hk
  rw [h] at this
  exact absurd this (by decide)

set_option maxHeartbeats 2000000 in
theorem samePath_any (a : Option Addr) (n ca : Nat) (A : Nat → Stp) (b : Option Addr) (m cb : Nat) (B : Nat → Stp) (w : World) (hSA : Short n A) (hA : Steps w a n A) (hB : Steps w b m B) :
    Calls Try.prog 10 #[.slice a n ca, .slice b m cb] w fun e w' => QW w w' ∧ SPB A B n m e := by
  have HA : Hid (Steps w a n A) := hA
  have HB : Hid (Steps w b m B) := hB
  have HSA : Hid (Short n A) := hSA
  have hn := hSA.1
  clear hA hB hSA
  by_cases hs : n = m
  case neg =>
    have hb : ((n : Int) != (m : Int)) = true := by simpa using fun h : (n : Int) = (m : Int) => hs (by omega)
    have HS : Hid (¬ n = m) := hs
    clear hs
    go_enter Try.func10, Try.ntmps10
    go_wp2
    go_ret
    exact ⟨QW.rfl' w, SPB.no fun h => HS.out h.1⟩
  subst hs
  go_enter Try.func10, Try.ntmps10
  go_wp2
  go_loopw [5] (fun i wr => ∃ k : Nat, k ≤ n ∧ i = .int .i64 k ∧ QW w wr ∧ ∀ t, t < k → diff A B t = false) (fun i _ => n - (intOf i).toNat)
  case atStart => exact ⟨0, Nat.zero_le _, rfl, QW.rfl' w, fun t ht => absurd ht (Nat.not_lt_zero _)⟩
  case round =>
    obtain ⟨k, hk, rfl, hq, hall⟩ := hrel
    have HL : Hid (∀ t, t < k → diff A B t = false) := hall
    have HQ : Hid (QW w wr) := hq
    clear hall hq
    by_cases hlt : k < n
    · have hi : (k : Int) < (n : Int) := by omega
      obtain ⟨p, po, rfl, hp, hpc⟩ := (HA.out.draws HQ.out) (by omega)
      obtain ⟨q, qo, rfl, hqq, hqc⟩ := (HB.out.draws HQ.out) (by omega)
      obtain ⟨x0, x1, x2, _⟩ := hpc k hlt
      obtain ⟨y0, y1, y2, _⟩ := hqc k hlt
      have hsz := HSA.out.2 k hlt
      clear hpc hqc
      have hd : diff A B k = if (A k).it then (A k).ix != (B k).ix else !((A k).nm.toList == (B k).nm.toList) := rfl
      generalize (A k).it = X at *
      generalize (A k).ix = I at *
      generalize (B k).ix = J at *
      generalize (A k).nm = N at *
      generalize (B k).nm = M at *
      cases X with
      | true =>
        rw [if_pos rfl] at hd
        by_cases e : I = J
        · have hc : (I != J) = false := by simp [e]
          rw [hc] at hd
          have HD : Hid (diff A B k = false) := hd
          clear hd e
          go_wp2
          go_quiet (fail)
          go_wp2
          exact ⟨⟨k + 1, by omega, by go_num, HQ.out.draws _, fun t ht => by
            by_cases e : t = k
            · rw [e]; exact HD.out
            · exact HL.out t (by omega)⟩, by simp only [intOf]; omega⟩
        · have hc : (I != J) = true := by simpa using e
          rw [hc] at hd
          have HD : Hid (diff A B k = true) := hd
          clear hd e
          go_wp2
          go_quiet (fail)
          go_wp2
          go_ret
          exact ⟨HQ.out.draws _, SPB.no (not_sp hlt HD.out)⟩
      | false =>
        rw [if_neg (by decide)] at hd
        by_cases e : (N.toList == M.toList) = true
        · rw [e] at hd
          have HD : Hid (diff A B k = false) := hd
          clear hd
          go_wp2
          go_quiet ((go_at_call 14; exact Calls.quiet_of (sameBytes_any _ _ _ hsz)))
          go_wp2
          exact ⟨⟨k + 1, by omega, by go_num, HQ.out.draws _, fun t ht => by
            by_cases e : t = k
            · rw [e]; exact HD.out
            · exact HL.out t (by omega)⟩, by simp only [intOf]; omega⟩
        · have e' : (N.toList == M.toList) = false := by simpa using e
          rw [e'] at hd
          have HD : Hid (diff A B k = true) := hd
          clear hd e
          go_wp2
          go_quiet ((go_at_call 14; exact Calls.quiet_of (sameBytes_any _ _ _ hsz)))
          go_wp2
          go_ret
          exact ⟨HQ.out.draws _, SPB.no (not_sp hlt HD.out)⟩
    · have hi : ¬ (k : Int) < (n : Int) := by omega
      obtain rfl : k = n := by omega
      go_wp2
      go_ret
      exact ⟨HQ.out, SPB.yes ⟨rfl, HL.out⟩⟩
end Go.Proofs.Qxb6603018a.Cb
