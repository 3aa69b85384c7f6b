/-
  THE CONTRACTS OF comesBefore, ZZComesBefore.
-/
import Derived.Test.Qxb6603018aCbC
namespace Go.Proofs.Qxb6603018a.Cb
open Go.RowKit

/-- What comesBefore answers. -/
def CBE (A B : Nat → Stp) (n m : Nat) (e : Ending) : Prop := ∃ r : Bool, e = .returned (.bool r) ∧ CB A B n m r
theorem CBE.at_ {A B : Nat → Stp} {n m k : Nat} {r : Bool} (h1 : k < n) (h2 : k < m) (hL : ∀ t, t < k → diff A B t = false) (hD : diff A B k = true) (hr : before A B k = r) : CBE A B n m (.returned (.bool r)) :=
  ⟨r, rfl, .inl ⟨k, h1, h2, hL, hD, hr.symm⟩⟩
theorem CBE.end_ {A B : Nat → Stp} {n m : Nat} {r : Bool} (hL : ∀ t, t < n → t < m → diff A B t = false) (hr : decide (n < m) = r) : CBE A B n m (.returned (.bool r)) :=
  ⟨r, rfl, .inr ⟨hL, hr.symm⟩⟩

set_option maxRecDepth 100000 in
set_option maxHeartbeats 2000000 in
theorem comesBefore_any (a : Option Addr) (n ca : Nat) (A : Nat → Stp) (b : Option Addr) (m cb : Nat) (B : Nat → Stp) (w : World) (hn : n ≤ 1048576) (hA : Steps w a n A) (hB : Steps w b m B) :
    Calls Try.prog 13 #[.slice a n ca, .slice b m cb] w fun e w' => QW w w' ∧ CBE A B n m e := by
  have HA : Hid (Steps w a n A) := hA
  have HB : Hid (Steps w b m B) := hB
  clear hA hB
  go_enter Try.func13, Try.ntmps13
  go_wp2
  go_loopw [5] (fun i wr => ∃ k : Nat, k ≤ n ∧ k ≤ m ∧ i = .int .i64 k ∧ QW w wr ∧ ∀ t, t < k → diff A B t = false) (fun i _ => n - (intOf i).toNat)
  case atStart => exact ⟨0, Nat.zero_le _, Nat.zero_le _, rfl, QW.rfl' w, fun t ht => absurd ht (Nat.not_lt_zero _)⟩
  case round =>
    obtain ⟨k, hk, hkm, rfl, hq, hall⟩ := hrel
    have HL : Hid (∀ t, t < k → diff A B t = false) := hall
    have HQ : Hid (QW w wr) := hq
    clear hall hq
    by_cases hlt : k < n
    · have hi : (k : Int) < (n : Int) := by omega
      by_cases hlm : k < m
      · have hj : (k : Int) < (m : Int) := by omega
        obtain ⟨p, po, rfl, hp, hpc⟩ := (HA.out.draws HQ.out) (by omega)
        obtain ⟨q, qo, rfl, hqq, hqc⟩ := (HB.out.draws HQ.out) (by omega)
        obtain ⟨x0, x1, x2, _⟩ := hpc k hlt
        obtain ⟨y0, y1, y2, _⟩ := hqc k hlm
        clear hpc hqc
        have hd : diff A B k = if (A k).it then (A k).ix != (B k).ix else !((A k).nm.toList == (B k).nm.toList) := rfl
        have hbf : before A B k = if (A k).it then decide ((A k).ix < (B k).ix) else Op.bytesLess (A k).nm.toList (B k).nm.toList := rfl
        generalize (A k).it = X at *
        generalize (A k).ix = I at *
        generalize (B k).ix = J at *
        generalize (A k).nm = N at *
        generalize (B k).nm = M at *
        cases X with
        | true =>
          rw [if_pos rfl] at hd hbf
          by_cases e : I = J
          · have hc : (I != J) = false := by simp [e]
            rw [hc] at hd
            have HD : Hid (diff A B k = false) := hd
            clear hd e hbf
            go_wp2
            go_quiet (fail)
            go_wp2
            go_quiet (fail)
            go_wp2
            exact ⟨⟨k + 1, by omega, by omega, by go_num, HQ.out.draws _, fun t ht => by
              by_cases e : t = k
              · rw [e]; exact HD.out
              · exact HL.out t (by omega)⟩, by simp only [intOf]; omega⟩
          · have hc : (I != J) = true := by simpa using e
            rw [hc] at hd
            have HD : Hid (diff A B k = true) := hd
            clear hd e
            have HF : Hid (before A B k = decide (I < J)) := hbf
            clear hbf
            go_wp2
            go_quiet (fail)
            go_wp2
            go_quiet (fail)
            go_wp2
            go_ret
            exact ⟨(HQ.out.draws _).draws _, CBE.at_ hlt hlm HL.out HD.out HF.out⟩
        | false =>
          rw [if_neg (by decide)] at hd hbf
          by_cases e : (N.toList == M.toList) = true
          · rw [e] at hd
            have HD : Hid (diff A B k = false) := hd
            clear hd hbf
            go_wp2
            go_quiet (fail)
            go_wp2
            go_quiet (fail)
            go_wp2
            exact ⟨⟨k + 1, by omega, by omega, by go_num, HQ.out.draws _, fun t ht => by
              by_cases e : t = k
              · rw [e]; exact HD.out
              · exact HL.out t (by omega)⟩, by simp only [intOf]; omega⟩
          · have e' : (N.toList == M.toList) = false := by simpa using e
            rw [e'] at hd
            have HD : Hid (diff A B k = true) := hd
            have HF : Hid (before A B k = Op.bytesLess N.toList M.toList) := hbf
            clear hd e hbf
            go_wp2
            go_quiet (fail)
            go_wp2
            go_quiet (fail)
            go_wp2
            go_quiet (fail)
            go_wp2
            go_ret
            exact ⟨((HQ.out.draws _).draws _).draws _, CBE.at_ hlt hlm HL.out HD.out HF.out⟩
      · have hj : ¬ (k : Int) < (m : Int) := by omega
        have hnm : ¬ (n : Int) < (m : Int) := by omega
        have HNM : Hid (¬ n < m) := show ¬ n < m by omega
        go_wp2
        go_ret
        exact ⟨HQ.out, CBE.end_ (fun t h1 h2 => HL.out t (by omega)) (by simp; omega)⟩
    · have hi : ¬ (k : Int) < (n : Int) := by omega
      have hkn : k = n := by omega
      have HE : Hid (k = n) := hkn
      clear hkn
      by_cases hm : n < m
      · have hnm : (n : Int) < (m : Int) := by omega
        go_wp2
        go_ret
        exact ⟨HQ.out, CBE.end_ (fun t h1 h2 => HL.out t (by rw [HE.out]; omega)) (by simp; omega)⟩
      · have hnm : ¬ (n : Int) < (m : Int) := by omega
        go_wp2
        go_ret
        exact ⟨HQ.out, CBE.end_ (fun t h1 h2 => HL.out t (by rw [HE.out]; omega)) (by simp; omega)⟩

theorem zzComesBefore (a : Option Addr) (n ca : Nat) (A : Nat → Stp) (b : Option Addr) (m cb : Nat) (B : Nat → Stp) (w : World) (hn : n ≤ 1048576) (hA : Steps w a n A) (hB : Steps w b m B) :
    Calls Try.prog 9 #[.slice a n ca, .slice b m cb] w fun e w' => QW w w' ∧ CBE A B n m e := by
  have HA : Hid (Steps w a n A) := hA
  have HB : Hid (Steps w b m B) := hB
  clear hA hB
  go_enter Try.func9, Try.ntmps9
  go_wp2_with fail
  refine (comesBefore_any a n ca A b m cb B _ hn HA.out HB.out).mono ?_
  rintro e w' ⟨hq, r, rfl, hr⟩
  have HQ : Hid (QW w w') := hq
  have HR : Hid (CB A B n m r) := hr
  clear hq hr
  go_wp2
  go_ret
  exact ⟨HQ.out, _, rfl, HR.out⟩
end Go.Proofs.Qxb6603018a.Cb
