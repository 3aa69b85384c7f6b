/-
  THE LAW'S WALK.
-/
import Derived.Test.Qxb6603018aCbD
import Derived.Test.Qxb6603018aCbE
namespace Go.Proofs.Qxb6603018a.Cb
open Go.RowKit

theorem toSteps_any (a : Option Addr) (n ca : Nat) (A : Nat → Stp) (w : World) (hn : n ≤ 1048576) (hnil : a = none → n = 0 ∧ ca = 0) (hA : Steps w a n A) :
    Calls Try.prog 8 #[.slice a n ca] w fun e w' => ∃ a', e = .returned (.slice a' n n) ∧ Steps w' a' n A ∧ Below w.heap.size w w' := by
  cases a with
  | none =>
    obtain ⟨rfl, rfl⟩ := hnil rfl
    refine (toSteps_nil w).mono ?_
    rintro e w' ⟨rfl, rfl⟩
    exact ⟨none, rfl, fun h => absurd h (Nat.lt_irrefl _), Below.refl _ _⟩
  | some x =>
    refine (toSteps_some x n ca A w hn hA).mono ?_
    rintro e w' ⟨rfl, h1, h2⟩
    exact ⟨_, rfl, h1, h2⟩

/-- What the law's call leaves. -/
def LawPost (w : World) (e : Ending) (w' : World) : Prop := e = .returned (.bool true) ∧ Below w.heap.size w w'

set_option maxRecDepth 100000 in
set_option maxHeartbeats 4000000 in
theorem law (a : Option Addr) (n ca : Nat) (A : Nat → Stp) (b : Option Addr) (m cb : Nat) (B : Nat → Stp) (w : World) (hn : n ≤ maxLen) (hm : m ≤ maxLen) (hsa : ∀ i, i < n → (A i).nm.size ≤ maxLen) (hsb : ∀ i, i < m → (B i).nm.size ≤ maxLen)
    (hna : a = none → n = 0 ∧ ca = 0) (hnb : b = none → m = 0 ∧ cb = 0) (hA : Steps w a n A) (hB : Steps w b m B) :
    Calls Try.prog 3 #[.slice a n ca, .slice b m cb] w fun e w' => LawPost w e w' := by
  have HA : Hid (Steps w a n A) := hA
  have HB : Hid (Steps w b m B) := hB
  have HLa : Hid (n ≤ maxLen) := hn
  have HLb : Hid (m ≤ maxLen) := hm
  have HNs : Hid (∀ i, i < n → (A i).nm.size ≤ maxLen) := hsa
  have HMs : Hid (∀ i, i < m → (B i).nm.size ≤ maxLen) := hsb
  have HNA : Hid (a = none → n = 0 ∧ ca = 0) := hna
  have HNB : Hid (b = none → m = 0 ∧ cb = 0) := hnb
  clear hA hB hsa hsb hna hnb hn hm
  go_enter Try.func3, Try.ntmps3
  go_wp2_with fail
  refine (zz5 a n ca A b m cb B _ HLa.out HLb.out HNs.out HMs.out HA.out HB.out).mono ?_
  rintro e w' ⟨rfl, rfl | ⟨rfl, hS1, hS2⟩⟩
  · go_wp2
    go_ret
    exact ⟨rfl, Below.refl _ _⟩
  have hn1 := hS1.1
  have hm1 := hS2.1
  have HS1 : Hid (Short n A) := hS1
  have HS2 : Hid (Short m B) := hS2
  clear hS1 hS2
  go_wp2_with fail
  refine (stepsBytes_any a n ca A _ HS1.out HA.out).mono ?_
  rintro e w' ⟨rfl, v1, rfl, h10, h11⟩
  go_wp2_with fail
  refine (stepsBytes_any b m cb B _ HS2.out HB.out).mono ?_
  rintro e w' ⟨rfl, v2, rfl, h20, h21⟩
  by_cases hv : 1048576 < v1 + v2
  · go_wp2
    go_ret
    exact ⟨rfl, Below.refl _ _⟩
  go_wp2_with fail
  refine (sameKinds_any a n ca A b m cb B _ hn1 HA.out HB.out).mono ?_
  rintro e w2 ⟨hq, rfl | ⟨rfl, hk⟩⟩
  · have HQ := (show Hid (QW _ w2) from hq)
    clear hq
    go_wp2
    go_ret
    exact ⟨rfl, HQ.out.below⟩
  have HQ := (show Hid (QW _ w2) from hq)
  have HK : Hid (∀ t, t < n → t < m → (A t).it = (B t).it) := hk
  clear hk hq
  go_wp2_with fail
  refine (toSteps_any a n ca A _ hn1 HNA.out (HA.out.draws HQ.out)).mono ?_
  rintro e w3 ⟨sa, rfl, hsa, hb3⟩
  have HSA : Hid (Steps w3 sa n A) := hsa
  have HB3 : Hid (Below w2.heap.size w2 w3) := hb3
  clear hsa hb3
  go_wp2_with fail
  refine (toSteps_any b m cb B _ hm1 HNB.out ((HB.out.draws HQ.out).below HB3.out)).mono ?_
  rintro e w4 ⟨sb, rfl, hsb, hb4⟩
  have HSB : Hid (Steps w4 sb m B) := hsb
  have HB4 : Hid (Below w3.heap.size w3 w4) := hb4
  clear hsb hb4
  go_wp2_with fail
  refine (zzComesBefore sa n n A sb m m B _ hn1 (HSA.out.below HB4.out) HSB.out).mono ?_
  rintro e w5 ⟨hq5, r1, rfl, hr1⟩
  have HQ5 : Hid (QW w4 w5) := hq5
  have HR1 : Hid (CB A B n m r1) := hr1
  clear hq5 hr1
  have HAll : Hid (Steps w5 a n A ∧ Steps w5 b m B ∧ Steps w5 sa n A ∧ Steps w5 sb m B ∧ Below w'.heap.size w' w5) := by
    have e0 := HQ.out.below
    have e1 := e0.trans (HB3.out.mono e0.size)
    have e2 := e1.trans (HB4.out.mono e1.size)
    have e3 := e2.trans (HQ5.out.below.mono e2.size)
    exact ⟨HA.out.below e3, HB.out.below e3, (HSA.out.below HB4.out).draws HQ5.out, HSB.out.draws HQ5.out, e3⟩
  clear HQ HB3 HB4 HSA HSB HQ5
  cases r1
  all_goals
    go_wp2_with fail
    refine (zzComesBefore sb m m B sa n n A _ hm1 HAll.out.2.2.2.1 HAll.out.2.2.1).mono ?_
    rintro e w6 ⟨hq6, r2, rfl, hr2⟩
    have HQ6 : Hid (QW w5 w6) := hq6
    have HR2 : Hid (CB B A m n r2) := hr2
    clear hq6 hr2
    cases r2
    all_goals
      go_wp2_with fail
      refine (samePath_any a n ca A b m cb B _ HS1.out (HAll.out.1.draws HQ6.out) (HAll.out.2.1.draws HQ6.out)).mono ?_
      rintro e w7 ⟨hq7, sp, rfl, hsp⟩
      have HQ7 : Hid (QW w6 w7) := hq7
      have HT : Hid _ := trichotomy A B n m _ _ sp HK.out HR1.out HR2.out hsp
      have HBW : Hid (Below w'.heap.size w' w7) := by
        have e1 := HAll.out.2.2.2.2
        have e2 := e1.trans (HQ6.out.below.mono e1.size)
        exact e2.trans (HQ7.out.below.mono e2.size)
      clear hq7 hsp HR1 HR2 HAll HQ6 HQ7
      cases sp
      all_goals first
        | (have h := HT.out; simp at h; done)
        | (clear HT HK
           go_wp2
           go_ret
           exact ⟨rfl, HBW.out⟩)
end Go.Proofs.Qxb6603018a.Cb
