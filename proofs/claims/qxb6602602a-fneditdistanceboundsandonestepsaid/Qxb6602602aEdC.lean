/-
  THE WALK OF editDistance.
-/
import Derived.Test.Qxb6602602aEdB
import Derived.RegionTactic
import Derived.BigRegion
import Derived.Deep.DeepCutAuto
namespace Go.Proofs.Qxb6602602a.Ed
open Go.RowKit

set_option maxRecDepth 100000 in
set_option maxHeartbeats 4000000 in
theorem editDistance_any (a : Option Addr) (n ca : Nat) (f : Nat → Int) (b : Option Addr) (m cb : Nat) (g : Nat → Int) (w : World) (hn : n ≤ 1025) (hm : m ≤ 1025) (hA : Runes w a n f) (hB : Runes w b m g) :
    Calls Try.prog 22 #[.slice a n ca, .slice b m cb] w fun e w' => e = .returned (.int .i64 (D f g n m)) ∧ Below w.heap.size w w' := by
  have HA : Hid (Runes w a n f) := hA
  have HB : Hid (Runes w b m g) := hB
  clear hA hB
  have hmk := make_row m hm
  go_enter Try.func22, Try.ntmps22
  go_upto_region 1 with fail
  go_cut [5, 6, 7] (fun s5 s6 s7 wx => ∃ p5 p6 p7 : Nat, s5 = .slice (some ⟨p5, 0, none⟩) (m + 1) (m + 1) ∧ s6 = .slice (some ⟨p6, 0, none⟩) (m + 1) (m + 1) ∧ s7 = .slice (some ⟨p7, 0, none⟩) (m + 1) (m + 1) ∧ Three w.heap.size p5 p6 p7 ∧ RowAt wx p5 m (fun _ => 0) ∧ RowAt wx p6 m (fun _ => 0) ∧ RowAt wx p7 m (fun _ => 0) ∧ Below w.heap.size w wx)
  case first =>
    have M := made3 w m
    have HM : Hid (_ ∧ _) := M
    clear M
    go_region
    all_goals
      go_wp2_with fail
      go_meet
      case rel => exact ⟨_, _, _, rfl, rfl, rfl, by unfold Three; omega, by first | exact HM.out.1 | exact HM.out.2.1 | exact HM.out.2.2.1, by first | exact HM.out.1 | exact HM.out.2.1 | exact HM.out.2.2.1, by first | exact HM.out.1 | exact HM.out.2.1 | exact HM.out.2.2.1, HM.out.2.2.2⟩
  case rest =>
    obtain ⟨p5, p6, p7, rfl, rfl, rfl, hth, r5, r6, r7, hbw⟩ := hcut
    have HT : Hid (Three w.heap.size p5 p6 p7) := hth
    have R5 : Hid (RowAt wc p5 m (fun _ => 0)) := r5
    have R6 : Hid (RowAt wc p6 m (fun _ => 0)) := r6
    have R7 : Hid (RowAt wc p7 m (fun _ => 0)) := r7
    have HW : Hid (Below w.heap.size w wc) := hbw
    clear hth r5 r6 r7 hbw hmk
    go_wp2
    go_loopw [26] (fun i wr => ∃ (k : Nat) (h6 : Nat → Int), k ≤ m + 1 ∧ i = .int .i64 k ∧ RowAt wr p5 m (fun _ => 0) ∧ RowAt wr p6 m h6 ∧ RowAt wr p7 m (fun _ => 0) ∧ (∀ t, t < k → h6 t = (t : Int)) ∧ Below w.heap.size w wr) (fun i _ => m + 1 - (intOf i).toNat)
    case atStart => exact ⟨0, _, Nat.zero_le _, rfl, R5.out, R6.out, R7.out, fun t ht => absurd ht (Nat.not_lt_zero _), HW.out⟩
    case round =>
      obtain ⟨k, h6, hk, rfl, r5, r6, r7, hall, hbw⟩ := hrel
      have S5 : Hid (RowAt wr p5 m (fun _ => 0)) := r5
      have S6 : Hid (RowAt wr p6 m h6) := r6
      have S7 : Hid (RowAt wr p7 m (fun _ => 0)) := r7
      have SL : Hid (∀ t, t < k → h6 t = (t : Int)) := hall
      have SW : Hid (Below w.heap.size w wr) := hbw
      clear r5 r6 r7 hall hbw
      by_cases hlt : k < m + 1
      · have c6 := S6.out.cell k (by omega)
        have z6 := S6.out.free k
        have hi : (k : Int) < (m : Int) + 1 := by omega
        go_wp2
        obtain ⟨t1, t2, t3, t4, t5, t6⟩ := HT.out
        exact ⟨⟨k + 1, upd h6 k k, by omega, by go_num, S5.out.other p6 k _ t1, S6.out.store k (by omega) k, S7.out.other p6 k _ (Ne.symm t3), fun t ht => by
          by_cases e : t = k
          · rw [e, upd_at]
          · rw [upd_ne _ _ _ _ e]; exact SL.out t (by omega), SW.out.setCell t5 _⟩, by simp only [intOf]; omega⟩
      · have hi : ¬ (k : Int) < (m : Int) + 1 := by omega
        obtain rfl : k = m + 1 := by omega
        have T6 : Hid (RowAt wr p6 m (fun t => (t : Int))) := S6.out.ext (fun t ht => SL.out t (by omega))
        clear S6 SL
        go_wp2
        go_loopw [5, 6, 7, 9] (fun s5 s6 s7 t wr => ∃ (i p5 p6 p7 : Nat) (g7 : Nat → Int), i ≤ n ∧ t = .int .i64 ((i : Int) + 1) ∧ s5 = .slice (some ⟨p5, 0, none⟩) (m + 1) (m + 1) ∧ s6 = .slice (some ⟨p6, 0, none⟩) (m + 1) (m + 1) ∧ s7 = .slice (some ⟨p7, 0, none⟩) (m + 1) (m + 1) ∧ Three w.heap.size p5 p6 p7 ∧ RowAt wr p5 m (Dp f g i) ∧ RowAt wr p6 m (D f g i) ∧ RowAt wr p7 m g7 ∧ Below w.heap.size w wr) (fun _ _ _ t _ => n + 1 - (intOf t).toNat)
        case atStart => exact ⟨0, p5, p6, p7, _, Nat.zero_le _, rfl, rfl, rfl, rfl, HT.out, S5.out, T6.out, S7.out, SW.out⟩
        case round =>
          clear HT R5 R6 R7 HW S5 T6 S7 SW
          obtain ⟨i, p5, p6, p7, g7, hi, rfl, rfl, rfl, rfl, hth, r5, r6, r7, hbw⟩ := hrel
          have HT : Hid (Three w.heap.size p5 p6 p7) := hth
          have S5 : Hid (RowAt wr p5 m (Dp f g i)) := r5
          have S6 : Hid (RowAt wr p6 m (D f g i)) := r6
          have S7 : Hid (RowAt wr p7 m g7) := r7
          have SW : Hid (Below w.heap.size w wr) := hbw
          clear hth r5 r6 r7 hbw
          by_cases hin : i < n
          · have hii : (i : Int) + 1 ≤ (n : Int) := by omega
            have c7 := S7.out.cell 0 (Nat.zero_le _)
            have z7 := S7.out.free 0
            go_wp2
            go_loopw [10] (fun t wr => ∃ (j : Nat) (h7 : Nat → Int), j ≤ m ∧ t = .int .i64 ((j : Int) + 1) ∧ RowAt wr p5 m (Dp f g i) ∧ RowAt wr p6 m (D f g i) ∧ RowAt wr p7 m h7 ∧ (∀ t, t ≤ j → h7 t = D f g (i + 1) t) ∧ Below w.heap.size w wr) (fun t _ => m + 1 - (intOf t).toNat)
            case atStart =>
              obtain ⟨t1, t2, t3, t4, t5, t6⟩ := HT.out
              exact ⟨0, _, Nat.zero_le _, rfl, S5.out.other p7 0 _ t2, S6.out.other p7 0 _ t3, S7.out.store 0 (Nat.zero_le _) _, fun t ht => by
                obtain rfl : t = 0 := by omega
                rw [upd_at, D_left]; omega, SW.out.setCell t6 _⟩
            case round =>
              clear S5 S6 S7 SW c7 z7
              obtain ⟨j, h7, hj, rfl, r5, r6, r7, hall, hbw⟩ := hrel
              have S5 : Hid (RowAt wr p5 m (Dp f g i)) := r5
              have S6 : Hid (RowAt wr p6 m (D f g i)) := r6
              have S7 : Hid (RowAt wr p7 m h7) := r7
              have SL : Hid (∀ t, t ≤ j → h7 t = D f g (i + 1) t) := hall
              have SW : Hid (Below w.heap.size w wr) := hbw
              clear r5 r6 r7 hall hbw
              by_cases hjm : j < m
              · have hji : (j : Int) + 1 ≤ (m : Int) := by omega
                obtain ⟨pa, oa, rfl, hpa, hac⟩ := HA.out (by omega)
                obtain ⟨pb, ob, rfl, hpb, hbc⟩ := HB.out (by omega)
                have ca0 := (SW.out.cell (p := ⟨pa, oa + i, none⟩) hpa).trans (hac i hin)
                have cb0 := (SW.out.cell (p := ⟨pb, ob + j, none⟩) hpb).trans (hbc j hjm)
                have hi1 : (i : Int) < (n : Int) := by omega
                have hj1 : (j : Int) < (m : Int) := by omega
                have HAC : Hid (∀ t, t < n → w.cell? ⟨pa, oa + t, none⟩ = some (.int .i32 (f t))) := hac
                have HBC : Hid (∀ t, t < m → w.cell? ⟨pb, ob + t, none⟩ = some (.int .i32 (g t))) := hbc
                clear hac hbc
                have u6 := S6.out.cell (j + 1) (by omega)
                have g6 := S6.out.cell j (by omega)
                have l7 : wr.cell? ⟨p7, j, none⟩ = some (.int .i64 (D f g (i + 1) j)) := by rw [S7.out.cell j (by omega), SL.out j (Nat.le_refl _)]
                have o7 := S7.out.cell (j + 1) (by omega)
                have z7 := S7.out.free (j + 1)
                have bU := D_nonneg f g i (j + 1)
                have bU' := D_le_max f g i (j + 1)
                have bG := D_nonneg f g i j
                have bG' := D_le_max f g i j
                have bL := D_nonneg f g (i + 1) j
                have bL' := D_le_max f g (i + 1) j
                have mU : D f g i (j + 1) ≤ 2000 := by omega
                have mG : D f g i j ≤ 2000 := by omega
                have mL : D f g (i + 1) j ≤ 2000 := by omega
                clear bU' bG' bL'
                have hj2 : (j : Int) + 1 < (m : Int) + 1 := by omega
                have hj3 : (j : Int) < (m : Int) + 1 := by omega
                generalize hU : D f g i (j + 1) = U at *
                generalize hG : D f g i j = G at *
                generalize hL : D f g (i + 1) j = L at *
                generalize hO : h7 (j + 1) = O at *
                have HU : Hid (D f g i (j + 1) = U) := hU
                have HG : Hid (D f g i j = G) := hG
                have HL : Hid (D f g (i + 1) j = L) := hL
                clear hU hG hL hO
                have hmin3 := run_mn3
                have npa : ¬ pa = p7 := fun h => by have := HT.out.2.2.2.2.2; omega
                have npb : ¬ pb = p7 := fun h => by have := HT.out.2.2.2.2.2; omega
                by_cases he : f i = g j
                · have hb : (f i == g j) = true := by simp [he]
                  have HR : Hid (rep f g i j = 0) := by simp [rep, he, Hid]
                  clear he
                  go_wp2
                  go_quiet (fail)
                  go_wp2
                  go_region
                  go_wp2
                  refine rename_world (fun W2 => ∃ V : Int, V = mn3 (U + 1) (L + 1) (G + rep f g i j) ∧ RowAt W2 p5 m (Dp f g i) ∧ RowAt W2 p6 m (D f g i) ∧ RowAt W2 p7 m (upd h7 (j + 1) V) ∧ Below w.heap.size w W2) ?_ ?_
                  · obtain ⟨t1, t2, t3, t4, t5, t6⟩ := HT.out
                    exact ⟨mn3 (U + 1) (L + 1) G, by rw [HR.out, Int.add_zero], (S5.out.draws _).other p7 _ _ t2, (S6.out.draws _).other p7 _ _ t3, (S7.out.draws _).store (j + 1) (by omega) _, (below_drewN SW.out _).setCell t6 _⟩
                  rintro W2 ⟨V, hV, r5, r6, r7, hbw⟩
                  have HV : Hid (V = mn3 (U + 1) (L + 1) (G + rep f g i j)) := hV
                  have T5 : Hid (RowAt W2 p5 m (Dp f g i)) := r5
                  have T6 : Hid (RowAt W2 p6 m (D f g i)) := r6
                  have T7 : Hid (RowAt W2 p7 m (upd h7 (j + 1) V)) := r7
                  have TW : Hid (Below w.heap.size w W2) := hbw
                  clear hV r5 r6 r7 hbw ca0 cb0 u6 g6 l7 o7 z7 S5 S6 S7 SW hb
                  rcases Nat.eq_zero_or_pos i with hi0 | hi0
                  · have HSW : Hid (sw f g i j = false) := by subst hi0; simp [sw, Hid]
                    have gd : decide ((1 : Int) < (i : Int) + 1) = false := decide_eq_false (by omega)
                    have gd2 : ¬ ((1 : Int) < (i : Int) + 1) := by omega
                    clear hi0
                    go_wp2
                    go_quiet (fail)
                    go_wp2
                    exact ⟨⟨j + 1, _, by omega, by go_num, T5.out.draws _, T6.out.draws _, T7.out.draws _, row_at SL.out (base_at HSW.out HU.out HL.out HG.out HV.out), below_drewN TW.out _⟩, by simp only [intOf]; omega⟩
                  rcases Nat.eq_zero_or_pos j with hj0 | hj0
                  · have HSW : Hid (sw f g i j = false) := by subst hj0; simp [sw, Hid]
                    have gi : (1 : Int) < (i : Int) + 1 := by omega
                    have gi2 : decide ((1 : Int) < (i : Int) + 1) = true := decide_eq_true gi
                    have gd : decide ((1 : Int) < (j : Int) + 1) = false := decide_eq_false (by omega)
                    clear hj0
                    go_wp2
                    go_quiet (fail)
                    go_wp2
                    exact ⟨⟨j + 1, _, by omega, by go_num, T5.out.draws _, T6.out.draws _, T7.out.draws _, row_at SL.out (base_at HSW.out HU.out HL.out HG.out HV.out), below_drewN TW.out _⟩, by simp only [intOf]; omega⟩
                  obtain ⟨i1, rfl⟩ : ∃ i1, i = i1 + 1 := ⟨i - 1, by omega⟩
                  obtain ⟨j1, rfl⟩ : ∃ j1, j = j1 + 1 := ⟨j - 1, by omega⟩
                  have ca0 := (TW.out.cell (p := ⟨pa, oa + (i1 + 1), none⟩) hpa).trans (HAC.out (i1 + 1) hin)
                  have ca1 := (TW.out.cell (p := ⟨pa, oa + i1, none⟩) hpa).trans (HAC.out i1 (by omega))
                  have cb0 := (TW.out.cell (p := ⟨pb, ob + (j1 + 1), none⟩) hpb).trans (HBC.out (j1 + 1) hjm)
                  have cb1 := (TW.out.cell (p := ⟨pb, ob + j1, none⟩) hpb).trans (HBC.out j1 (by omega))
                  have hi2 : (i1 : Int) < (n : Int) := by omega
                  have hj4 : (j1 : Int) < (m : Int) := by omega
                  have hi3 : (i1 : Int) + 1 < (n : Int) := by omega
                  have hj5 : (j1 : Int) + 1 < (m : Int) := by omega
                  have gi : (1 : Int) < (i1 : Int) + 1 + 1 := by omega
                  have gj : (1 : Int) < (j1 : Int) + 1 + 1 := by omega
                  by_cases e1 : f (i1 + 1) = g j1
                  · have b1 : (f (i1 + 1) == g j1) = true := by simp [e1]
                    by_cases e2 : f i1 = g (j1 + 1)
                    · have b2 : (f i1 == g (j1 + 1)) = true := by simp [e2]
                      have HSW : Hid (sw f g (i1 + 1) (j1 + 1) = true) := by simp [sw, e1, e2, Hid]
                      clear e1 e2
                      have x7 : W2.cell? ⟨p7, j1 + 1 + 1, none⟩ = some (.int .i64 V) := by rw [T7.out.cell (j1 + 1 + 1) (by omega), upd_at]
                      have z7 := T7.out.free (j1 + 1 + 1)
                      have x5 : W2.cell? ⟨p5, j1, none⟩ = some (.int .i64 (D f g i1 j1)) := T5.out.cell j1 (by omega)
                      have bB := D_nonneg f g i1 j1
                      have bB' := D_le_max f g i1 j1
                      have mB : D f g i1 j1 ≤ 2000 := by omega
                      clear bB'
                      have hmin2' := run_mn2
                      generalize hBk : D f g i1 j1 = Bk at *
                      have HBk : Hid (D f g i1 j1 = Bk) := hBk
                      clear hBk
                      go_wp2
                      go_quiet (fail)
                      go_wp2
                      go_region
                      go_wp2
                      obtain ⟨t1, t2, t3, t4, t5, t6⟩ := HT.out
                      exact ⟨⟨j1 + 1 + 1, _, by omega, by go_num, (T5.out.draws _).other p7 _ _ t2, (T6.out.draws _).other p7 _ _ t3, (T7.out.draws _).store (j1 + 1 + 1) (by omega) _, row_at2 SL.out (by rw [← swap_at HSW.out HU.out HL.out HG.out HV.out, ← HBk.out]; rfl), (below_drewN TW.out _).setCell t6 _⟩, by simp only [intOf]; omega⟩
                    · have b2 : (f i1 == g (j1 + 1)) = false := by simpa using e2
                      have HSW : Hid (sw f g (i1 + 1) (j1 + 1) = false) := by simp [sw, e2, Hid]
                      clear e1 e2
                      go_wp2
                      go_quiet (fail)
                      go_wp2
                      exact ⟨⟨j1 + 1 + 1, _, by omega, by go_num, T5.out.draws _, T6.out.draws _, T7.out.draws _, row_at SL.out (base_at HSW.out HU.out HL.out HG.out HV.out), below_drewN TW.out _⟩, by simp only [intOf]; omega⟩
                  · have b1 : (f (i1 + 1) == g j1) = false := by simpa using e1
                    have HSW : Hid (sw f g (i1 + 1) (j1 + 1) = false) := by simp [sw, e1, Hid]
                    clear e1
                    go_wp2
                    go_quiet (fail)
                    go_wp2
                    exact ⟨⟨j1 + 1 + 1, _, by omega, by go_num, T5.out.draws _, T6.out.draws _, T7.out.draws _, row_at SL.out (base_at HSW.out HU.out HL.out HG.out HV.out), below_drewN TW.out _⟩, by simp only [intOf]; omega⟩
                · have hb : (f i == g j) = false := by simpa using he
                  have HR : Hid (rep f g i j = 1) := by simp [rep, he, Hid]
                  clear he
                  go_wp2
                  go_quiet (fail)
                  go_wp2
                  go_region
                  go_wp2
                  refine rename_world (fun W2 => ∃ V : Int, V = mn3 (U + 1) (L + 1) (G + rep f g i j) ∧ RowAt W2 p5 m (Dp f g i) ∧ RowAt W2 p6 m (D f g i) ∧ RowAt W2 p7 m (upd h7 (j + 1) V) ∧ Below w.heap.size w W2) ?_ ?_
                  · obtain ⟨t1, t2, t3, t4, t5, t6⟩ := HT.out
                    exact ⟨mn3 (U + 1) (L + 1) (G + 1), by rw [HR.out], (S5.out.draws _).other p7 _ _ t2, (S6.out.draws _).other p7 _ _ t3, (S7.out.draws _).store (j + 1) (by omega) _, (below_drewN SW.out _).setCell t6 _⟩
                  rintro W2 ⟨V, hV, r5, r6, r7, hbw⟩
                  have HV : Hid (V = mn3 (U + 1) (L + 1) (G + rep f g i j)) := hV
                  have T5 : Hid (RowAt W2 p5 m (Dp f g i)) := r5
                  have T6 : Hid (RowAt W2 p6 m (D f g i)) := r6
                  have T7 : Hid (RowAt W2 p7 m (upd h7 (j + 1) V)) := r7
                  have TW : Hid (Below w.heap.size w W2) := hbw
                  clear hV r5 r6 r7 hbw ca0 cb0 u6 g6 l7 o7 z7 S5 S6 S7 SW hb
                  rcases Nat.eq_zero_or_pos i with hi0 | hi0
                  · have HSW : Hid (sw f g i j = false) := by subst hi0; simp [sw, Hid]
                    have gd : decide ((1 : Int) < (i : Int) + 1) = false := decide_eq_false (by omega)
                    have gd2 : ¬ ((1 : Int) < (i : Int) + 1) := by omega
                    clear hi0
                    go_wp2
                    go_quiet (fail)
                    go_wp2
                    exact ⟨⟨j + 1, _, by omega, by go_num, T5.out.draws _, T6.out.draws _, T7.out.draws _, row_at SL.out (base_at HSW.out HU.out HL.out HG.out HV.out), below_drewN TW.out _⟩, by simp only [intOf]; omega⟩
                  rcases Nat.eq_zero_or_pos j with hj0 | hj0
                  · have HSW : Hid (sw f g i j = false) := by subst hj0; simp [sw, Hid]
                    have gi : (1 : Int) < (i : Int) + 1 := by omega
                    have gi2 : decide ((1 : Int) < (i : Int) + 1) = true := decide_eq_true gi
                    have gd : decide ((1 : Int) < (j : Int) + 1) = false := decide_eq_false (by omega)
                    clear hj0
                    go_wp2
                    go_quiet (fail)
                    go_wp2
                    exact ⟨⟨j + 1, _, by omega, by go_num, T5.out.draws _, T6.out.draws _, T7.out.draws _, row_at SL.out (base_at HSW.out HU.out HL.out HG.out HV.out), below_drewN TW.out _⟩, by simp only [intOf]; omega⟩
                  obtain ⟨i1, rfl⟩ : ∃ i1, i = i1 + 1 := ⟨i - 1, by omega⟩
                  obtain ⟨j1, rfl⟩ : ∃ j1, j = j1 + 1 := ⟨j - 1, by omega⟩
                  have ca0 := (TW.out.cell (p := ⟨pa, oa + (i1 + 1), none⟩) hpa).trans (HAC.out (i1 + 1) hin)
                  have ca1 := (TW.out.cell (p := ⟨pa, oa + i1, none⟩) hpa).trans (HAC.out i1 (by omega))
                  have cb0 := (TW.out.cell (p := ⟨pb, ob + (j1 + 1), none⟩) hpb).trans (HBC.out (j1 + 1) hjm)
                  have cb1 := (TW.out.cell (p := ⟨pb, ob + j1, none⟩) hpb).trans (HBC.out j1 (by omega))
                  have hi2 : (i1 : Int) < (n : Int) := by omega
                  have hj4 : (j1 : Int) < (m : Int) := by omega
                  have hi3 : (i1 : Int) + 1 < (n : Int) := by omega
                  have hj5 : (j1 : Int) + 1 < (m : Int) := by omega
                  have gi : (1 : Int) < (i1 : Int) + 1 + 1 := by omega
                  have gj : (1 : Int) < (j1 : Int) + 1 + 1 := by omega
                  by_cases e1 : f (i1 + 1) = g j1
                  · have b1 : (f (i1 + 1) == g j1) = true := by simp [e1]
                    by_cases e2 : f i1 = g (j1 + 1)
                    · have b2 : (f i1 == g (j1 + 1)) = true := by simp [e2]
                      have HSW : Hid (sw f g (i1 + 1) (j1 + 1) = true) := by simp [sw, e1, e2, Hid]
                      clear e1 e2
                      have x7 : W2.cell? ⟨p7, j1 + 1 + 1, none⟩ = some (.int .i64 V) := by rw [T7.out.cell (j1 + 1 + 1) (by omega), upd_at]
                      have z7 := T7.out.free (j1 + 1 + 1)
                      have x5 : W2.cell? ⟨p5, j1, none⟩ = some (.int .i64 (D f g i1 j1)) := T5.out.cell j1 (by omega)
                      have bB := D_nonneg f g i1 j1
                      have bB' := D_le_max f g i1 j1
                      have mB : D f g i1 j1 ≤ 2000 := by omega
                      clear bB'
                      have hmin2' := run_mn2
                      generalize hBk : D f g i1 j1 = Bk at *
                      have HBk : Hid (D f g i1 j1 = Bk) := hBk
                      clear hBk
                      go_wp2
                      go_quiet (fail)
                      go_wp2
                      go_region
                      go_wp2
                      obtain ⟨t1, t2, t3, t4, t5, t6⟩ := HT.out
                      exact ⟨⟨j1 + 1 + 1, _, by omega, by go_num, (T5.out.draws _).other p7 _ _ t2, (T6.out.draws _).other p7 _ _ t3, (T7.out.draws _).store (j1 + 1 + 1) (by omega) _, row_at2 SL.out (by rw [← swap_at HSW.out HU.out HL.out HG.out HV.out, ← HBk.out]; rfl), (below_drewN TW.out _).setCell t6 _⟩, by simp only [intOf]; omega⟩
                    · have b2 : (f i1 == g (j1 + 1)) = false := by simpa using e2
                      have HSW : Hid (sw f g (i1 + 1) (j1 + 1) = false) := by simp [sw, e2, Hid]
                      clear e1 e2
                      go_wp2
                      go_quiet (fail)
                      go_wp2
                      exact ⟨⟨j1 + 1 + 1, _, by omega, by go_num, T5.out.draws _, T6.out.draws _, T7.out.draws _, row_at SL.out (base_at HSW.out HU.out HL.out HG.out HV.out), below_drewN TW.out _⟩, by simp only [intOf]; omega⟩
                  · have b1 : (f (i1 + 1) == g j1) = false := by simpa using e1
                    have HSW : Hid (sw f g (i1 + 1) (j1 + 1) = false) := by simp [sw, e1, Hid]
                    clear e1
                    go_wp2
                    go_quiet (fail)
                    go_wp2
                    exact ⟨⟨j1 + 1 + 1, _, by omega, by go_num, T5.out.draws _, T6.out.draws _, T7.out.draws _, row_at SL.out (base_at HSW.out HU.out HL.out HG.out HV.out), below_drewN TW.out _⟩, by simp only [intOf]; omega⟩
              · have hji : ¬ (j : Int) + 1 ≤ (m : Int) := by omega
                obtain rfl : j = m := by omega
                have T7 : Hid (RowAt wr p7 j (D f g (i + 1))) := S7.out.ext (fun t ht => SL.out t ht)
                go_wp2
                obtain ⟨t1, t2, t3, t4, t5, t6⟩ := HT.out
                refine ⟨⟨i + 1, p6, p7, p5, _, by omega, by go_num, rfl, rfl, rfl, ⟨t3, Ne.symm t1, Ne.symm t2, t5, t6, t4⟩, S6.out, T7.out, S5.out, SW.out⟩, by simp only [intOf]; omega⟩
          · have hii : ¬ (i : Int) + 1 ≤ (n : Int) := by omega
            obtain rfl : i = n := by omega
            have c6 := S6.out.cell m (Nat.le_refl _)
            have hmi : (m : Int) < (m : Int) + 1 := by omega
            go_wp2
            go_ret
            exact ⟨rfl, SW.out⟩
end Go.Proofs.Qxb6602602a.Ed
