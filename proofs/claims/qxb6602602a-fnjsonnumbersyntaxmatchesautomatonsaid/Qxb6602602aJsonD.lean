/-
  THE CONTRACT OF jsonNumberSyntax: it answers as the automaton does.
-/
import Derived.Test.Qxb6602602aJsonC
namespace Go.Proofs.Qxb6602602a.Json
open Go.RowKit

set_option maxHeartbeats 4000000 in
theorem jns_plain (s : ByteArray) (w : World) (hs : s.size ≤ 1048576) (hc : 0 < s.size → chr s 0 ≠ 45) :
    Calls Try.prog 20 #[.string s] w fun e w' => w' = w ∧ e = .returned (.tuple #[.bool (acc (run (chr s) s.size)), .bool (itg (run (chr s) s.size))]) := by
  have HS0 : Hid ((run (chr s) 0 = 0 ∧ (0 < s.size → chr s 0 ≠ 45)) ∨ run (chr s) 0 = 1) := .inl ⟨rfl, hc⟩
  have b45 : 0 < s.size → (chr s 0 == 45) = false := fun h => by simpa using hc h
  clear hc
  by_cases hl0 : 0 < s.size
  · have hidx0 := idx s 0 hl0 0 rfl
    have hi0 : (0 : Int) < (s.size : Int) := by omega
    have b45' : (chr s 0 == 45) = false := b45 hl0
    clear b45
    by_cases h48 : chr s 0 = 48
    · have HI : Hid (IntP (chr s) s.size (1)) := zero_int (chr s) s.size 0 (HS0.out.elim (fun h => .inl h.1) .inr) hl0 h48
      have b48 : (chr s 0 == 48) = true := by simp [h48]
      clear h48
      by_cases hpt : 1 < s.size ∧ chr s (1) = 46
      · obtain ⟨hpl, hpc⟩ := hpt
        have hidxp := idx s (1) hpl (1 : Int) rfl
        have hpb : (chr s (1) == 46) = true := by simp [hpc]
        have hpi : (1 : Int) < (s.size : Int) := by omega
        have HPC : Hid (chr s (1) = 46) := hpc
        clear hpc
        go_enter Try.func20, Try.ntmps20
        go_wp2_with fail
        refine (skipDigits_int s _ (1 + 1) _ (by omega) hs (by omega)).mono ?_
        rintro e w' ⟨rfl, j2, rfl, hsd2⟩
        by_cases hb2 : j2 = 1 + 1
        · have HR : Hid (acc (run (chr s) s.size) = false ∧ itg (run (chr s) s.size) = false) := by
            subst hb2
            exact bad_point (chr s) s.size (1) HI.out hpl HPC.out hsd2
          have e1 : ((j2 : Int) == (1 : Int) + 1) = true := beq_iff_eq.2 (by omega)
          clear hb2 hsd2
          go_wp2
          go_ret2
          exact ⟨rfl, by rw [HR.out.1, HR.out.2]; rfl⟩
        · have HP : Hid (PreE (chr s) s.size j2 5) := good_point (chr s) s.size (1) j2 HI.out HPC.out hsd2 hb2
          have hj2 : 1 + 1 < j2 := by have := hsd2.1; omega
          have hj2n : j2 ≤ s.size := hsd2.2.1
          have e1 : ((j2 : Int) == (1 : Int) + 1) = false := beq_eq_false_iff_ne.2 (by omega)
          clear hb2 hsd2
          go_wp2_with fail
          refine (skipExponent_int s _ (j2) _ (by omega) hs (by omega)).mono ?_
          rintro e w' ⟨rfl, hres⟩
          rcases hres with ⟨hA, rfl⟩ | ⟨hk, he, k4, j4, hsg, hsd4, rfl⟩
          · by_cases hend : j2 = s.size
            · have HR : Hid (acc (run (chr s) s.size) = true ∧ itg (run (chr s) s.size) = false) := by
                have h1 := HP.out
                rw [hend] at h1
                have h2 := end_here (chr s) s.size 5 h1
                exact ⟨h2.1, h2.2⟩
              have e1 : ((j2 : Int) == (s.size : Int)) = true := beq_iff_eq.2 (by omega)
              have e2 : ((1 : Int) == (s.size : Int)) = false := beq_eq_false_iff_ne.2 (by omega)
              clear hA hend
              go_wp2
              go_ret2
              exact ⟨rfl, by rw [HR.out.1, HR.out.2]; rfl⟩
            · have hk : j2 < s.size := by omega
              have HR : Hid (acc (run (chr s) s.size) = false ∧ itg (run (chr s) s.size) = false) := by
                rcases hA with h | ⟨h1, h2⟩
                · exact absurd h hend
                · exact end_junk (chr s) s.size (j2) 5 HP.out hk h1 h2
              have e1 : ((j2 : Int) == (s.size : Int)) = false := beq_eq_false_iff_ne.2 (by omega)
              have e2 : ((1 : Int) == (s.size : Int)) = false := beq_eq_false_iff_ne.2 (by omega)
              clear hA hend
              go_wp2
              go_ret2
              exact ⟨rfl, by rw [HR.out.1, HR.out.2]; rfl⟩
          · have e2 : ((1 : Int) == (s.size : Int)) = false := beq_eq_false_iff_ne.2 (by omega)
            by_cases hok : k4 < j4
            · have HR : Hid (acc (run (chr s) s.size) = decide (j4 = s.size) ∧ itg (run (chr s) s.size) = false) := exp_good (chr s) s.size (j2) k4 j4 5 HP.out hk he hsg hsd4 hok
              clear he hsg hsd4
              by_cases hend : j4 = s.size
              · have e1 : ((j4 : Int) == (s.size : Int)) = true := beq_iff_eq.2 (by omega)
                have HD : Hid (decide (j4 = s.size) = true) := decide_eq_true hend
                clear hend
                go_wp2
                go_ret2
                exact ⟨rfl, by rw [HR.out.1, HR.out.2, HD.out]; rfl⟩
              · have e1 : ((j4 : Int) == (s.size : Int)) = false := beq_eq_false_iff_ne.2 (by omega)
                have HD : Hid (decide (j4 = s.size) = false) := decide_eq_false hend
                clear hend
                go_wp2
                go_ret2
                exact ⟨rfl, by rw [HR.out.1, HR.out.2, HD.out]; rfl⟩
            · have HR : Hid (acc (run (chr s) s.size) = false ∧ itg (run (chr s) s.size) = false) := by
                obtain rfl : k4 = j4 := by have := hsd4.1; omega
                exact exp_bad (chr s) s.size (j2) k4 5 HP.out hk he hsg hsd4
              clear he hsg hsd4
              go_wp2
              go_ret2
              exact ⟨rfl, by rw [HR.out.1, HR.out.2]; rfl⟩
      · obtain ⟨S, hP, hS5⟩ := no_point (chr s) s.size (1) HI.out hpt
        have HP : Hid (PreE (chr s) s.size (1) S) := hP
        have HS5 : Hid (S ≠ 5) := hS5
        have hWn : 1 ≤ s.size := HI.out.1
        clear hP hS5
        by_cases hpl : 1 < s.size
        · have hidxp := idx s (1) hpl (1 : Int) rfl
          have hpb : (chr s (1) == 46) = false := by
            have : chr s (1) ≠ 46 := fun h => hpt ⟨hpl, h⟩
            simpa using this
          have hpi : (1 : Int) < (s.size : Int) := by omega
          clear hpt
          go_enter Try.func20, Try.ntmps20
          go_wp2_with fail
          refine (skipExponent_int s _ (1) _ (by omega) hs (by omega)).mono ?_
          rintro e w' ⟨rfl, hres⟩
          rcases hres with ⟨hA, rfl⟩ | ⟨hk, he, k4, j4, hsg, hsd4, rfl⟩
          · by_cases hend : 1 = s.size
            · have HR : Hid (acc (run (chr s) s.size) = true ∧ itg (run (chr s) s.size) = true) := by
                have h1 := HP.out
                rw [hend] at h1
                have h2 := end_here (chr s) s.size S h1
                exact ⟨h2.1, h2.2.trans (by simpa using HS5.out)⟩
              have e1 : ((1 : Int) == (s.size : Int)) = true := beq_iff_eq.2 (by omega)
              have e2 : ((1 : Int) == (s.size : Int)) = true := beq_iff_eq.2 (by omega)
              clear hA hend
              go_wp2
              go_ret2
              exact ⟨rfl, by rw [HR.out.1, HR.out.2]; rfl⟩
            · have hk : 1 < s.size := by omega
              have HR : Hid (acc (run (chr s) s.size) = false ∧ itg (run (chr s) s.size) = false) := by
                rcases hA with h | ⟨h1, h2⟩
                · exact absurd h hend
                · exact end_junk (chr s) s.size (1) S HP.out hk h1 h2
              have e1 : ((1 : Int) == (s.size : Int)) = false := beq_eq_false_iff_ne.2 (by omega)
              have e2 : ((1 : Int) == (s.size : Int)) = false := beq_eq_false_iff_ne.2 (by omega)
              clear hA hend
              go_wp2
              go_ret2
              exact ⟨rfl, by rw [HR.out.1, HR.out.2]; rfl⟩
          · have e2 : ((1 : Int) == (s.size : Int)) = false := beq_eq_false_iff_ne.2 (by omega)
            by_cases hok : k4 < j4
            · have HR : Hid (acc (run (chr s) s.size) = decide (j4 = s.size) ∧ itg (run (chr s) s.size) = false) := exp_good (chr s) s.size (1) k4 j4 S HP.out hk he hsg hsd4 hok
              clear he hsg hsd4
              by_cases hend : j4 = s.size
              · have e1 : ((j4 : Int) == (s.size : Int)) = true := beq_iff_eq.2 (by omega)
                have HD : Hid (decide (j4 = s.size) = true) := decide_eq_true hend
                clear hend
                go_wp2
                go_ret2
                exact ⟨rfl, by rw [HR.out.1, HR.out.2, HD.out]; rfl⟩
              · have e1 : ((j4 : Int) == (s.size : Int)) = false := beq_eq_false_iff_ne.2 (by omega)
                have HD : Hid (decide (j4 = s.size) = false) := decide_eq_false hend
                clear hend
                go_wp2
                go_ret2
                exact ⟨rfl, by rw [HR.out.1, HR.out.2, HD.out]; rfl⟩
            · have HR : Hid (acc (run (chr s) s.size) = false ∧ itg (run (chr s) s.size) = false) := by
                obtain rfl : k4 = j4 := by have := hsd4.1; omega
                exact exp_bad (chr s) s.size (1) k4 S HP.out hk he hsg hsd4
              clear he hsg hsd4
              go_wp2
              go_ret2
              exact ⟨rfl, by rw [HR.out.1, HR.out.2]; rfl⟩
        · have hpi : ¬ (1 : Int) < (s.size : Int) := by omega
          clear hpt
          go_enter Try.func20, Try.ntmps20
          go_wp2_with fail
          refine (skipExponent_int s _ (1) _ (by omega) hs (by omega)).mono ?_
          rintro e w' ⟨rfl, hres⟩
          rcases hres with ⟨hA, rfl⟩ | ⟨hk, he, k4, j4, hsg, hsd4, rfl⟩
          · by_cases hend : 1 = s.size
            · have HR : Hid (acc (run (chr s) s.size) = true ∧ itg (run (chr s) s.size) = true) := by
                have h1 := HP.out
                rw [hend] at h1
                have h2 := end_here (chr s) s.size S h1
                exact ⟨h2.1, h2.2.trans (by simpa using HS5.out)⟩
              have e1 : ((1 : Int) == (s.size : Int)) = true := beq_iff_eq.2 (by omega)
              have e2 : ((1 : Int) == (s.size : Int)) = true := beq_iff_eq.2 (by omega)
              clear hA hend
              go_wp2
              go_ret2
              exact ⟨rfl, by rw [HR.out.1, HR.out.2]; rfl⟩
            · have hk : 1 < s.size := by omega
              have HR : Hid (acc (run (chr s) s.size) = false ∧ itg (run (chr s) s.size) = false) := by
                rcases hA with h | ⟨h1, h2⟩
                · exact absurd h hend
                · exact end_junk (chr s) s.size (1) S HP.out hk h1 h2
              have e1 : ((1 : Int) == (s.size : Int)) = false := beq_eq_false_iff_ne.2 (by omega)
              have e2 : ((1 : Int) == (s.size : Int)) = false := beq_eq_false_iff_ne.2 (by omega)
              clear hA hend
              go_wp2
              go_ret2
              exact ⟨rfl, by rw [HR.out.1, HR.out.2]; rfl⟩
          · have e2 : ((1 : Int) == (s.size : Int)) = false := beq_eq_false_iff_ne.2 (by omega)
            by_cases hok : k4 < j4
            · have HR : Hid (acc (run (chr s) s.size) = decide (j4 = s.size) ∧ itg (run (chr s) s.size) = false) := exp_good (chr s) s.size (1) k4 j4 S HP.out hk he hsg hsd4 hok
              clear he hsg hsd4
              by_cases hend : j4 = s.size
              · have e1 : ((j4 : Int) == (s.size : Int)) = true := beq_iff_eq.2 (by omega)
                have HD : Hid (decide (j4 = s.size) = true) := decide_eq_true hend
                clear hend
                go_wp2
                go_ret2
                exact ⟨rfl, by rw [HR.out.1, HR.out.2, HD.out]; rfl⟩
              · have e1 : ((j4 : Int) == (s.size : Int)) = false := beq_eq_false_iff_ne.2 (by omega)
                have HD : Hid (decide (j4 = s.size) = false) := decide_eq_false hend
                clear hend
                go_wp2
                go_ret2
                exact ⟨rfl, by rw [HR.out.1, HR.out.2, HD.out]; rfl⟩
            · have HR : Hid (acc (run (chr s) s.size) = false ∧ itg (run (chr s) s.size) = false) := by
                obtain rfl : k4 = j4 := by have := hsd4.1; omega
                exact exp_bad (chr s) s.size (1) k4 S HP.out hk he hsg hsd4
              clear he hsg hsd4
              go_wp2
              go_ret2
              exact ⟨rfl, by rw [HR.out.1, HR.out.2]; rfl⟩
    · have b48 : (chr s 0 == 48) = false := by simpa using h48
      by_cases h1 : 49 ≤ chr s 0
      · by_cases h2 : chr s 0 ≤ 57
        · go_enter Try.func20, Try.ntmps20
          go_wp2_with fail
          refine (skipDigits_int s _ 0 _ (by omega) hs (by omega)).mono ?_
          rintro e w' ⟨rfl, j, rfl, hsd⟩
          obtain ⟨hI, hj⟩ := digits_int (chr s) s.size 0 j (HS0.out.elim (fun h => .inl h.1) .inr) hl0 h1 h2 hsd
          have HI : Hid (IntP (chr s) s.size j) := hI
          have hjn : j ≤ s.size := hI.1
          clear hI hsd h48
          by_cases hpt : j < s.size ∧ chr s (j) = 46
          · obtain ⟨hpl, hpc⟩ := hpt
            have hidxp := idx s (j) hpl (j : Int) rfl
            have hpb : (chr s (j) == 46) = true := by simp [hpc]
            have hpi : (j : Int) < (s.size : Int) := by omega
            have HPC : Hid (chr s (j) = 46) := hpc
            clear hpc
            go_wp2_with fail
            refine (skipDigits_int s _ (j + 1) _ (by omega) hs (by omega)).mono ?_
            rintro e w' ⟨rfl, j2, rfl, hsd2⟩
            by_cases hb2 : j2 = j + 1
            · have HR : Hid (acc (run (chr s) s.size) = false ∧ itg (run (chr s) s.size) = false) := by
                subst hb2
                exact bad_point (chr s) s.size (j) HI.out hpl HPC.out hsd2
              have e1 : ((j2 : Int) == (j : Int) + 1) = true := beq_iff_eq.2 (by omega)
              clear hb2 hsd2
              go_wp2
              go_ret2
              exact ⟨rfl, by rw [HR.out.1, HR.out.2]; rfl⟩
            · have HP : Hid (PreE (chr s) s.size j2 5) := good_point (chr s) s.size (j) j2 HI.out HPC.out hsd2 hb2
              have hj2 : j + 1 < j2 := by have := hsd2.1; omega
              have hj2n : j2 ≤ s.size := hsd2.2.1
              have e1 : ((j2 : Int) == (j : Int) + 1) = false := beq_eq_false_iff_ne.2 (by omega)
              clear hb2 hsd2
              go_wp2_with fail
              refine (skipExponent_int s _ (j2) _ (by omega) hs (by omega)).mono ?_
              rintro e w' ⟨rfl, hres⟩
              rcases hres with ⟨hA, rfl⟩ | ⟨hk, he, k4, j4, hsg, hsd4, rfl⟩
              · by_cases hend : j2 = s.size
                · have HR : Hid (acc (run (chr s) s.size) = true ∧ itg (run (chr s) s.size) = false) := by
                    have h1 := HP.out
                    rw [hend] at h1
                    have h2 := end_here (chr s) s.size 5 h1
                    exact ⟨h2.1, h2.2⟩
                  have e1 : ((j2 : Int) == (s.size : Int)) = true := beq_iff_eq.2 (by omega)
                  have e2 : ((j : Int) == (s.size : Int)) = false := beq_eq_false_iff_ne.2 (by omega)
                  clear hA hend
                  go_wp2
                  go_ret2
                  exact ⟨rfl, by rw [HR.out.1, HR.out.2]; rfl⟩
                · have hk : j2 < s.size := by omega
                  have HR : Hid (acc (run (chr s) s.size) = false ∧ itg (run (chr s) s.size) = false) := by
                    rcases hA with h | ⟨h1, h2⟩
                    · exact absurd h hend
                    · exact end_junk (chr s) s.size (j2) 5 HP.out hk h1 h2
                  have e1 : ((j2 : Int) == (s.size : Int)) = false := beq_eq_false_iff_ne.2 (by omega)
                  have e2 : ((j : Int) == (s.size : Int)) = false := beq_eq_false_iff_ne.2 (by omega)
                  clear hA hend
                  go_wp2
                  go_ret2
                  exact ⟨rfl, by rw [HR.out.1, HR.out.2]; rfl⟩
              · have e2 : ((j : Int) == (s.size : Int)) = false := beq_eq_false_iff_ne.2 (by omega)
                by_cases hok : k4 < j4
                · have HR : Hid (acc (run (chr s) s.size) = decide (j4 = s.size) ∧ itg (run (chr s) s.size) = false) := exp_good (chr s) s.size (j2) k4 j4 5 HP.out hk he hsg hsd4 hok
                  clear he hsg hsd4
                  by_cases hend : j4 = s.size
                  · have e1 : ((j4 : Int) == (s.size : Int)) = true := beq_iff_eq.2 (by omega)
                    have HD : Hid (decide (j4 = s.size) = true) := decide_eq_true hend
                    clear hend
                    go_wp2
                    go_ret2
                    exact ⟨rfl, by rw [HR.out.1, HR.out.2, HD.out]; rfl⟩
                  · have e1 : ((j4 : Int) == (s.size : Int)) = false := beq_eq_false_iff_ne.2 (by omega)
                    have HD : Hid (decide (j4 = s.size) = false) := decide_eq_false hend
                    clear hend
                    go_wp2
                    go_ret2
                    exact ⟨rfl, by rw [HR.out.1, HR.out.2, HD.out]; rfl⟩
                · have HR : Hid (acc (run (chr s) s.size) = false ∧ itg (run (chr s) s.size) = false) := by
                    obtain rfl : k4 = j4 := by have := hsd4.1; omega
                    exact exp_bad (chr s) s.size (j2) k4 5 HP.out hk he hsg hsd4
                  clear he hsg hsd4
                  go_wp2
                  go_ret2
                  exact ⟨rfl, by rw [HR.out.1, HR.out.2]; rfl⟩
          · obtain ⟨S, hP, hS5⟩ := no_point (chr s) s.size (j) HI.out hpt
            have HP : Hid (PreE (chr s) s.size (j) S) := hP
            have HS5 : Hid (S ≠ 5) := hS5
            have hWn : j ≤ s.size := HI.out.1
            clear hP hS5
            by_cases hpl : j < s.size
            · have hidxp := idx s (j) hpl (j : Int) rfl
              have hpb : (chr s (j) == 46) = false := by
                have : chr s (j) ≠ 46 := fun h => hpt ⟨hpl, h⟩
                simpa using this
              have hpi : (j : Int) < (s.size : Int) := by omega
              clear hpt
              go_wp2_with fail
              refine (skipExponent_int s _ (j) _ (by omega) hs (by omega)).mono ?_
              rintro e w' ⟨rfl, hres⟩
              rcases hres with ⟨hA, rfl⟩ | ⟨hk, he, k4, j4, hsg, hsd4, rfl⟩
              · by_cases hend : j = s.size
                · have HR : Hid (acc (run (chr s) s.size) = true ∧ itg (run (chr s) s.size) = true) := by
                    have h1 := HP.out
                    rw [hend] at h1
                    have h2 := end_here (chr s) s.size S h1
                    exact ⟨h2.1, h2.2.trans (by simpa using HS5.out)⟩
                  have e1 : ((j : Int) == (s.size : Int)) = true := beq_iff_eq.2 (by omega)
                  have e2 : ((j : Int) == (s.size : Int)) = true := beq_iff_eq.2 (by omega)
                  clear hA hend
                  go_wp2
                  go_ret2
                  exact ⟨rfl, by rw [HR.out.1, HR.out.2]; rfl⟩
                · have hk : j < s.size := by omega
                  have HR : Hid (acc (run (chr s) s.size) = false ∧ itg (run (chr s) s.size) = false) := by
                    rcases hA with h | ⟨h1, h2⟩
                    · exact absurd h hend
                    · exact end_junk (chr s) s.size (j) S HP.out hk h1 h2
                  have e1 : ((j : Int) == (s.size : Int)) = false := beq_eq_false_iff_ne.2 (by omega)
                  have e2 : ((j : Int) == (s.size : Int)) = false := beq_eq_false_iff_ne.2 (by omega)
                  clear hA hend
                  go_wp2
                  go_ret2
                  exact ⟨rfl, by rw [HR.out.1, HR.out.2]; rfl⟩
              · have e2 : ((j : Int) == (s.size : Int)) = false := beq_eq_false_iff_ne.2 (by omega)
                by_cases hok : k4 < j4
                · have HR : Hid (acc (run (chr s) s.size) = decide (j4 = s.size) ∧ itg (run (chr s) s.size) = false) := exp_good (chr s) s.size (j) k4 j4 S HP.out hk he hsg hsd4 hok
                  clear he hsg hsd4
                  by_cases hend : j4 = s.size
                  · have e1 : ((j4 : Int) == (s.size : Int)) = true := beq_iff_eq.2 (by omega)
                    have HD : Hid (decide (j4 = s.size) = true) := decide_eq_true hend
                    clear hend
                    go_wp2
                    go_ret2
                    exact ⟨rfl, by rw [HR.out.1, HR.out.2, HD.out]; rfl⟩
                  · have e1 : ((j4 : Int) == (s.size : Int)) = false := beq_eq_false_iff_ne.2 (by omega)
                    have HD : Hid (decide (j4 = s.size) = false) := decide_eq_false hend
                    clear hend
                    go_wp2
                    go_ret2
                    exact ⟨rfl, by rw [HR.out.1, HR.out.2, HD.out]; rfl⟩
                · have HR : Hid (acc (run (chr s) s.size) = false ∧ itg (run (chr s) s.size) = false) := by
                    obtain rfl : k4 = j4 := by have := hsd4.1; omega
                    exact exp_bad (chr s) s.size (j) k4 S HP.out hk he hsg hsd4
                  clear he hsg hsd4
                  go_wp2
                  go_ret2
                  exact ⟨rfl, by rw [HR.out.1, HR.out.2]; rfl⟩
            · have hpi : ¬ (j : Int) < (s.size : Int) := by omega
              clear hpt
              go_wp2_with fail
              refine (skipExponent_int s _ (j) _ (by omega) hs (by omega)).mono ?_
              rintro e w' ⟨rfl, hres⟩
              rcases hres with ⟨hA, rfl⟩ | ⟨hk, he, k4, j4, hsg, hsd4, rfl⟩
              · by_cases hend : j = s.size
                · have HR : Hid (acc (run (chr s) s.size) = true ∧ itg (run (chr s) s.size) = true) := by
                    have h1 := HP.out
                    rw [hend] at h1
                    have h2 := end_here (chr s) s.size S h1
                    exact ⟨h2.1, h2.2.trans (by simpa using HS5.out)⟩
                  have e1 : ((j : Int) == (s.size : Int)) = true := beq_iff_eq.2 (by omega)
                  have e2 : ((j : Int) == (s.size : Int)) = true := beq_iff_eq.2 (by omega)
                  clear hA hend
                  go_wp2
                  go_ret2
                  exact ⟨rfl, by rw [HR.out.1, HR.out.2]; rfl⟩
                · have hk : j < s.size := by omega
                  have HR : Hid (acc (run (chr s) s.size) = false ∧ itg (run (chr s) s.size) = false) := by
                    rcases hA with h | ⟨h1, h2⟩
                    · exact absurd h hend
                    · exact end_junk (chr s) s.size (j) S HP.out hk h1 h2
                  have e1 : ((j : Int) == (s.size : Int)) = false := beq_eq_false_iff_ne.2 (by omega)
                  have e2 : ((j : Int) == (s.size : Int)) = false := beq_eq_false_iff_ne.2 (by omega)
                  clear hA hend
                  go_wp2
                  go_ret2
                  exact ⟨rfl, by rw [HR.out.1, HR.out.2]; rfl⟩
              · have e2 : ((j : Int) == (s.size : Int)) = false := beq_eq_false_iff_ne.2 (by omega)
                by_cases hok : k4 < j4
                · have HR : Hid (acc (run (chr s) s.size) = decide (j4 = s.size) ∧ itg (run (chr s) s.size) = false) := exp_good (chr s) s.size (j) k4 j4 S HP.out hk he hsg hsd4 hok
                  clear he hsg hsd4
                  by_cases hend : j4 = s.size
                  · have e1 : ((j4 : Int) == (s.size : Int)) = true := beq_iff_eq.2 (by omega)
                    have HD : Hid (decide (j4 = s.size) = true) := decide_eq_true hend
                    clear hend
                    go_wp2
                    go_ret2
                    exact ⟨rfl, by rw [HR.out.1, HR.out.2, HD.out]; rfl⟩
                  · have e1 : ((j4 : Int) == (s.size : Int)) = false := beq_eq_false_iff_ne.2 (by omega)
                    have HD : Hid (decide (j4 = s.size) = false) := decide_eq_false hend
                    clear hend
                    go_wp2
                    go_ret2
                    exact ⟨rfl, by rw [HR.out.1, HR.out.2, HD.out]; rfl⟩
                · have HR : Hid (acc (run (chr s) s.size) = false ∧ itg (run (chr s) s.size) = false) := by
                    obtain rfl : k4 = j4 := by have := hsd4.1; omega
                    exact exp_bad (chr s) s.size (j) k4 S HP.out hk he hsg hsd4
                  clear he hsg hsd4
                  go_wp2
                  go_ret2
                  exact ⟨rfl, by rw [HR.out.1, HR.out.2]; rfl⟩
        · have HR : Hid (acc (run (chr s) s.size) = false ∧ itg (run (chr s) s.size) = false) := bad_start (chr s) s.size 0 HS0.out (by omega) (fun _ => ⟨h48, by omega⟩)
          clear h48
          go_enter Try.func20, Try.ntmps20
          go_wp2
          go_ret2
          exact ⟨rfl, by rw [HR.out.1, HR.out.2]; rfl⟩
      · have HR : Hid (acc (run (chr s) s.size) = false ∧ itg (run (chr s) s.size) = false) := bad_start (chr s) s.size 0 HS0.out (by omega) (fun _ => ⟨h48, by omega⟩)
        clear h48
        go_enter Try.func20, Try.ntmps20
        go_wp2
        go_ret2
        exact ⟨rfl, by rw [HR.out.1, HR.out.2]; rfl⟩
  · have hi0 : ¬ (0 : Int) < (s.size : Int) := by omega
    have HR : Hid (acc (run (chr s) s.size) = false ∧ itg (run (chr s) s.size) = false) := bad_start (chr s) s.size 0 HS0.out (by omega) (fun h => absurd h hl0)
    go_enter Try.func20, Try.ntmps20
    go_wp2
    go_ret2
    exact ⟨rfl, by rw [HR.out.1, HR.out.2]; rfl⟩
end Go.Proofs.Qxb6602602a.Json
