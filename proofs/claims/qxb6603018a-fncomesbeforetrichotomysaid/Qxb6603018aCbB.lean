/-
  THE CONTRACTS OF sameKinds, sameBytes, samePath.
-/
import Derived.Test.Qxb6603018aCbA
namespace Go.Proofs.Qxb6603018a.Cb
open Go.RowKit

/-- The byte at i, as a number. -/
def chr (s : ByteArray) (i : Nat) : Int := if h : i < s.size then (s[i].toNat : Int) else 0

theorem idx (s : ByteArray) (k : Nat) (h : k < s.size) (i : Int) (hi : i = (k : Int)) (w : World) : (Instr.index 9 (.string s) (.int .i64 i)).run Try.prog w = .ok (.int .u8 (chr s k)) w := by
  subst hi
  rw [run_index_string w 9 s .i64 k Try.underlying9]
  unfold chr
  simp [h]

theorem ba_of_toList {x y : ByteArray} (h : x.toList = y.toList) : x = y := by
  rw [ByteArray.toList_eq, ByteArray.toList_eq] at h
  cases x; cases y
  congr
  exact Array.toList_inj.1 h
theorem same_of (x y : ByteArray) (hs : x.size = y.size) (h : ∀ t, t < x.size → chr x t = chr y t) : x.toList = y.toList := by
  rw [ByteArray.toList_eq, ByteArray.toList_eq]
  refine List.ext_getElem hs ?_
  intro t h1 h2
  have h1' : t < x.size := h1
  have h2' : t < y.size := h2
  have := h t h1'
  unfold chr at this
  rw [dif_pos h1', dif_pos h2'] at this
  have e : (x[t]).toNat = (y[t]).toNat := by omega
  exact UInt8.toNat_inj.1 e
theorem size_of_toList {x y : ByteArray} (h : x.toList = y.toList) : x.size = y.size := by rw [ba_of_toList h]

set_option maxHeartbeats 1000000 in
theorem sameBytes_any (x y : ByteArray) (w : World) (hx : x.size ≤ 1048576) :
    Calls Try.prog 14 #[.string x, .string y] w fun e w' => e = .returned (.bool (x.toList == y.toList)) ∧ ∃ q, w' = w.drewN q := by
  by_cases hs : x.size = y.size
  case neg =>
    have hb : ((x.size : Int) != (y.size : Int)) = true := by simpa using fun h : (x.size : Int) = (y.size : Int) => hs (by omega)
    have hr : (x.toList == y.toList) = false := beq_eq_false_iff_ne.2 fun h => hs (size_of_toList h)
    rw [hr]
    clear hr
    go_enter Try.func14, Try.ntmps14
    go_wp2
    go_ret
    exact ⟨rfl, 0, rfl⟩
  have hb : ((x.size : Int) != (y.size : Int)) = false := by simp [hs]
  have HS : Hid (x.size = y.size) := hs
  clear hs
  generalize hR : (x.toList == y.toList) = R
  have HR : Hid ((x.toList == y.toList) = R) := hR
  clear hR
  go_enter Try.func14, Try.ntmps14
  go_wp2
  go_loopw [5] (fun i wr => ∃ k : Nat, k ≤ x.size ∧ i = .int .i64 k ∧ QW w wr ∧ ∀ t, t < k → chr x t = chr y t) (fun i _ => x.size - (intOf i).toNat)
  case atStart => exact ⟨0, Nat.zero_le _, rfl, QW.rfl' w, fun t ht => absurd ht (Nat.not_lt_zero _)⟩
  case round =>
    obtain ⟨k, hk, rfl, hq, hall⟩ := hrel
    have HL : Hid (∀ t, t < k → chr x t = chr y t) := hall
    have HQ : Hid (QW w wr) := hq
    clear hall hq
    by_cases hlt : k < x.size
    · have hi : (k : Int) < (x.size : Int) := by omega
      have hx1 := idx x k hlt k rfl
      have hy1 := idx y k (by rw [← HS.out]; exact hlt) k rfl
      by_cases hc : chr x k = chr y k
      · have hcb : (chr x k != chr y k) = false := by simp [hc]
        have HC : Hid (chr x k = chr y k) := hc
        clear hc
        go_wp2
        go_quiet (fail)
        go_wp2
        exact ⟨⟨k + 1, by omega, by go_num, HQ.out.draws _, fun t ht => by
          by_cases e : t = k
          · rw [e]; exact HC.out
          · exact HL.out t (by omega)⟩, by simp only [intOf]; omega⟩
      · have hcb : (chr x k != chr y k) = true := by simpa using hc
        have HC : Hid (¬ chr x k = chr y k) := hc
        clear hc
        go_wp2
        go_quiet (fail)
        go_wp2
        go_ret
        refine ⟨?_, HQ.out.draws _⟩
        rw [← HR.out, beq_eq_false_iff_ne.2 fun h => HC.out (by rw [ba_of_toList h])]
        rfl
    · have hi : ¬ (k : Int) < (x.size : Int) := by omega
      obtain rfl : k = x.size := by omega
      go_wp2
      go_ret
      refine ⟨?_, HQ.out⟩
      rw [← HR.out, beq_iff_eq.2 (same_of x y HS.out HL.out)]
      rfl
end Go.Proofs.Qxb6603018a.Cb
