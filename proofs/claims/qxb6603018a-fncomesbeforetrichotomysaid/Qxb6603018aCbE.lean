/-
  THE CONTRACTS OF ZZMakeStep, toSteps.
-/
import Derived.Test.Qxb6603018aCbA
import Derived.RegionTactic
import Derived.BigRegion
import Derived.Deep.RegionHeld3
namespace Go.Proofs.Qxb6603018a.Cb
open Go.RowKit

/-- Four cells in the list that a row owns. -/
def Four (xs : List Value) (o : Nat) (r : Stp) : Prop :=
  xs[o]? = some (.string r.nm) ∧ xs[o + 1]? = some (.int .i64 r.ix) ∧ xs[o + 2]? = some (.bool r.it) ∧ xs[o + 3]? = some (.bool r.ky)
def set4 (xs : List Value) (o : Nat) (r : Stp) : List Value :=
  (((xs.set o (.string r.nm)).set (o + 1) (.int .i64 r.ix)).set (o + 2) (.bool r.it)).set (o + 3) (.bool r.ky)
theorem four_set4 (xs : List Value) (o : Nat) (r : Stp) (h : o + 3 < xs.length) : Four (set4 xs o r) o r := by
  refine ⟨?_, ?_, ?_, ?_⟩ <;> simp [set4, List.getElem?_set] <;> omega
theorem four_other (xs : List Value) (o o' : Nat) (r r' : Stp) (h : o' + 4 ≤ o) (hf : Four xs o' r') : Four (set4 xs o r) o' r' := by
  obtain ⟨h0, h1, h2, h3⟩ := hf
  refine ⟨?_, ?_, ?_, ?_⟩
  all_goals
    unfold set4
    repeat rw [List.getElem?_set_ne (by omega)]
    assumption
theorem Four.cells {w : World} {base B n cap : Nat} {xs : List Value} (hown : w.ownsRow base 32 4 (.slice (some ⟨B, 0, none⟩) n cap) n xs) {o : Nat} {r : Stp} (h : Four xs o r) (ho : o + 3 < n * 4) : Cells4 w B o r :=
  ⟨(hown.cellAt o (by omega)).trans h.1, (hown.cellAt _ (by omega)).trans h.2.1, (hown.cellAt _ (by omega)).trans h.2.2.1, (hown.cellAt _ (by omega)).trans h.2.2.2⟩

/-- A step stored into a row of the call's own. -/
theorem stored4 {w wr : World} {B n : Nat} {xs : List Value} (hown : wr.ownsRow B 32 4 (.slice (some ⟨B, 0, none⟩) n n) n xs) (hb : Below B w wr) (o : Nat) (r : Stp) :
    ((((wr.setCell ⟨B, o, none⟩ (.string r.nm)).setCell ⟨B, o + 1, none⟩ (.int .i64 r.ix)).setCell ⟨B, o + 2, none⟩ (.bool r.it)).setCell ⟨B, o + 3, none⟩ (.bool r.ky)).ownsRow B 32 4 (.slice (some ⟨B, 0, none⟩) n n) n (set4 xs o r) ∧
      Below B w ((((wr.setCell ⟨B, o, none⟩ (.string r.nm)).setCell ⟨B, o + 1, none⟩ (.int .i64 r.ix)).setCell ⟨B, o + 2, none⟩ (.bool r.it)).setCell ⟨B, o + 3, none⟩ (.bool r.ky)) :=
  ⟨((((hown.stored o _).1.stored (o + 1) _).1.stored (o + 2) _).1.stored (o + 3) _).1,
    (((hb.setCell (Nat.le_refl _) _).setCell (Nat.le_refl _) _).setCell (Nat.le_refl _) _).setCell (Nat.le_refl _) _⟩

theorem info32 : (Try.prog.info? 32).map (fun i => (i.zero, i.size, i.bytes)) = some (some (.agg #[.string ⟨#[]⟩, .int .i64 0, .bool false, .bool false]), 4, 32) := by kernel_rfl

theorem mkstep (nm : ByteArray) (ix : Int) (it ky : Bool) (w : World) :
    Calls Try.prog 12 #[.string nm, .int .i64 ix, .bool it, .bool ky] w fun e w' => e = .returned (.agg #[.string nm, .int .i64 ix, .bool it, .bool ky]) ∧ ∃ c : Array Value, w' = w.alloc (.cells c 32) := by
  go_enter Try.func12, Try.ntmps12
  go_wp2
  simp [bodyPost, results, Try.results12, go_sem]
  exact ⟨_, rfl⟩

theorem toSteps_nil (w : World) : Calls Try.prog 8 #[.slice none 0 0] w fun e w' => e = .returned (.slice none 0 0) ∧ w' = w := by
  have hnil := fun w => Lib.run_eql_slice_nil (P := Try.prog) w 22 30 none 0 0 0 0 Try.underlying22
  go_enter Try.func8, Try.ntmps8
  go_wp2
  go_ret
  exact ⟨rfl, rfl⟩

set_option maxRecDepth 100000 in
set_option maxHeartbeats 2000000 in
theorem toSteps_some (x : Addr) (n cap : Nat) (A : Nat → Stp) (w : World) (hn : n ≤ 1048576) (hA : Steps w (some x) n A) :
    Calls Try.prog 8 #[.slice (some x) n cap] w fun e w' => e = .returned (.slice (some ⟨w.heap.size, 0, none⟩) n n) ∧ Steps w' (some ⟨w.heap.size, 0, none⟩) n A ∧ Below w.heap.size w w' := by
  obtain ⟨i32, ki, kz0, kz1, kz2⟩ := info_parts info32
  have hnil := fun w => Lib.run_eql_slice_nil (P := Try.prog) w 22 30 (some x) n cap 0 0 Try.underlying22
  go_enter Try.func8, Try.ntmps8
  go_wp2_with (at_make; refine wpList_make_full _ rfl (.tmp 8) (.tmp 8) 25 rfl w.heap.size 32 i32 _ 4 Try.underlying25 ki kz0 kz1 .i64 .i64 _ _ n rfl rfl rfl rfl (by rw [kz2]; omega) (by unfold maxLen; omega) (Nat.le_refl _) ?_; intro w1 hown1 hg1)
  have hb1 : Below w.heap.size w w1 := (Below.refl _ _).grown hg1 (Nat.le_refl _) (fun j hj => by cases hj)
  clear hg1
  go_loopw [4] (fun i wr => ∃ (k : Nat) (xs : List Value), k ≤ n ∧ i = .int .i64 k ∧ wr.ownsRow w.heap.size 32 4 (.slice (some ⟨w.heap.size, 0, none⟩) n n) n xs ∧ (∀ y, y < k → Four xs (y * 4) (A y)) ∧ Below w.heap.size w wr) (fun i _ => n - (intOf i).toNat)
  case atStart => exact ⟨0, _, Nat.zero_le _, rfl, hown1, fun j hj => absurd hj (Nat.not_lt_zero _), hb1⟩
  case round =>
    obtain ⟨k, xs, hk, rfl, hown, hall, hbr⟩ := hrel
    have HX : Hid (∀ y, y < k → Four xs (y * 4) (A y)) := hall
    clear hall
    have HO : Hid (wr.ownsRow w.heap.size 32 4 (.slice (some ⟨w.heap.size, 0, none⟩) n n) n xs) := hown
    have HB : Hid (Below w.heap.size w wr) := hbr
    by_cases hlt : k < n
    · obtain ⟨b, off, e0, hb, hc⟩ := hA (by omega)
      obtain rfl : x = ⟨b, off, none⟩ := by simpa using e0
      obtain ⟨x0, x1, x2, x3⟩ := (hc k hlt).below hb hbr
      have HC : Hid (Cells4 w b (off + k * 4) ⟨(A k).nm, (A k).ix, (A k).it, (A k).ky⟩) := hc k hlt
      have hi : (k : Int) < (n : Int) := by omega
      have hlx : xs.length = n * 4 := hown.1
      have hbs : b < wr.heap.size := Nat.lt_of_lt_of_le hb hbr.size
      have hBs : w.heap.size < wr.heap.size := (hown.lt w.heap.size rfl).2
      obtain ⟨v0, hv0⟩ : ∃ v, wr.cell? ⟨w.heap.size, k * 4, none⟩ = some v := ⟨xs[k * 4], by rw [hown.cellAt _ (by omega)]; simp⟩
      obtain ⟨v1, hv1⟩ : ∃ v, wr.cell? ⟨w.heap.size, k * 4 + 1, none⟩ = some v := ⟨xs[k * 4 + 1], by rw [hown.cellAt _ (by omega)]; simp⟩
      obtain ⟨v2, hv2⟩ : ∃ v, wr.cell? ⟨w.heap.size, k * 4 + 2, none⟩ = some v := ⟨xs[k * 4 + 2], by rw [hown.cellAt _ (by omega)]; simp⟩
      obtain ⟨v3, hv3⟩ : ∃ v, wr.cell? ⟨w.heap.size, k * 4 + 3, none⟩ = some v := ⟨xs[k * 4 + 3], by rw [hown.cellAt _ (by omega)]; simp⟩
      have hfz0 := hown.frozenAt (k * 4)
      have hfz1 := hown.frozenAt (k * 4 + 1)
      have hfz2 := hown.frozenAt (k * 4 + 2)
      have hfz3 := hown.frozenAt (k * 4 + 3)
      have HAK : Hid (A k = ⟨(A k).nm, (A k).ix, (A k).it, (A k).ky⟩) := (rfl : A k = ⟨(A k).nm, (A k).ix, (A k).it, (A k).ky⟩)
      clear hc hA e0 hown hbr hown1 hb1
      generalize (A k).nm = N at *
      generalize (A k).ix = I at *
      generalize (A k).it = X at *
      generalize (A k).ky = K at *
      have hsize : w.heap.size ≤ wr.heap.size := by omega
      have hBs1 : w.heap.size < wr.heap.size + 1 := by omega
      have hbs1 : b < wr.heap.size + 1 := by omega
      have H4 : Hid (_ ∧ _) := stored4 HO.out HB.out (k * 4) ⟨N, I, X, K⟩
      go_wp2
      go_region_held3 (fun w' => w'.cell? ⟨b, off + k * 4, none⟩ = some (.string N) ∧ w'.cell? ⟨b, off + k * 4 + 1, none⟩ = some (.int .i64 I) ∧ w'.cell? ⟨b, off + k * 4 + 2, none⟩ = some (.bool X) ∧ w'.cell? ⟨b, off + k * 4 + 3, none⟩ = some (.bool K)) (first | exact HC.out.below hb ((H4.out.2.alloc (by simp; omega) _).drew) | go_keep)
        (first
          | (go_at_call 12; refine (mkstep _ _ _ _ _).mono ?_; rintro e w' ⟨rfl, c, rfl⟩))
      go_wp2
      refine ⟨⟨k + 1, _, by omega, by go_num, (H4.out.1.alloc _).drew, fun y hy => ?_, (H4.out.2.alloc (by simp; omega) _).drew⟩, by simp only [intOf]; omega⟩
      by_cases e : y = k
      · subst e
        rw [HAK.out]
        exact four_set4 _ _ _ (by omega)
      · exact four_other _ _ _ _ _ (by omega) (HX.out y (by omega))
    · have hi : ¬ (k : Int) < (n : Int) := by omega
      obtain rfl : k = n := by omega
      go_wp2
      go_ret
      exact ⟨rfl, fun _ => ⟨_, _, rfl, (hown.lt w.heap.size rfl).2, fun i hi => by rw [Nat.zero_add]; exact (HX.out i hi).cells hown (by omega)⟩, hbr⟩
end Go.Proofs.Qxb6603018a.Cb
