/-
  REPORTS IN MEMORY; THE CONTRACT OF buildReports.
-/
import Derived.Test.Qxb6600476aValues
import Derived.Test.Qxb6600476aExcessA
import Derived.Outline
import Derived.RegionTactic
import Derived.BigRegion
import Derived.Deep.Light
namespace Go.Proofs.Qxb6600476a.Reports
open Go.RowKit Excess

structure Rep where
  p : Int
  o : Int
  x : Int
  s : Bool
  z : Int

/-- The five cells of a Report. -/
def Cells5 (w : World) (b o : Nat) (r : Rep) : Prop :=
  w.cell? ⟨b, o, none⟩ = some (.int .i64 r.p) ∧ w.cell? ⟨b, o + 1, none⟩ = some (.int .u8 r.o) ∧ w.cell? ⟨b, o + 2, none⟩ = some (.int .i64 r.x) ∧
    w.cell? ⟨b, o + 3, none⟩ = some (.bool r.s) ∧ w.cell? ⟨b, o + 4, none⟩ = some (.int .i64 r.z)

def Reps (w : World) (a : Option Addr) (n : Nat) (g : Nat → Rep) : Prop :=
  0 < n → ∃ b off, a = some ⟨b, off, none⟩ ∧ b < w.heap.size ∧ ∀ i, i < n → Cells5 w b (off + i * 5) (g i)

def built (f : Nat → Int) (i : Nat) : Rep := ⟨(i : Int) + 1, (i : Int) % 7, if i % 3 = 0 then 0 else (i : Int) - 7, decide (i % 3 ≠ 0), f i⟩

theorem built_3 (f : Nat → Int) (k : Nat) (h : k % 3 = 0) : built f k = ⟨(k : Int) + 1, (k : Int) % 7, 0, false, f k⟩ := by simp [built, h]
theorem built_x (f : Nat → Int) (k : Nat) (h : ¬ k % 3 = 0) : built f k = ⟨(k : Int) + 1, (k : Int) % 7, (k : Int) - 7, true, f k⟩ := by simp [built, h]

theorem Cells5.below {w w' : World} {b o : Nat} {r : Rep} (h : Cells5 w b o r) (hb : b < w.heap.size) (hB : Below w.heap.size w w') : Cells5 w' b o r :=
  ⟨(hB.cell (p := ⟨b, o, none⟩) hb).trans h.1, (hB.cell (p := ⟨b, o + 1, none⟩) hb).trans h.2.1, (hB.cell (p := ⟨b, o + 2, none⟩) hb).trans h.2.2.1, (hB.cell (p := ⟨b, o + 3, none⟩) hb).trans h.2.2.2.1, (hB.cell (p := ⟨b, o + 4, none⟩) hb).trans h.2.2.2.2⟩

theorem below3 (w : World) (o1 o2 o3 : Obj) : Below w.heap.size w (((w.alloc o1).alloc o2).alloc o3) :=
  (((Below.refl _ w).alloc (Nat.le_refl _) o1).alloc (by simp) o2).alloc (by simp; omega) o3

theorem Reps.below {w w' : World} {a : Option Addr} {n : Nat} {g : Nat → Rep} (h : Reps w a n g) (hB : Below w.heap.size w w') : Reps w' a n g := by
  intro hn
  obtain ⟨b, off, rfl, hb, hc⟩ := h hn
  exact ⟨b, off, rfl, Nat.lt_of_lt_of_le hb hB.size, fun i hi => (hc i hi).below hb hB⟩

/-- The five cells in the list that a row owns. -/
def Five (xs : List Value) (o : Nat) (r : Rep) : Prop :=
  xs[o]? = some (.int .i64 r.p) ∧ xs[o + 1]? = some (.int .u8 r.o) ∧ xs[o + 2]? = some (.int .i64 r.x) ∧ xs[o + 3]? = some (.bool r.s) ∧ xs[o + 4]? = some (.int .i64 r.z)

def set5 (xs : List Value) (o : Nat) (r : Rep) : List Value :=
  ((((xs.set o (.int .i64 r.p)).set (o + 1) (.int .u8 r.o)).set (o + 2) (.int .i64 r.x)).set (o + 3) (.bool r.s)).set (o + 4) (.int .i64 r.z)

theorem five_set5 (xs : List Value) (o : Nat) (r : Rep) (h : o + 4 < xs.length) : Five (set5 xs o r) o r := by
  refine ⟨?_, ?_, ?_, ?_, ?_⟩ <;> simp [set5, List.getElem?_set] <;> omega

theorem five_other (xs : List Value) (o o' : Nat) (r r' : Rep) (h : o' + 5 ≤ o) (hf : Five xs o' r') : Five (set5 xs o r) o' r' := by
  obtain ⟨h0, h1, h2, h3, h4⟩ := hf
  refine ⟨?_, ?_, ?_, ?_, ?_⟩
  all_goals
    unfold set5
    repeat rw [List.getElem?_set_ne (by omega)]
    assumption

theorem Five.cells {w : World} {base B n cap : Nat} {xs : List Value} (hown : w.ownsRow base 41 5 (.slice (some ⟨B, 0, none⟩) n cap) n xs) {o : Nat} {r : Rep} (h : Five xs o r) (ho : o + 4 < n * 5) : Cells5 w B o r :=
  ⟨(hown.cellAt o (by omega)).trans h.1, (hown.cellAt _ (by omega)).trans h.2.1, (hown.cellAt _ (by omega)).trans h.2.2.1, (hown.cellAt _ (by omega)).trans h.2.2.2.1, (hown.cellAt _ (by omega)).trans h.2.2.2.2⟩

theorem own41 {w : World} {base B n cap : Nat} {xs : List Value} (h : w.ownsRow base 41 5 (.slice (some ⟨B, 0, none⟩) n cap) n xs) : ∃ cur, w.heap[B]? = some (.cells cur 41 (0, 0)) := by
  rcases h.2 with ⟨h', _⟩ | ⟨g', cap', cur, h', _, hg, _⟩
  · simp at h'
  · simp only [Value.slice.injEq, Option.some.injEq, Addr.mk.injEq, and_true, true_and] at h'
    obtain ⟨rfl, _⟩ := h'
    exact ⟨cur, hg⟩

/-- A Report stored into a row of the call's own. -/
theorem stored5 {w wr : World} {B n : Nat} {xs : List Value} (hown : wr.ownsRow B 41 5 (.slice (some ⟨B, 0, none⟩) n n) n xs) (hb : Below B w wr) (o : Nat) (r : Rep) :
    (((((wr.setCell ⟨B, o, none⟩ (.int .i64 r.p)).setCell ⟨B, o + 1, none⟩ (.int .u8 r.o)).setCell ⟨B, o + 2, none⟩ (.int .i64 r.x)).setCell ⟨B, o + 3, none⟩ (.bool r.s)).setCell ⟨B, o + 4, none⟩ (.int .i64 r.z)).ownsRow B 41 5 (.slice (some ⟨B, 0, none⟩) n n) n (set5 xs o r) ∧
      Below B w (((((wr.setCell ⟨B, o, none⟩ (.int .i64 r.p)).setCell ⟨B, o + 1, none⟩ (.int .u8 r.o)).setCell ⟨B, o + 2, none⟩ (.int .i64 r.x)).setCell ⟨B, o + 3, none⟩ (.bool r.s)).setCell ⟨B, o + 4, none⟩ (.int .i64 r.z)) :=
  ⟨(((((hown.stored o _).1.stored (o + 1) _).1.stored (o + 2) _).1.stored (o + 3) _).1.stored (o + 4) _).1,
    ((((hb.setCell (Nat.le_refl _) _).setCell (Nat.le_refl _) _).setCell (Nat.le_refl _) _).setCell (Nat.le_refl _) _).setCell (Nat.le_refl _) _⟩

theorem info41 : (Try.prog.info? 41).map (fun i => (i.zero, i.size, i.bytes)) = some (some (.agg #[.int .i64 0, .int .u8 0, .int .i64 0, .bool false, .int .i64 0]), 5, 40) := by kernel_rfl

theorem buildReports_nil (w : World) : Calls Try.prog 16 #[.slice none 0 0] w fun e w' => e = .returned (.slice none 0 0) ∧ w' = w := by
  have hnil := fun w => Lib.run_eql_slice_nil (P := Try.prog) w 29 3 none 0 0 0 0 Try.underlying29
  go_enter Try.func16, Try.ntmps16
  go_wp2
  go_ret
  exact ⟨rfl, rfl⟩

set_option maxHeartbeats 1000000 in
theorem buildReports_some (x : Addr) (n cap : Nat) (f : Nat → Int) (w : World) (hn : n ≤ 4096) (hA : Ints w (some x) n f) :
    Calls Try.prog 16 #[.slice (some x) n cap] w fun e w' => e = .returned (.slice (some ⟨w.heap.size, 0, none⟩) n n) ∧ Reps w' (some ⟨w.heap.size, 0, none⟩) n (built f) ∧ Below w.heap.size w w' ∧ ∃ cur, w'.heap[w.heap.size]? = some (.cells cur 41 (0, 0)) := by
  obtain ⟨i41, ki, kz0, kz1, kz2⟩ := info_parts info41
  have hnil := fun w => Lib.run_eql_slice_nil (P := Try.prog) w 29 3 (some x) n cap 0 0 Try.underlying29
  go_enter Try.func16, Try.ntmps16
  go_wp2_with (at_make; refine wpList_make_full _ rfl (.tmp 9) (.tmp 9) 31 rfl w.heap.size 41 i41 _ 5 Try.underlying31 ki kz0 kz1 .i64 .i64 _ _ n rfl rfl rfl rfl (by rw [kz2]; omega) (by unfold maxLen; omega) (Nat.le_refl _) ?_; intro w1 hown1 hg1)
  have hb1 : Below w.heap.size w w1 := (Below.refl _ _).grown hg1 (Nat.le_refl _) (fun j hj => by cases hj)
  clear hg1
  go_loopw [4] (fun i wr => ∃ (k : Nat) (xs : List Value), k ≤ n ∧ i = .int .i64 k ∧ wr.ownsRow w.heap.size 41 5 (.slice (some ⟨w.heap.size, 0, none⟩) n n) n xs ∧ (∀ y, y < k → Five xs (y * 5) (built f y)) ∧ Below w.heap.size w wr) (fun i _ => n - (intOf i).toNat)
  case atStart => exact ⟨0, _, Nat.zero_le _, rfl, hown1, fun j hj => absurd hj (Nat.not_lt_zero _), hb1⟩
  case round =>
    obtain ⟨k, xs, hk, rfl, hown, hall, hbr⟩ := hrel
    have HX : Hid (∀ y, y < k → Five xs (y * 5) (built f y)) := hall
    clear hall
    have HO : Hid (wr.ownsRow w.heap.size 41 5 (.slice (some ⟨w.heap.size, 0, none⟩) n n) n xs) := hown
    have HB : Hid (Below w.heap.size w wr) := hbr
    by_cases hlt : k < n
    · obtain ⟨b, off, e0, hb, hc⟩ := hA (by omega)
      obtain rfl : x = ⟨b, off, none⟩ := by simpa using e0
      have hck := (hbr.cell (p := ⟨b, off + k, none⟩) hb).trans (hc k hlt)
      have hi : (k : Int) < (n : Int) := by omega
      have hlx : xs.length = n * 5 := hown.1
      have hbs : b < wr.heap.size := Nat.lt_of_lt_of_le hb hbr.size
      have hBs : w.heap.size < wr.heap.size := (hown.lt w.heap.size rfl).2
      obtain ⟨v0, hv0⟩ : ∃ v, wr.cell? ⟨w.heap.size, k * 5, none⟩ = some v := ⟨xs[k * 5], by rw [hown.cellAt _ (by omega)]; simp⟩
      obtain ⟨v1, hv1⟩ : ∃ v, wr.cell? ⟨w.heap.size, k * 5 + 1, none⟩ = some v := ⟨xs[k * 5 + 1], by rw [hown.cellAt _ (by omega)]; simp⟩
      obtain ⟨v2, hv2⟩ : ∃ v, wr.cell? ⟨w.heap.size, k * 5 + 2, none⟩ = some v := ⟨xs[k * 5 + 2], by rw [hown.cellAt _ (by omega)]; simp⟩
      obtain ⟨v3, hv3⟩ : ∃ v, wr.cell? ⟨w.heap.size, k * 5 + 3, none⟩ = some v := ⟨xs[k * 5 + 3], by rw [hown.cellAt _ (by omega)]; simp⟩
      obtain ⟨v4, hv4⟩ : ∃ v, wr.cell? ⟨w.heap.size, k * 5 + 4, none⟩ = some v := ⟨xs[k * 5 + 4], by rw [hown.cellAt _ (by omega)]; simp⟩
      have hfz0 := hown.frozenAt (k * 5)
      have hfz1 := hown.frozenAt (k * 5 + 1)
      have hfz2 := hown.frozenAt (k * 5 + 2)
      have hfz3 := hown.frozenAt (k * 5 + 3)
      have hfz4 := hown.frozenAt (k * 5 + 4)
      clear hc hA e0 hown hbr hown1 hb1
      have hsize : w.heap.size ≤ wr.heap.size := by omega
      by_cases h3 : k % 3 = 0
      · go_wp2_with (go_at_call 31; refine (Values.zzbottom _).mono ?_; rintro e w' ⟨rfl, c, rfl⟩)
        have S5 := stored5 HO.out HB.out (k * 5) ⟨(k : Int) + 1, (k : Int) % 7, 0, false, f k⟩
        have H5 : Hid (_ ∧ _) := S5
        clear S5
        go_region
        go_wp2
        refine ⟨⟨k + 1, _, by omega, by go_num, ((H5.out.1.alloc _).alloc _).drew, fun y hy => ?_, ((H5.out.2.alloc (by simp; omega) _).alloc (by simp; omega) _).drew⟩, by simp only [intOf]; omega⟩
        by_cases e : y = k
        · subst e
          rw [built_3 f y h3]
          exact five_set5 _ _ _ (by omega)
        · exact five_other _ _ _ _ _ (by omega) (HX.out y (by omega))
      · have hBs1 : w.heap.size < wr.heap.size + 1 := by omega
        have hBs2 : w.heap.size < wr.heap.size + 2 := by omega
        have hBs3 : w.heap.size < wr.heap.size + 1 + 1 := by omega
        have hbs1 : b < wr.heap.size + 1 := by omega
        have hbs2 : b < wr.heap.size + 2 := by omega
        have hbs3 : b < wr.heap.size + 1 + 1 := by omega
        go_wp2_with (first | (go_at_call 31; refine (Values.zzbottom _).mono ?_; rintro e w' ⟨rfl, c, rfl⟩) | (go_at_call 30; refine (Values.zzint _ _).mono ?_; rintro e w' ⟨rfl, c2, rfl⟩))
        have S5 := stored5 HO.out HB.out (k * 5) ⟨(k : Int) + 1, (k : Int) % 7, (k : Int) - 7, true, f k⟩
        have H5 : Hid (_ ∧ _) := S5
        clear S5
        go_region
        go_wp2
        refine ⟨⟨k + 1, _, by omega, by go_num, (((H5.out.1.alloc _).alloc _).alloc _).drew, fun y hy => ?_, (((H5.out.2.alloc (by simp; omega) _).alloc (by simp; omega) _).alloc (by simp; omega) _).drew⟩, by simp only [intOf]; omega⟩
        by_cases e : y = k
        · subst e
          rw [built_x f y h3]
          exact five_set5 _ _ _ (by omega)
        · exact five_other _ _ _ _ _ (by omega) (HX.out y (by omega))
    · have hi : ¬ (k : Int) < (n : Int) := by omega
      obtain rfl : k = n := by omega
      go_wp2
      go_ret
      exact ⟨rfl, fun _ => ⟨_, _, rfl, (hown.lt w.heap.size rfl).2, fun i hi => by rw [Nat.zero_add]; exact (HX.out i hi).cells hown (by omega)⟩, hbr, own41 hown⟩

end Go.Proofs.Qxb6600476a.Reports
