/-
  THE CONTRACT OF renumber.
-/
import Derived.Test.Qxb6600476aClone
import Derived.Test.Qxb6600476aRenPlain
import Derived.Test.Qxb6600476aShelf
import Derived.Sort.OwnSortedInts
import Derived.Lib.RowBridge
import Derived.Deep.QuietTactic
import Derived.BigQuiet
namespace Go.Proofs.Qxb6600476a.Reports
open Go.RowKit Excess Ren

theorem info3 : (Try.prog.info? 3).map (fun i => (i.zero, i.size, i.bytes)) = some (some (.int .i64 0), 1, 8) := by kernel_rfl

/-- What becomes of a report. -/
def renum (nn : Int) (bs : List Int) (r : Rep) : Rep := { r with z := if nn < r.z then nn + 1 + (place bs r.z : Int) else r.z }

theorem cell_one {w : World} {o : Obj} {x : Int} : ∀ j u, [Value.int .i64 x][j]? = some u → ((w.alloc o).alloc (.cells #[.int .i64 x] 3)).cell? ((⟨w.heap.size + 1, 0, none⟩ : Addr).add j) = some u := by
  intro j u hj
  match j, hj with
  | 0, hj => simp at hj; subst hj; simp [Addr.add]
  | (j + 1), hj => simp at hj

theorem own_block {w : World} {base gb n cp : Nat} {zs : List Int} (h : w.ownsRow base 3 1 (.slice (some ⟨gb, 0, none⟩) n cp) n (zs.map (Value.int .i64))) :
    ∃ cur, base ≤ gb ∧ w.heap[gb]? = some (.cells cur 3 (0, 0)) ∧ n ≤ cp ∧ cp ≤ maxLen ∧ cur.size = cp * 1 ∧ cur.toList.take (n * 1) = zs.map (Value.int .i64) := by
  rcases h.2 with ⟨h', _⟩ | ⟨g', cap', cur, h', hb, hg, h1, h2, h3, h4⟩
  · simp at h'
  · simp only [Value.slice.injEq, Option.some.injEq, Addr.mk.injEq, and_true, true_and] at h'
    obtain ⟨rfl, rfl⟩ := h'
    exact ⟨cur, hb, hg, h1, h2, h3, h4⟩

/-- slices.Sort over a row of the call's own. -/
theorem sort_own (base gb cp : Nat) (zs : List Int) (w : World) (hown : w.ownsRow base 3 1 (.slice (some ⟨gb, 0, none⟩) zs.length cp) zs.length (zs.map (Value.int .i64))) (hlen : zs.length ≤ 4096) :
    Calls Try.prog 34 #[.slice (some ⟨gb, 0, none⟩) zs.length cp] w fun e w' => e = .returned (.tuple #[]) ∧
      w'.ownsRow base 3 1 (.slice (some ⟨gb, 0, none⟩) zs.length cp) zs.length ((zs.mergeSort fun x y => decide (x ≤ y)).map (Value.int .i64)) ∧ w.grownBy w' (some gb) := by
  obtain ⟨cur, hb, hg, h1, h2, h3, h4⟩ := own_block hown
  refine (Try.slices_Sort_int gb 0 cp zs w (holds_of_blockI hg (by simpa using h4)) (Array.getElem?_eq_some_iff.1 hg).1 (by omega)).mono ?_
  rintro e w' ⟨rfl, q, os, rfl⟩
  exact ⟨rfl, ownsRow_sortedI (by simp) hb hg h1 h2 h3, grownBy_sortedI _⟩

/-- slices.Compact over a row of the call's own. -/
theorem compact_own (base gb cp : Nat) (zs : List Int) (w : World) (hown : w.ownsRow base 3 1 (.slice (some ⟨gb, 0, none⟩) zs.length cp) zs.length (zs.map (Value.int .i64))) (hlen : zs.length ≤ 4096) :
    Calls Try.prog 35 #[.slice (some ⟨gb, 0, none⟩) zs.length cp] w fun e w' => e = .returned (.slice (some ⟨gb, 0, none⟩) (Lib.compact zs).length cp) ∧
      (∀ j, j < (Lib.compact zs).length → w'.cell? ⟨gb, j, none⟩ = some (.int .i64 ((Lib.compact zs).getD j 0))) ∧ gb < w'.heap.size ∧ w.grownBy w' (some gb) := by
  obtain ⟨cur, hb, hg, h1, h2, h3, h4⟩ := own_block hown
  refine (Try.slices_Compact_int gb 0 cp zs w (holds_of_blockI hg (by simpa using h4)) (by omega) h1).mono ?_
  rintro e w' ⟨rfl, q, rfl⟩
  have hle : (Lib.compact zs).length ≤ zs.length := Lib.compact_length_le zs
  have hown' := ownsRow_sortedI (n := q) (os := #[]) (ts := Lib.compact zs ++ List.replicate (zs.length - (Lib.compact zs).length) 0) (ss := zs) (by simp; omega) hb hg h1 h2 h3
  have hgr := grownBy_sortedI (w := w) (g := gb) (n := q) (os := #[]) (Lib.compact zs ++ List.replicate (zs.length - (Lib.compact zs).length) 0).toArray
  rw [Sort.grow_empty] at hown' hgr
  refine ⟨rfl, fun j hj => ?_, ?_, hgr⟩
  · rw [hown'.cellAt j (by omega)]
    simp [List.getElem?_append, hj]
  · have := (Array.getElem?_eq_some_iff.1 hg).1
    have h5 := hgr.size
    omega

theorem compact_bs (nn : Int) (f : Nat → Int) (k base gb cp : Nat) (w : World) (hk : k ≤ 4096)
    (hown : w.ownsRow base 3 1 (.slice (some ⟨gb, 0, none⟩) (abv nn f k).length cp) (abv nn f k).length (((abv nn f k).mergeSort fun x y => decide (x ≤ y)).map (Value.int .i64))) :
    Calls Try.prog 35 #[.slice (some ⟨gb, 0, none⟩) (abv nn f k).length cp] w fun e w' => e = .returned (.slice (some ⟨gb, 0, none⟩) (bsOf nn f k).length cp) ∧
      (∀ j, j < (bsOf nn f k).length → w'.cell? ⟨gb, j, none⟩ = some (.int .i64 ((bsOf nn f k).getD j 0))) ∧ gb < w'.heap.size ∧ w.grownBy w' (some gb) := by
  have hl : ((abv nn f k).mergeSort fun x y => decide (x ≤ y)).length = (abv nn f k).length := List.length_mergeSort _
  have h := compact_own base gb cp ((abv nn f k).mergeSort fun x y => decide (x ≤ y)) w (by rw [hl]; exact hown) (by rw [hl]; have := abv_len nn f k; omega)
  rw [hl] at h
  exact h

theorem bs_len (nn : Int) (f : Nat → Int) (k : Nat) : (bsOf nn f k).length ≤ k := by
  have h1 : (bsOf nn f k).length ≤ ((abv nn f k).mergeSort fun x y => decide (x ≤ y)).length := Lib.compact_length_le _
  rw [List.length_mergeSort] at h1
  have := abv_len nn f k
  omega

/-- A report's number stored anew, in the list that a row owns. -/
def setZ (xs : List Value) (o : Nat) (z : Int) : List Value := xs.set (o + 4) (.int .i64 z)
theorem five_setZ (xs : List Value) (o : Nat) (r : Rep) (z : Int) (hf : Five xs o r) : Five (setZ xs o z) o { r with z := z } := by
  obtain ⟨h0, h1, h2, h3, h4⟩ := hf
  have hl : o + 4 < xs.length := (List.getElem?_eq_some_iff.1 h4).1
  refine ⟨?_, ?_, ?_, ?_, ?_⟩
  · unfold setZ; rw [List.getElem?_set_ne (by omega)]; exact h0
  · unfold setZ; rw [List.getElem?_set_ne (by omega)]; exact h1
  · unfold setZ; rw [List.getElem?_set_ne (by omega)]; exact h2
  · unfold setZ; rw [List.getElem?_set_ne (by omega)]; exact h3
  · unfold setZ; simp [hl]
theorem five_setZ_other (xs : List Value) (o o' : Nat) (r : Rep) (z : Int) (hne : o' + 5 ≤ o ∨ o + 5 ≤ o') (hf : Five xs o' r) : Five (setZ xs o z) o' r := by
  obtain ⟨h0, h1, h2, h3, h4⟩ := hf
  refine ⟨?_, ?_, ?_, ?_, ?_⟩
  all_goals
    unfold setZ
    rw [List.getElem?_set_ne (by omega)]
    assumption

theorem renum_yes (nn : Int) (bs : List Int) (r : Rep) (h : nn < r.z) : renum nn bs r = { r with z := nn + 1 + (place bs r.z : Int) } := by simp [renum, h]
theorem renum_no (nn : Int) (bs : List Int) (r : Rep) (h : ¬ nn < r.z) : renum nn bs r = r := by simp [renum, h]

/-- slices.BinarySearch in a strictly increasing row. -/
theorem bsearch_own (bb bc : Nat) (bs : List Int) (x : Int) (w : World) (hlen : bs.length ≤ 4096) (hs : bs.Pairwise (· < ·)) (hc : ∀ j, j < bs.length → w.cell? ⟨bb, j, none⟩ = some (.int .i64 (bs.getD j 0))) :
    Calls Try.prog 37 #[.slice (some ⟨bb, 0, none⟩) bs.length bc, .int .i64 x] w fun e w' => e = .returned (.tuple #[.int .i64 (place bs x : Int), .bool (bs.contains x)]) ∧ ∃ q, w' = w.drewN q := by
  have hle : (bs.take bs.length).Pairwise (· ≤ ·) := by
    rw [List.take_length, List.pairwise_iff_getElem]
    intro i j hi hj hij
    have := List.pairwise_iff_getElem.1 hs i j hi hj hij
    omega
  have h := Try.slices_BinarySearch_int bb 0 bs.length bc bs x w (Nat.le_refl _) (by omega) (fun j hj => by rw [Nat.zero_add]; exact hc j hj) hle
  rw [List.take_length] at h
  exact h

/-- Where some number lies above nn: the list of them, and the reports with their places. -/
def RenRes (w w' : World) (e : Ending) (n : Nat) (g : Nat → Rep) (nn : Int) (bs : List Int) : Prop :=
  bs ≠ [] ∧ ∃ bb bc ob oc, e = .returned (.tuple #[.slice (some ⟨bb, 0, none⟩) bs.length bc, .slice (some ⟨ob, 0, none⟩) n oc]) ∧ w.heap.size ≤ ob ∧ bb < w'.heap.size ∧ ob < w'.heap.size ∧
    (∀ j, j < bs.length → w'.cell? ⟨bb, j, none⟩ = some (.int .i64 (bs.getD j 0))) ∧ (∀ i, i < n → Cells5 w' ob (i * 5) (renum nn bs (g i))) ∧ ∃ cur, w'.heap[ob]? = some (.cells cur 41 (0, 0))
theorem RenRes.mk {w w' : World} {e : Ending} {n : Nat} {g : Nat → Rep} {nn : Int} {bs : List Int} (h : bs ≠ []) (bb bc ob oc : Nat) (he : e = .returned (.tuple #[.slice (some ⟨bb, 0, none⟩) bs.length bc, .slice (some ⟨ob, 0, none⟩) n oc]))
    (h1 : w.heap.size ≤ ob) (h2 : bb < w'.heap.size) (h3 : ob < w'.heap.size) (h4 : ∀ j, j < bs.length → w'.cell? ⟨bb, j, none⟩ = some (.int .i64 (bs.getD j 0))) (h5 : ∀ i, i < n → Cells5 w' ob (i * 5) (renum nn bs (g i))) (h6 : ∃ cur, w'.heap[ob]? = some (.cells cur 41 (0, 0))) : RenRes w w' e n g nn bs :=
  ⟨h, bb, bc, ob, oc, he, h1, h2, h3, h4, h5, h6⟩

set_option maxHeartbeats 2000000 in
theorem renumber_any (a : Option Addr) (n cap : Nat) (g : Nat → Rep) (nn : Int) (w : World) (hn : n ≤ 4096) (hA : Reps w a n g) (hn0 : -9223372036854775808 ≤ nn) (hn1 : nn ≤ 9223372036854775807) (hz : ∀ i, i < n → (g i).z ≤ 9223372036854775807) :
    Calls Try.prog 32 #[.slice a n cap, .int .i64 nn] w fun e w' => Below w.heap.size w w' ∧
      (((∀ i, i < n → (g i).z ≤ nn) ∧ e = .returned (.tuple #[.slice none 0 0, .slice a n cap])) ∨ RenRes w w' e n g nn (bsOf nn (fun i => (g i).z) n)) := by
  obtain ⟨i3, ki, kz0, kz1, kz2⟩ := info_parts info3
  have HZ : Hid (∀ i, i < n → (g i).z ≤ 9223372036854775807) := hz
  have HA : Hid (Reps w a n g) := hA
  clear hz hA
  generalize hf : (fun i => (g i).z) = f
  have hfi : ∀ i, (g i).z = f i := fun i => by rw [← hf]
  have HFI : Hid (∀ i, (g i).z = f i) := hfi
  clear hf hfi
  go_enter Try.func32, Try.ntmps32
  go_wp2
  go_loopw [6, 16] (fun v i wr => ∃ (k : Nat), k ≤ n ∧ i = .int .i64 k ∧ wr.ownsRow w.heap.size 3 1 v (abv nn f k).length ((abv nn f k).map (Value.int .i64)) ∧ (abv nn f k = [] → v = .slice none 0 0) ∧ Below w.heap.size w wr) (fun _ i _ => n - (intOf i).toNat)
  case atStart => exact ⟨0, Nat.zero_le _, rfl, World.ownsRow_nil _ _ _ _, fun _ => rfl, Below.refl _ _⟩
  case round =>
    obtain ⟨k, hk, rfl, hown, hnl, hbr⟩ := hrel
    have HO : Hid (wr.ownsRow w.heap.size 3 1 u6 (abv nn f k).length ((abv nn f k).map (Value.int .i64))) := hown
    have HB : Hid (Below w.heap.size w wr) := hbr
    have HNL : Hid (abv nn f k = [] → u6 = .slice none 0 0) := hnl
    clear hown hnl hbr
    by_cases hlt : k < n
    · obtain ⟨b, off, rfl, hb, hc⟩ := HA.out (by omega)
      obtain ⟨h0, h1, h2, h3, h4⟩ := (hc k hlt).below hb HB.out
      have hi : (k : Int) < (n : Int) := by omega
      rw [HFI.out] at h4
      clear hc
      by_cases hgt : nn < f k
      · go_wp2_with (at_builtin; refine wpList_append_own _ rfl (.tmp 24) (.tmp 27) 29 rfl w.heap.size 3 i3 (.int .i64 0) 1 8 Try.underlying29 ki kz0 kz1 kz2 rfl (by decide) _ _ _ rfl ((HO.out.alloc _).alloc _) ⟨wr.heap.size + 1, 0, none⟩ 1 1 [.int .i64 (f k)] rfl rfl cell_one (by simp [Value.oneCell']) (by have := abv_len nn f k; unfold maxLen; omega) (by have := abv_len nn f k; omega) (by have := HB.out.size; simp; omega) ?_)
        intro v' w1 hown' hg' hne
        have HO1 : Hid (w1.ownsRow w.heap.size 3 1 v' (abv nn f (k + 1)).length ((abv nn f (k + 1)).map (Value.int .i64))) := by
          rw [abv_succ_yes nn f k hgt]; simp only [List.length_append, List.length_cons, List.length_nil, List.map_append, List.map_cons, List.map_nil]; exact hown'
        have HB1 : Hid (Below w.heap.size w w1) := ((HB.out.alloc HB.out.size _).alloc (by have := HB.out.size; simp; omega) _).grown hg' (by have := HB.out.size; simp; omega) (fun j hj => (HO.out.lt j hj).1)
        have HN1 : Hid (abv nn f (k + 1) ≠ []) := by rw [abv_succ_yes nn f k hgt]; simp [Hid]
        clear hown' hg' hne h0 h1 h2 h3 h4
        go_wp2
        go_roundw
        case rel => exact ⟨k + 1, by omega, by go_num, HO1.out, fun h => absurd h HN1.out, HB1.out⟩
        case measure => simp [intOf]; omega
      · go_wp2
        go_roundw
        case rel => exact ⟨k + 1, by omega, by go_num, by rw [abv_succ_no nn f k hgt]; exact HO.out.alloc _, by rw [abv_succ_no nn f k hgt]; exact HNL.out, HB.out.alloc HB.out.size _⟩
        case measure => simp [intOf]; omega
    · have hi : ¬ (k : Int) < (n : Int) := by omega
      obtain rfl : k = n := by omega
      by_cases hemp : abv nn f k = []
      · have hu := HNL.out hemp
        subst hu
        have hnil := fun w => Lib.run_eql_slice_nil (P := Try.prog) w 29 3 none 0 0 0 0 Try.underlying29
        have HE : Hid (∀ i, i < k → (g i).z ≤ nn) := fun i hik => by
          have h1 := (mem_abv nn f k (f i)).2
          rw [hemp] at h1
          rw [HFI.out]
          by_cases hlt : nn < f i
          · exact absurd (h1 ⟨hlt, i, hik, rfl⟩) (by simp)
          · omega
        clear hemp
        go_wp2
        go_ret2
        exact ⟨HB.out, .inl ⟨HE.out, rfl⟩⟩
      · have hu : u6 ≠ .slice none 0 0 := fun h => by
          rcases HO.out.2 with ⟨_, h0⟩ | ⟨_, _, _, h1, _⟩
          · exact hemp (List.length_eq_zero_iff.1 h0)
          · rw [h] at h1; simp at h1
        obtain ⟨b, off, rfl, hb, hc⟩ := HA.out (by
          cases k with
          | zero => exact absurd rfl hemp
          | succ k => omega)
        have HC : Hid (∀ i, i < k → Cells5 w b (off + i * 5) (g i)) := hc
        clear hc
        obtain ⟨gb, cp, hv, hgb⟩ := owned_shape HO.out hu
        subst hv
        have hnil := fun w => Lib.run_eql_slice_nil (P := Try.prog) w 29 3 (some ⟨gb, 0, none⟩) (abv nn f k).length cp 0 0 Try.underlying29
        have HE : Hid (abv nn f k ≠ []) := hemp
        clear hemp hu
        have hlen := abv_len nn f k
        go_wp2_with fail
        refine (sort_own w.heap.size gb cp (abv nn f k) wr HO.out (by omega)).mono ?_
        rintro e w2 ⟨rfl, hown2, hg2⟩
        have HO2 : Hid (w2.ownsRow w.heap.size 3 1 (.slice (some ⟨gb, 0, none⟩) (abv nn f k).length cp) (abv nn f k).length (((abv nn f k).mergeSort fun x y => decide (x ≤ y)).map (Value.int .i64))) := hown2
        have HB2 : Hid (Below w.heap.size w w2) := HB.out.grown hg2 HB.out.size (fun j hj => by cases hj; exact hgb)
        clear hown2 hg2
        go_wp2_with fail
        refine (compact_bs nn f k w.heap.size gb cp w2 hn HO2.out).mono ?_
        rintro e w3 ⟨rfl, hcell3, hgb3, hg3⟩
        have HC3 : Hid (∀ j, j < (bsOf nn f k).length → w3.cell? ⟨gb, j, none⟩ = some (.int .i64 ((bsOf nn f k).getD j 0))) := hcell3
        have HB3 : Hid (Below w.heap.size w w3) := HB2.out.grown hg3 HB2.out.size (fun j hj => by cases hj; exact hgb)
        have hb3 : b < w3.heap.size := Nat.lt_of_lt_of_le hb HB3.out.size
        clear hcell3 hg3
        go_wp2_with fail
        refine (clone_some b off k cap g w3 hn hb3 (fun i hi => (HC.out i hi).below hb HB3.out)).mono ?_
        rintro e w4 ⟨ob, oc, rfl, hown4, hb4, hob⟩
        have HO4 : Hid (w4.ownsRow w3.heap.size 41 5 (.slice (some ⟨ob, 0, none⟩) k oc) k (cellsOf g k)) := hown4
        have HB4 : Hid (Below w3.heap.size w3 w4) := hb4
        clear hown4 hb4
        go_wp2
        go_loopw [41] (fun i wr => ∃ (j : Nat) (xs : List Value), j ≤ k ∧ i = .int .i64 j ∧ wr.ownsRow w3.heap.size 41 5 (.slice (some ⟨ob, 0, none⟩) k oc) k xs ∧ (∀ y, y < j → Five xs (y * 5) (renum nn (bsOf nn f k) (g y))) ∧ (∀ y, j ≤ y → y < k → Five xs (y * 5) (g y)) ∧ Below w3.heap.size w3 wr) (fun i _ => k - (intOf i).toNat)
        case atStart => exact ⟨0, _, Nat.zero_le _, rfl, HO4.out, fun j hj => absurd hj (Nat.not_lt_zero _), fun y _ hy => five_cellsOf g k y hy, HB4.out⟩
        case round =>
          obtain ⟨j, xs, hj, rfl, hown5, hdone, htodo, hb5⟩ := hrel
          have HO5 : Hid (wr.ownsRow w3.heap.size 41 5 (.slice (some ⟨ob, 0, none⟩) k oc) k xs) := hown5
          have HB5 : Hid (Below w3.heap.size w3 wr) := hb5
          have HD5 : Hid (∀ y, y < j → Five xs (y * 5) (renum nn (bsOf nn f k) (g y))) := hdone
          have HT5 : Hid (∀ y, j ≤ y → y < k → Five xs (y * 5) (g y)) := htodo
          have hobs : ob < wr.heap.size := (hown5.lt ob rfl).2
          clear hown5 hb5 hdone htodo
          by_cases hlt2 : j < k
          · obtain ⟨c0, c1, c2, c3, c4⟩ := (HT5.out j (Nat.le_refl _) hlt2).cells HO5.out (by omega)
            have hfz := HO5.out.frozenAt (j * 5 + 4)
            rw [HFI.out] at c4
            have hij : (j : Int) < (k : Int) := by omega
            by_cases hgt : nn < f j
            · have hp := place_bound (bsOf nn f k) (f j) nn (bs_strict nn f k) (fun y hy => ((mem_bs nn f k y).1 hy).1) hgt
              have hzj : f j ≤ 9223372036854775807 := by have := HZ.out j hlt2; rwa [HFI.out] at this
              go_wp2_with fail
              refine (bsearch_own gb cp (bsOf nn f k) (f j) _ (by have := bs_len nn f k; omega) (bs_strict nn f k) (by exact fun t ht => ((HB5.out.alloc HB5.out.size _).cell (p := ⟨gb, t, none⟩) hgb3).trans (HC3.out t ht))).mono ?_
              rintro e w6 ⟨rfl, q, rfl⟩
              go_wp2
              refine ⟨⟨j + 1, setZ xs (j * 5) (nn + 1 + (place (bsOf nn f k) (f j) : Int)), by omega, by go_num, ((HO5.out.alloc _).stored (j * 5 + 4) _).1, fun y hy => ?_, fun y hy hyk => five_setZ_other _ _ _ _ _ (by omega) (HT5.out y (by omega) hyk), (below_drewN (HB5.out.alloc HB5.out.size _) _).setCell hob _⟩, by simp only [intOf]; omega⟩
              by_cases e : y = j
              · subst e
                rw [renum_yes _ _ _ (by rw [HFI.out]; exact hgt), HFI.out]
                exact five_setZ _ _ _ _ (HT5.out y (Nat.le_refl _) hlt2)
              · exact five_setZ_other _ _ _ _ _ (by omega) (HD5.out y (by omega))
            · go_wp2
              refine ⟨⟨j + 1, xs, by omega, by go_num, HO5.out.alloc _, fun y hy => ?_, fun y hy hyk => HT5.out y (by omega) hyk, HB5.out.alloc HB5.out.size _⟩, by simp only [intOf]; omega⟩
              by_cases e : y = j
              · subst e
                rw [renum_no _ _ _ (by rw [HFI.out]; exact hgt)]
                exact HT5.out y (Nat.le_refl _) hlt2
              · exact HD5.out y (by omega)
          · have hij : ¬ (j : Int) < (k : Int) := by omega
            obtain rfl : j = k := by omega
            have HNE : Hid (bsOf nn f j ≠ []) := fun h => by
              obtain ⟨x, hx⟩ := List.exists_mem_of_ne_nil _ HE.out
              have := (mem_bs nn f j x).2 ((mem_abv nn f j x).1 hx)
              rw [h] at this
              simp at this
            go_wp2
            go_ret2
            exact ⟨HB3.out.trans (HB5.out.mono HB3.out.size), .inr (RenRes.mk HNE.out gb cp ob oc rfl (Nat.le_trans HB3.out.size hob) (Nat.lt_of_lt_of_le hgb3 HB5.out.size) hobs (fun t ht => (HB5.out.cell (p := ⟨gb, t, none⟩) hgb3).trans (HC3.out t ht)) (fun i hi => (HD5.out i hi).cells HO5.out (by omega)) (own41 HO5.out))⟩
end Go.Proofs.Qxb6600476a.Reports
