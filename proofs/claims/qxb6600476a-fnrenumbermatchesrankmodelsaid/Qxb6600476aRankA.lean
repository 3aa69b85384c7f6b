/-
  THE CONTRACTS OF firstOccurrences, containsInt, ZZRenumber, as the rank model's law reads them.
-/
import Derived.Test.Qxb6600476aInverts
import Derived.Test.Qxb6600476aRankPlain
namespace Go.Proofs.Qxb6600476a.Reports
open Go.RowKit Excess Ren

/-- A slice of bools. -/
def Bools (w : World) (a : Option Addr) (len : Nat) (f : Nat → Bool) : Prop :=
  0 < len → ∃ b off, a = some ⟨b, off, none⟩ ∧ b < w.heap.size ∧ ∀ i, i < len → w.cell? ⟨b, off + i, none⟩ = some (.bool (f i))
theorem Bools.below {w w' : World} {a : Option Addr} {len : Nat} {f : Nat → Bool} (h : Bools w a len f) (hb : Below w.heap.size w w') : Bools w' a len f := by
  intro hl
  obtain ⟨b, off, rfl, hbs, hc⟩ := h hl
  exact ⟨b, off, rfl, Nat.lt_of_lt_of_le hbs hb.size, fun i hi => (hb.cell (p := ⟨b, off + i, none⟩) hbs).trans (hc i hi)⟩
theorem Bools.draws {w : World} {a : Option Addr} {len : Nat} {f : Nat → Bool} (h : Bools w a len f) (q : Nat) : Bools (w.drewN q) a len f := h.below (below_drewN (Below.refl _ _) q)

theorem info4 : (Try.prog.info? 4).map (fun i => (i.zero, i.size, i.bytes)) = some (some (.bool false), 1, 1) := by kernel_rfl

theorem containsInt_yes (a : Option Addr) (n cap : Nat) (f : Nat → Int) (x : Int) (w : World) (hn : n ≤ 4096) (hA : Ints w a n f) (hx : ∃ i, i < n ∧ f i = x) :
    Calls Try.prog 19 #[.slice a n cap, .int .i64 x] w fun e w' => e = .returned (.bool true) ∧ w' = w := by
  have HX : Hid (∃ i, i < n ∧ f i = x) := hx
  have HA : Hid (Ints w a n f) := hA
  clear hx hA
  go_enter Try.func19, Try.ntmps19
  go_wp2
  go_loop [5] (fun i => ∃ k : Nat, k ≤ n ∧ i = .int .i64 k ∧ ∀ y, y < k → f y ≠ x) (fun i => n - (intOf i).toNat)
  case atStart => exact ⟨0, Nat.zero_le _, rfl, fun j hj => absurd hj (Nat.not_lt_zero _)⟩
  case round =>
    obtain ⟨k, hk, rfl, hall⟩ := hrel
    have HL : Hid (∀ y, y < k → f y ≠ x) := hall
    clear hall
    by_cases hlt : k < n
    · obtain ⟨b, off, rfl, hb, hc⟩ := HA.out (by omega)
      have hck := hc k hlt
      have hi : (k : Int) < (n : Int) := by omega
      clear hc
      by_cases he : f k = x
      · have he' : (f k == x) = true := by simpa using he
        clear he
        go_wp2
        go_ret
        exact ⟨rfl, rfl⟩
      · have he' : (f k == x) = false := by simpa using he
        have HE : Hid (f k ≠ x) := he
        clear he
        go_wp2
        go_round
        case rel => exact ⟨k + 1, by omega, by go_num, fun y hy => by
          by_cases e : y = k
          · subst e; exact HE.out
          · exact HL.out y (by omega)⟩
        case measure => simp [intOf]; omega
    · obtain ⟨i, hi, h⟩ := HX.out
      exact absurd h (HL.out i (by omega))

set_option maxHeartbeats 1000000 in
theorem firstOccurrences_any (a : Option Addr) (n cap : Nat) (f : Nat → Int) (w : World) (hn : n ≤ 4096) (hA : Ints w a n f) :
    Calls Try.prog 18 #[.slice a n cap] w fun e w' => ∃ fa, e = .returned (.slice fa n n) ∧ Bools w' fa n (fst f) ∧ Below w.heap.size w w' := by
  obtain ⟨i4, ki, kz0, kz1, kz2⟩ := info_parts info4
  have HA : Hid (Ints w a n f) := hA
  clear hA
  go_enter Try.func18, Try.ntmps18
  go_wp2_with (at_make; refine wpList_make_full _ rfl (.tmp 7) (.tmp 7) 35 rfl w.heap.size 4 i4 _ 1 Try.underlying35 ki kz0 kz1 .i64 .i64 _ _ n rfl rfl rfl rfl (by rw [kz2]; omega) (by unfold maxLen; omega) (Nat.le_refl _) ?_; intro w1 hown1 hg1)
  have hb1 : Below w.heap.size w w1 := (Below.refl _ _).grown hg1 (Nat.le_refl _) (fun j hj => by cases hj)
  clear hg1
  go_loopw [4] (fun i wr => ∃ (j : Nat) (xs : List Value), j ≤ n ∧ i = .int .i64 j ∧ wr.ownsRow w.heap.size 4 1 (.slice (some ⟨w.heap.size, 0, none⟩) n n) n xs ∧ (∀ y, y < j → xs[y]? = some (.bool (fst f y))) ∧ Below w.heap.size w wr) (fun i _ => n - (intOf i).toNat)
  case atStart => exact ⟨0, _, Nat.zero_le _, rfl, hown1, fun j hj => absurd hj (Nat.not_lt_zero _), hb1⟩
  case round =>
    obtain ⟨j, xs, hj, rfl, hown, hall, hbr⟩ := hrel
    have HX : Hid (∀ y, y < j → xs[y]? = some (.bool (fst f y))) := hall
    have HO : Hid (wr.ownsRow w.heap.size 4 1 (.slice (some ⟨w.heap.size, 0, none⟩) n n) n xs) := hown
    have HB : Hid (Below w.heap.size w wr) := hbr
    clear hall hown hbr hown1 hb1
    by_cases hlt : j < n
    · obtain ⟨b, off, rfl, hb, hc⟩ := HA.out (by omega)
      have hlx : xs.length = n := by have := HO.out.1; omega
      have hi : (j : Int) < (n : Int) := by omega
      obtain ⟨v0, hv0⟩ : ∃ v, wr.cell? ⟨w.heap.size, j, none⟩ = some v := ⟨xs[j], by rw [HO.out.cellAt _ (by omega)]; simp⟩
      have hfz := HO.out.frozenAt j
      have HC : Hid (∀ i, i < n → w.cell? ⟨b, off + i, none⟩ = some (.int .i64 (f i))) := hc
      clear hc
      go_wp2
      go_loopw [5] (fun i wq => ∃ k : Nat, k ≤ j ∧ i = .int .i64 k ∧ (∀ t, t < k → f t ≠ f j) ∧ wq.ownsRow w.heap.size 4 1 (.slice (some ⟨w.heap.size, 0, none⟩) n n) n (xs.set j (.bool true)) ∧ Below w.heap.size w wq) (fun i _ => j - (intOf i).toNat)
      case atStart => exact ⟨0, Nat.zero_le _, rfl, fun t ht => absurd ht (Nat.not_lt_zero _), (HO.out.stored j _).1, HB.out.setCell (Nat.le_refl _) _⟩
      case round =>
        obtain ⟨k, hk, rfl, hne, hown2, hb2⟩ := hrel
        have HN : Hid (∀ t, t < k → f t ≠ f j) := hne
        have HO2 : Hid (wr.ownsRow w.heap.size 4 1 (.slice (some ⟨w.heap.size, 0, none⟩) n n) n (xs.set j (.bool true))) := hown2
        have HB2 : Hid (Below w.heap.size w wr) := hb2
        clear hne hown2 hb2
        by_cases hkj : k < j
        · have c1 := (HB2.out.cell (p := ⟨b, off + k, none⟩) hb).trans (HC.out k (by omega))
          have c2 := (HB2.out.cell (p := ⟨b, off + j, none⟩) hb).trans (HC.out j hlt)
          have hki : (k : Int) < (j : Int) := by omega
          have hkn : (k : Int) < (n : Int) := by omega
          by_cases he : f k = f j
          · have he' : (f k == f j) = true := by simpa using he
            have HE : Hid (f k = f j) := he
            have hv1 : wr.cell? ⟨w.heap.size, j, none⟩ = some (.bool true) := by rw [HO2.out.cellAt _ (by omega)]; simp [hlx, hlt]
            have hfz1 := HO2.out.frozenAt j
            clear he hv0 hfz
            go_wp2
            go_quiet (fail)
            go_wp2
            refine ⟨⟨j + 1, (xs.set j (.bool true)).set j (.bool false), by omega, by go_num, (HO2.out.stored j _).1, fun y hy => ?_, (below_drewN HB2.out _).setCell (Nat.le_refl _) _⟩, by simp only [intOf]; omega⟩
            by_cases e : y = j
            · subst e; rw [fst_false hkj HE.out]; simp [hlx, hlt]
            · rw [List.getElem?_set_ne (by omega), List.getElem?_set_ne (by omega)]; exact HX.out y (by omega)
          · have he' : (f k == f j) = false := by simpa using he
            have HE : Hid (f k ≠ f j) := he
            clear he hv0 hfz
            go_wp2
            go_quiet (fail)
            go_wp2
            exact ⟨⟨k + 1, by omega, by go_num, fun t ht => by
              by_cases e : t = k
              · subst e; exact HE.out
              · exact HN.out t (by omega), HO2.out, below_drewN HB2.out _⟩, by simp only [intOf]; omega⟩
        · have hki : ¬ (k : Int) < (j : Int) := by omega
          obtain rfl : k = j := by omega
          go_wp2
          refine ⟨⟨k + 1, xs.set k (.bool true), by omega, by go_num, HO2.out, fun y hy => ?_, HB2.out⟩, by simp only [intOf]; omega⟩
          by_cases e : y = k
          · subst e; rw [fst_true HN.out]; simp [hlx, hlt]
          · rw [List.getElem?_set_ne (by omega)]; exact HX.out y (by omega)
    · have hi : ¬ (j : Int) < (n : Int) := by omega
      obtain rfl : j = n := by omega
      go_wp2
      go_ret
      exact ⟨_, rfl, fun _ => ⟨_, _, rfl, (HO.out.lt w.heap.size rfl).2, fun i hi => by rw [Nat.zero_add, HO.out.cellAt i (by omega)]; exact HX.out i hi⟩, HB.out⟩

theorem zzrenumber_any (a : Option Addr) (n cap : Nat) (g : Nat → Rep) (nn : Int) (w : World) (hn : n ≤ 4096) (hA : Reps w a n g) (hn0 : -9223372036854775808 ≤ nn) (hn1 : nn ≤ 9223372036854775807) (hz : ∀ i, i < n → (g i).z ≤ 9223372036854775807) :
    Calls Try.prog 17 #[.slice a n cap, .int .i64 nn] w fun e w' => Below w.heap.size w w' ∧
      (((∀ i, i < n → (g i).z ≤ nn) ∧ e = .returned (.tuple #[.slice none 0 0, .slice a n cap])) ∨ RenRes w w' e n g nn (bsOf nn (fun i => (g i).z) n)) := by
  have HA : Hid (Reps w a n g) := hA
  have HZ : Hid (∀ i, i < n → (g i).z ≤ 9223372036854775807) := hz
  clear hA hz
  go_enter Try.func17, Try.ntmps17
  go_wp2_with fail
  refine (renumber_any a n cap g nn w hn HA.out hn0 hn1 HZ.out).mono ?_
  rintro e w' ⟨hb, h⟩
  have HB : Hid (Below w.heap.size w w') := hb
  clear hb
  rcases h with ⟨h1, rfl⟩ | hr
  · have H1 : Hid (∀ i, i < n → (g i).z ≤ nn) := h1
    clear h1
    go_wp2
    go_ret2
    exact ⟨HB.out, .inl ⟨H1.out, rfl⟩⟩
  · obtain ⟨hne, bb, bc, ob, oc, rfl, h1, h2, h3, h4, h5, h6⟩ := hr
    have H4 : Hid (∀ j, j < (bsOf nn (fun i => (g i).z) n).length → w'.cell? ⟨bb, j, none⟩ = some (.int .i64 ((bsOf nn (fun i => (g i).z) n).getD j 0))) := h4
    have H5 : Hid (∀ i, i < n → Cells5 w' ob (i * 5) (renum nn (bsOf nn (fun i => (g i).z) n) (g i))) := h5
    have HNE : Hid (bsOf nn (fun i => (g i).z) n ≠ []) := hne
    have H6 : Hid (∃ cur, w'.heap[ob]? = some (.cells cur 41 (0, 0))) := h6
    clear h4 h5 h6 hne
    go_wp2
    go_ret2
    exact ⟨HB.out, .inr (RenRes.mk HNE.out bb bc ob oc rfl h1 h2 h3 H4.out H5.out H6.out)⟩

theorem zz15 (a : Option Addr) (n cap : Nat) (nn : Int) (w : World) (hn : n ≤ 4096) :
    Calls Try.prog 15 #[.slice a n cap, .int .i64 nn] w fun e w' => e = .returned (.bool true) ∧ w' = w := by
  go_enter Try.func15, Try.ntmps15
  go_wp2
  go_ret
  exact ⟨rfl, rfl⟩

set_option maxRecDepth 100000 in
theorem rank_long (a : Option Addr) (n cap : Nat) (nn : Int) (w : World) (hn : n ≤ maxLen) (h : 4096 < n) :
    Calls Try.prog 6 #[.slice a n cap, .int .i64 nn] w fun e w' => e = .returned (.bool true) ∧ Below w.heap.size w w' := by
  unfold maxLen at hn
  by_cases c1 : (1048576 : Int) < (n : Int)
  · go_enter Try.func6, Try.ntmps6
    go_wp2
    go_ret
    exact ⟨rfl, Below.refl _ _⟩
  · have c4 : (4096 : Int) < (n : Int) := by omega
    go_enter Try.func6, Try.ntmps6
    go_wp2
    go_ret
    exact ⟨rfl, Below.refl _ _⟩
end Go.Proofs.Qxb6600476a.Reports
