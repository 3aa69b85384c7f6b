/-
  THE WALK OF FnExcessFindsFirstOverflowingInstance out of the contracts of ExcessA, ExcessB.
-/
import Derived.Test.Qxb6600476aExcessB
import Derived.Outline
import Derived.Deep.QuietTactic
import Derived.BigQuiet
import Derived.Laws.CopyOwn
namespace Go.Proofs.Qxb6600476a.Excess
open Go.RowKit

theorem info3 : (Try.prog.info? 3).map (fun i => (i.zero, i.size, i.bytes)) = some (some (.int .i64 0), 1, 8) := by kernel_rfl

theorem buildDistinct_any (a : Option Addr) (n cap : Nat) (f : Nat → Int) (w : World) (hn : n ≤ 4096) (h0 : a = none → n = 0 ∧ cap = 0) (hA : Ints w a n f) (hf : ∀ i, i < n → 0 ≤ f i ∧ f i ≤ 32768) :
    Calls Try.prog 25 #[.slice a n cap] w fun e w' => ∃ a', e = .returned (.slice a' n n) ∧ Rows2 w' a' n (fun i => (f i).toNat) ∧ Below w.heap.size w w' := by
  cases a with
  | none =>
    obtain ⟨rfl, rfl⟩ := h0 rfl
    refine (buildDistinct_nil w).mono ?_
    rintro e w' ⟨rfl, rfl⟩
    exact ⟨none, rfl, fun h => absurd h (Nat.lt_irrefl _), Below.refl _ _⟩
  | some x => exact buildDistinct_some x n cap f w hn hA hf

/-- ZZExcess hands excess on. -/
theorem zzexcess_any (a : Option Addr) (n cap : Nat) (c : Nat → Nat) (ka : Option Addr) (m kcap : Nat) (kf : Nat → Int) (op : Int) (w : World) (hn : n ≤ 4096) (hA : Rows2 w a n c) (hK : Ints w ka m kf) :
    Calls Try.prog 24 #[.slice a n cap, .slice ka m kcap, .int .u8 op] w fun e w' => w' = w ∧
      ((∃ z : Nat, z < n ∧ e = .returned (.tuple #[.int .u8 op, .int .i64 ((z : Int) + 1)]) ∧ ov (c z) (kof m kf z) = true ∧ ∀ y, y < z → ov (c y) (kof m kf y) = false) ∨
        (e = .returned (.tuple #[.int .u8 0, .int .i64 0]) ∧ ∀ y, y < n → ov (c y) (kof m kf y) = false)) := by
  have HA : Hid (Rows2 w a n c) := hA
  have HK : Hid (Ints w ka m kf) := hK
  clear hA hK
  go_enter Try.func24, Try.ntmps24
  go_wp2_with fail
  refine (excess_any a n cap c ka m kcap kf op w hn HA.out HK.out).mono ?_
  rintro e w' ⟨rfl, h⟩
  rcases h with ⟨z, hz, rfl, h1, h2⟩ | ⟨rfl, h1⟩
  · have H1 : Hid (ov (c z) (kof m kf z) = true) := h1
    have H2 : Hid (∀ y, y < z → ov (c y) (kof m kf y) = false) := h2
    clear h1 h2
    go_wp2
    go_ret2
    exact ⟨rfl, .inl ⟨z, hz, rfl, H1.out, H2.out⟩⟩
  · have H1 : Hid (∀ y, y < n → ov (c y) (kof m kf y) = false) := h1
    clear h1
    go_wp2
    go_ret2
    exact ⟨rfl, .inr ⟨rfl, H1.out⟩⟩

theorem Ints.draws {w : World} {a : Option Addr} {len : Nat} {f : Nat → Int} (h : Ints w a len f) (q : Nat) : Ints (w.drewN q) a len f :=
  h.below (below_drewN (Below.refl _ _) q)

/-- What 'copy(zzc, ks)' leaves is the same integers in the new row. -/
theorem copied {w1 : World} {g m : Nat} {cur : Array Value} {kf : Nat → Int} (hg : w1.heap[g]? = some (.cells cur 3 (0, 0))) :
    Ints (w1.setRow g (cur.toList.take 0 ++ ((List.range m).map (fun i => Value.int .i64 (kf i)) ++ cur.toList.drop (0 + ((List.range m).map (fun i => Value.int .i64 (kf i))).length))).toArray) (some ⟨g, 0, none⟩) m kf := by
  intro hm
  refine ⟨g, 0, rfl, ?_, fun i hi => ?_⟩
  · have := (Array.getElem?_eq_some_iff.1 hg).1
    simpa [World.setRow] using this
  · rw [cell_of_row _ g (0 + i) _ 3 (0, 0) (setRow_heap w1 g cur _ 3 (0, 0) hg)]
    simp [List.getElem?_append, hi]

theorem row_of {w2 : World} {base g m : Nat} {xs : List Value} (h : w2.ownsRow base 3 1 (.slice (some ⟨g, 0, none⟩) m m) m xs) : ∃ cur, w2.heap[g]? = some (.cells cur 3 (0, 0)) ∧ cur.size = m := by
  rcases h.2 with ⟨h', _⟩ | ⟨g', cap', cur, h', _, hg, _, _, hs, _⟩
  · simp at h'
  · simp only [Value.slice.injEq, Option.some.injEq, Addr.mk.injEq, and_true, true_and] at h'
    obtain ⟨rfl, rfl⟩ := h'
    exact ⟨cur, hg, by omega⟩

theorem src_of {w w2 : World} {x : Addr} {m : Nat} {kf : Nat → Int} (h : Ints w (some x) m kf) (hb : Below w.heap.size w w2) :
    ∀ j v, ((List.range m).map (fun i => Value.int .i64 (kf i)))[j]? = some v → w2.cell? (x.add j) = some v := by
  intro j v hv
  by_cases hj : j < m
  · obtain ⟨b, off, e, hbs, hc⟩ := h.below hb (by omega)
    obtain rfl : x = ⟨b, off, none⟩ := by simpa using e
    have := hc j hj
    simp [hj] at hv
    subst hv
    rw [show (⟨b, off, none⟩ : Addr).add j = ⟨b, off + j, none⟩ from by unfold Addr.add; split <;> simp_all]
    exact this
  · simp [hj] at hv

/-- 'copy(zzc, ks)' into the row just made: the same integers, nothing old turned. -/
theorem copy_run {w w2 : World} {x : Addr} {m cap1 : Nat} {kf : Nat → Int} {xs : List Value} (hK : Ints w (some x) m kf) (hown : w2.ownsRow w.heap.size 3 1 (.slice (some ⟨w.heap.size, 0, none⟩) m m) m xs) (hg2 : w.grownBy w2 none) :
    ∃ W, (Builtin.copy_ #[29, 29] 3 #[.slice (some ⟨w.heap.size, 0, none⟩) m m, .slice (some x) m cap1]).run Try.prog w2 = .ok (.int .i64 (m : Int)) W ∧ Ints W (some ⟨w.heap.size, 0, none⟩) m kf ∧ Below w.heap.size w W := by
  obtain ⟨i3, hi, hz0, hz1, hz2⟩ := info_parts info3
  obtain ⟨cur, hcur, hcs⟩ := row_of hown
  have hb : Below w.heap.size w w2 := (Below.refl _ _).grown hg2 (Nat.le_refl _) (fun j hj => by cases hj)
  have hr := run_copy_row (P := Try.prog) w2 29 29 3 3 w.heap.size 0 m m x m cap1 cur 3 ((List.range m).map (fun i => Value.int .i64 (kf i))) Try.underlying29 (by rw [hi]; simp [hz1]) hcur (by simp) (src_of hK hb) (by simp [hcs]) (by simp [Value.oneCell'])
  refine ⟨_, hr.trans ?_, copied hcur, below_setRow hb (Nat.le_refl _) _⟩
  simp [goInt]

theorem ov_toNat {x k : Int} (h : 0 ≤ x) : ov ((x.toNat : Nat) : Int) k = ov x k := by rw [Int.toNat_of_nonneg h]

/-- zzBytes of short slices. -/
theorem zz_short (a0 : Option Addr) (n cap0 : Nat) (a1 : Option Addr) (m cap1 : Nat) (op : Int) (w : World) (hn : n ≤ 4096) (hm : m ≤ 4096) :
    Calls Try.prog 22 #[.slice a0 n cap0, .slice a1 m cap1, .int .u8 op] w fun e w' => e = .returned (.bool true) ∧ w' = w := by
  go_enter Try.func22, Try.ntmps22
  go_wp2
  go_ret
  exact ⟨rfl, rfl⟩

set_option maxHeartbeats 400000 in
/-- Too long an input: true. -/
theorem law_long (a0 : Option Addr) (n cap0 : Nat) (a1 : Option Addr) (m cap1 : Nat) (op : Int) (w : World) (hn : n ≤ maxLen) (hm : m ≤ maxLen) (h : 4096 < n ∨ 4096 < m) :
    Calls Try.prog 9 #[.slice a0 n cap0, .slice a1 m cap1, .int .u8 op] w fun e w' => e = .returned (.bool true) ∧ Below w.heap.size w w' := by
  unfold maxLen at hn hm
  by_cases c1 : (1048576 : Int) < (n : Int)
  · go_enter Try.func9, Try.ntmps9
    go_wp2
    go_ret
    exact ⟨rfl, Below.refl _ _⟩
  by_cases c2 : (1048576 : Int) < (m : Int)
  · go_enter Try.func9, Try.ntmps9
    go_wp2
    go_ret
    exact ⟨rfl, Below.refl _ _⟩
  by_cases c3 : (1048576 : Int) < (n : Int) + (m : Int)
  · go_enter Try.func9, Try.ntmps9
    go_wp2
    go_ret
    exact ⟨rfl, Below.refl _ _⟩
  by_cases c4 : (4096 : Int) < (n : Int)
  · go_enter Try.func9, Try.ntmps9
    go_wp2
    go_ret
    exact ⟨rfl, Below.refl _ _⟩
  · have c5 : (4096 : Int) < (m : Int) := by omega
    go_enter Try.func9, Try.ntmps9
    go_wp2
    go_ret
    exact ⟨rfl, Below.refl _ _⟩

set_option maxHeartbeats 1000000 in
theorem law_nil (a0 : Option Addr) (n cap0 : Nat) (f : Nat → Int) (kf : Nat → Int) (op : Int) (w : World) (hn : n ≤ 4096) (h0 : a0 = none → n = 0 ∧ cap0 = 0) (hA : Ints w a0 n f) :
    Calls Try.prog 9 #[.slice a0 n cap0, .slice none 0 0, .int .u8 op] w fun e w' => e = .returned (.bool true) ∧ Below w.heap.size w w' := by
  have HN : Hid (a0 = none → n = 0 ∧ cap0 = 0) := h0
  have HAW : Hid (Ints w a0 n f) := hA
  have HKW : Hid (Ints w none 0 kf) := fun h => absurd h (Nat.lt_irrefl _)
  have HBW : Hid (Below w.heap.size w w) := Below.refl _ _
  have hnil := fun w => run_neq_slice_nil_any (P := Try.prog) w 29 3 none 0 0 0 0 Try.underlying29
  clear h0 hA
  go_enter Try.func9, Try.ntmps9
  go_wp2_with fail
  refine (zz_short _ _ _ _ _ _ _ _ hn (by omega)).mono ?_
  rintro e w0 ⟨rfl, rfl⟩
  go_wp2_with fail
  refine (countsFit_any a0 n cap0 f w0 hn HAW.out).mono ?_
  rintro e w1 ⟨rfl, h⟩
  rcases h with ⟨rfl, hf⟩ | rfl
  · have HF : Hid (∀ i, i < n → 0 ≤ f i ∧ f i ≤ 32768) := hf
    clear hf
    go_wp2_with fail
    refine (buildDistinct_any a0 n cap0 f w1 hn HN.out HAW.out HF.out).mono ?_
    rintro e w4 ⟨a4, rfl, hr4, hb4⟩
    have HR4 : Hid (Rows2 w4 a4 n (fun i => (f i).toNat)) := hr4
    have HA4 : Hid (Ints w4 a0 n f) := HAW.out.below hb4
    have HK4 : Hid (Ints w4 none 0 kf) := HKW.out.below hb4
    have HB4 : Hid (Below w1.heap.size w1 w4) := HBW.out.trans (hb4.mono HBW.out.size)
    clear hr4 hb4
    go_wp2_with fail
    refine (zzexcess_any a4 n n (fun i => (f i).toNat) none 0 0 kf op w4 hn HR4.out HK4.out).mono ?_
    rintro e w5 ⟨rfl, h⟩
    rcases h with ⟨z, hz, rfl, h1, h2⟩ | ⟨rfl, h1⟩
    · have H1 : Hid (ov (f z) (kof 0 kf z) = true) := by rw [ov_toNat (HF.out z hz).1] at h1; exact h1
      have H2 : Hid (∀ y, y < z → ov (f y) (kof 0 kf y) = false) := fun y hy => by have := h2 y hy; rw [ov_toNat (HF.out y (by omega)).1] at this; exact this
      clear h1 h2
      have hz0 : ((z : Int) + 1 == 0) = false := by simp; omega
      have hzn : (z : Int) < (n : Int) := by omega
      obtain ⟨b, off, e0, hb, hc⟩ := HA4.out (by omega)
      have hcz := hc z hz
      subst e0
      have hov := H1.out
      clear hc
      go_wp2
      go_quiet ((first | (go_at_call 27; exact Calls.quiet_of_same (kOf_any none 0 0 kf z _ (HK4.out.draws _))) | (go_at_call 26; exact Calls.quiet_of_same (overflows_any _ _ _))))
      go_wp2
      clear hov hcz
      go_loopw [11] (fun i wr => ∃ k : Nat, k ≤ z ∧ i = .int .i64 k ∧ Ints wr (some ⟨b, off, none⟩) n f ∧ Ints wr none 0 kf ∧ Below w1.heap.size w1 wr) (fun i _ => z - (intOf i).toNat)
      case atStart => exact ⟨0, Nat.zero_le _, rfl, HA4.out.draws _, HK4.out.draws _, below_drewN HB4.out _⟩
      case round =>
        obtain ⟨k, hk, rfl, hra, hrk, hrb⟩ := hrel
        have HRA : Hid (Ints wr (some ⟨b, off, none⟩) n f) := hra
        have HRK : Hid (Ints wr none 0 kf) := hrk
        have HRB : Hid (Below w1.heap.size w1 wr) := hrb
        clear hra hrk hrb
        by_cases hlt : k < z
        · obtain ⟨b', off', e1, hb', hc⟩ := HRA.out (by omega)
          obtain ⟨rfl, rfl⟩ : b = b' ∧ off = off' := by simpa using e1
          have hck := hc k (by omega)
          have hki : (k : Int) < (z : Int) := by omega
          have hkn : (k : Int) < (n : Int) := by omega
          have hov := H2.out k hlt
          clear hc e1 hb'
          go_wp2
          go_quiet ((first | (go_at_call 27; exact Calls.quiet_of_same (kOf_any none 0 0 kf k _ (HRK.out.draws _))) | (go_at_call 26; exact Calls.quiet_of_same (overflows_any _ _ _))))
          go_wp2
          all_goals first
            | exact absurd (hov.symm.trans ‹ov (f k) (kof 0 kf k) = true›) (by decide)
            | exact ⟨⟨k + 1, by omega, by go_num, HRA.out.draws _, HRK.out.draws _, below_drewN HRB.out _⟩, by simp only [intOf]; omega⟩
        · have hki : ¬ (k : Int) < (z : Int) := by omega
          go_wp2
          go_ret
          exact ⟨rfl, HRB.out⟩
    · have H1 : Hid (∀ y, y < n → ov (f y) (kof 0 kf y) = false) := fun y hy => by have := h1 y hy; rw [ov_toNat (HF.out y hy).1] at this; exact this
      clear h1
      go_wp2
      go_loopw [10] (fun i wr => ∃ k : Nat, k ≤ n ∧ i = .int .i64 k ∧ Ints wr a0 n f ∧ Ints wr none 0 kf ∧ Below w1.heap.size w1 wr) (fun i _ => n - (intOf i).toNat)
      case atStart => exact ⟨0, Nat.zero_le _, rfl, HA4.out, HK4.out, HB4.out⟩
      case round =>
        obtain ⟨k, hk, rfl, hra, hrk, hrb⟩ := hrel
        have HRA : Hid (Ints wr a0 n f) := hra
        have HRK : Hid (Ints wr none 0 kf) := hrk
        have HRB : Hid (Below w1.heap.size w1 wr) := hrb
        clear hra hrk hrb
        by_cases hlt : k < n
        · obtain ⟨b, off, rfl, hb, hc⟩ := HRA.out (by omega)
          have hck := hc k (by omega)
          have hkn : (k : Int) < (n : Int) := by omega
          have hov := H1.out k hlt
          clear hc
          go_wp2
          go_quiet ((first | (go_at_call 27; exact Calls.quiet_of_same (kOf_any none 0 0 kf k _ (HRK.out.draws _))) | (go_at_call 26; exact Calls.quiet_of_same (overflows_any _ _ _))))
          go_wp2
          all_goals first
            | exact absurd (hov.symm.trans ‹ov (f k) (kof 0 kf k) = true›) (by decide)
            | exact ⟨⟨k + 1, by omega, by go_num, HRA.out.draws _, HRK.out.draws _, below_drewN HRB.out _⟩, by simp only [intOf]; omega⟩
        · have hki : ¬ (k : Int) < (n : Int) := by omega
          go_wp2
          go_ret
          exact ⟨rfl, HRB.out⟩
  · go_wp2
    go_ret
    exact ⟨rfl, Below.refl _ _⟩

set_option maxHeartbeats 1000000 in
theorem law_some (a0 : Option Addr) (n cap0 : Nat) (f : Nat → Int) (x : Addr) (m cap1 : Nat) (kf : Nat → Int) (op : Int) (w : World) (hn : n ≤ 4096) (hm : m ≤ 4096) (h0 : a0 = none → n = 0 ∧ cap0 = 0) (hA : Ints w a0 n f) (hK : Ints w (some x) m kf) :
    Calls Try.prog 9 #[.slice a0 n cap0, .slice (some x) m cap1, .int .u8 op] w fun e w' => e = .returned (.bool true) ∧ Below w.heap.size w w' := by
  have HN : Hid (a0 = none → n = 0 ∧ cap0 = 0) := h0
  have HA0 : Hid (Ints w a0 n f) := hA
  have HK0 : Hid (Ints w (some x) m kf) := hK
  have hnil := fun w => run_neq_slice_nil_any (P := Try.prog) w 29 3 (some x) m cap1 0 0 Try.underlying29
  obtain ⟨i3, hi, hz0, hz1, hz2⟩ := info_parts info3
  clear h0 hA hK
  go_enter Try.func9, Try.ntmps9
  go_wp2_with fail
  refine (zz_short _ _ _ _ _ _ _ _ hn hm).mono ?_
  rintro e w0 ⟨rfl, rfl⟩
  go_wp2_with fail
  refine (countsFit_any a0 n cap0 f w0 hn HA0.out).mono ?_
  rintro e w1 ⟨rfl, h⟩
  rcases h with ⟨rfl, hf⟩ | rfl
  · have HF : Hid (∀ i, i < n → 0 ≤ f i ∧ f i ≤ 32768) := hf
    clear hf
    go_wp2_with (first
      | (at_make; refine wpList_make_full _ rfl (.tmp 31) (.tmp 31) 29 rfl w1.heap.size 3 i3 _ 1 Try.underlying29 hi hz0 hz1 .i64 .i64 _ _ m rfl rfl rfl rfl (by rw [hz2]; omega) (by unfold maxLen; omega) (Nat.le_refl _) ?_; intro w2 hown2 hg2; obtain ⟨W, hcp, hKW, hBW⟩ := copy_run (cap1 := cap1) HK0.out hown2 hg2; have HKW : Hid (Ints W (some ⟨w1.heap.size, 0, none⟩) m kf) := hKW; have HBW : Hid (Below w1.heap.size w1 W) := hBW; have HAW : Hid (Ints W a0 n f) := HA0.out.below hBW; clear hKW hBW hown2 hg2)
      | fail)
    refine (buildDistinct_any a0 n cap0 f W hn HN.out HAW.out HF.out).mono ?_
    rintro e w4 ⟨a4, rfl, hr4, hb4⟩
    have HR4 : Hid (Rows2 w4 a4 n (fun i => (f i).toNat)) := hr4
    have HA4 : Hid (Ints w4 a0 n f) := HAW.out.below hb4
    have HK4 : Hid (Ints w4 (some ⟨w1.heap.size, 0, none⟩) m kf) := HKW.out.below hb4
    have HB4 : Hid (Below w1.heap.size w1 w4) := HBW.out.trans (hb4.mono HBW.out.size)
    clear hr4 hb4
    go_wp2_with fail
    refine (zzexcess_any a4 n n (fun i => (f i).toNat) (some ⟨w1.heap.size, 0, none⟩) m m kf op w4 hn HR4.out HK4.out).mono ?_
    rintro e w5 ⟨rfl, h⟩
    rcases h with ⟨z, hz, rfl, h1, h2⟩ | ⟨rfl, h1⟩
    · have H1 : Hid (ov (f z) (kof m kf z) = true) := by rw [ov_toNat (HF.out z hz).1] at h1; exact h1
      have H2 : Hid (∀ y, y < z → ov (f y) (kof m kf y) = false) := fun y hy => by have := h2 y hy; rw [ov_toNat (HF.out y (by omega)).1] at this; exact this
      clear h1 h2
      have hz0 : ((z : Int) + 1 == 0) = false := by simp; omega
      have hzn : (z : Int) < (n : Int) := by omega
      obtain ⟨b, off, e0, hb, hc⟩ := HA4.out (by omega)
      have hcz := hc z hz
      subst e0
      have hov := H1.out
      clear hc
      go_wp2
      go_quiet ((first | (go_at_call 27; exact Calls.quiet_of_same (kOf_any (some ⟨w1.heap.size, 0, none⟩) m m kf z _ (HK4.out.draws _))) | (go_at_call 26; exact Calls.quiet_of_same (overflows_any _ _ _))))
      go_wp2
      clear hov hcz
      go_loopw [11] (fun i wr => ∃ k : Nat, k ≤ z ∧ i = .int .i64 k ∧ Ints wr (some ⟨b, off, none⟩) n f ∧ Ints wr (some ⟨w1.heap.size, 0, none⟩) m kf ∧ Below w1.heap.size w1 wr) (fun i _ => z - (intOf i).toNat)
      case atStart => exact ⟨0, Nat.zero_le _, rfl, HA4.out.draws _, HK4.out.draws _, below_drewN HB4.out _⟩
      case round =>
        obtain ⟨k, hk, rfl, hra, hrk, hrb⟩ := hrel
        have HRA : Hid (Ints wr (some ⟨b, off, none⟩) n f) := hra
        have HRK : Hid (Ints wr (some ⟨w1.heap.size, 0, none⟩) m kf) := hrk
        have HRB : Hid (Below w1.heap.size w1 wr) := hrb
        clear hra hrk hrb
        by_cases hlt : k < z
        · obtain ⟨b', off', e1, hb', hc⟩ := HRA.out (by omega)
          obtain ⟨rfl, rfl⟩ : b = b' ∧ off = off' := by simpa using e1
          have hck := hc k (by omega)
          have hki : (k : Int) < (z : Int) := by omega
          have hkn : (k : Int) < (n : Int) := by omega
          have hov := H2.out k hlt
          clear hc e1 hb'
          go_wp2
          go_quiet ((first | (go_at_call 27; exact Calls.quiet_of_same (kOf_any (some ⟨w1.heap.size, 0, none⟩) m m kf k _ (HRK.out.draws _))) | (go_at_call 26; exact Calls.quiet_of_same (overflows_any _ _ _))))
          go_wp2
          all_goals first
            | exact absurd (hov.symm.trans ‹ov (f k) (kof m kf k) = true›) (by decide)
            | exact ⟨⟨k + 1, by omega, by go_num, HRA.out.draws _, HRK.out.draws _, below_drewN HRB.out _⟩, by simp only [intOf]; omega⟩
        · have hki : ¬ (k : Int) < (z : Int) := by omega
          go_wp2
          go_ret
          exact ⟨rfl, HRB.out⟩
    · have H1 : Hid (∀ y, y < n → ov (f y) (kof m kf y) = false) := fun y hy => by have := h1 y hy; rw [ov_toNat (HF.out y hy).1] at this; exact this
      clear h1
      go_wp2
      go_loopw [10] (fun i wr => ∃ k : Nat, k ≤ n ∧ i = .int .i64 k ∧ Ints wr a0 n f ∧ Ints wr (some ⟨w1.heap.size, 0, none⟩) m kf ∧ Below w1.heap.size w1 wr) (fun i _ => n - (intOf i).toNat)
      case atStart => exact ⟨0, Nat.zero_le _, rfl, HA4.out, HK4.out, HB4.out⟩
      case round =>
        obtain ⟨k, hk, rfl, hra, hrk, hrb⟩ := hrel
        have HRA : Hid (Ints wr a0 n f) := hra
        have HRK : Hid (Ints wr (some ⟨w1.heap.size, 0, none⟩) m kf) := hrk
        have HRB : Hid (Below w1.heap.size w1 wr) := hrb
        clear hra hrk hrb
        by_cases hlt : k < n
        · obtain ⟨b, off, rfl, hb, hc⟩ := HRA.out (by omega)
          have hck := hc k (by omega)
          have hkn : (k : Int) < (n : Int) := by omega
          have hov := H1.out k hlt
          clear hc
          go_wp2
          go_quiet ((first | (go_at_call 27; exact Calls.quiet_of_same (kOf_any (some ⟨w1.heap.size, 0, none⟩) m m kf k _ (HRK.out.draws _))) | (go_at_call 26; exact Calls.quiet_of_same (overflows_any _ _ _))))
          go_wp2
          all_goals first
            | exact absurd (hov.symm.trans ‹ov (f k) (kof m kf k) = true›) (by decide)
            | exact ⟨⟨k + 1, by omega, by go_num, HRA.out.draws _, HRK.out.draws _, below_drewN HRB.out _⟩, by simp only [intOf]; omega⟩
        · have hki : ¬ (k : Int) < (n : Int) := by omega
          go_wp2
          go_ret
          exact ⟨rfl, HRB.out⟩
  · go_wp2
    go_ret
    exact ⟨rfl, Below.refl _ _⟩
end Go.Proofs.Qxb6600476a.Excess
