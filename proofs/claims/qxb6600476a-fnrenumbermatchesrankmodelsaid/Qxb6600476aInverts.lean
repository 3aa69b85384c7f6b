/-
  THE WALK OF FnRenumberInvertsThroughBeyond.
-/
import Derived.Test.Qxb6600476aRenumber
namespace Go.Proofs.Qxb6600476a.Reports
open Go.RowKit Excess Ren

/-- What ZZRenumber hands back, as this law reads it. -/
def InvRes (w w' : World) (e : Ending) (n : Nat) (g : Nat → Rep) (nn : Int) : Prop :=
  ∃ (ba : Option Addr) (bl bc : Nat) (bf : Nat → Int) (oa : Option Addr) (oc : Nat) (og : Nat → Rep), e = .returned (.tuple #[.slice ba bl bc, .slice oa n oc]) ∧ Below w.heap.size w w' ∧ Ints w' ba bl bf ∧ Reps w' oa n og ∧
    (∀ i, i < n → nn < (g i).z → ∃ t : Nat, (og i).z = nn + 1 + (t : Int) ∧ t < bl ∧ bf t = (g i).z ∧ nn + 1 + (t : Int) ≤ (g i).z) ∧ (∀ i, i < n → ¬ nn < (g i).z → (og i).z = (g i).z) ∧ bl ≤ n
theorem InvRes.mk {w w' : World} {e : Ending} {n : Nat} {g : Nat → Rep} {nn : Int} (ba : Option Addr) (bl bc : Nat) (bf : Nat → Int) (oa : Option Addr) (oc : Nat) (og : Nat → Rep) (h0 : e = .returned (.tuple #[.slice ba bl bc, .slice oa n oc])) (h1 : Below w.heap.size w w') (h2 : Ints w' ba bl bf) (h3 : Reps w' oa n og)
    (h4 : ∀ i, i < n → nn < (g i).z → ∃ t : Nat, (og i).z = nn + 1 + (t : Int) ∧ t < bl ∧ bf t = (g i).z ∧ nn + 1 + (t : Int) ≤ (g i).z) (h5 : ∀ i, i < n → ¬ nn < (g i).z → (og i).z = (g i).z) (h6 : bl ≤ n) : InvRes w w' e n g nn :=
  ⟨ba, bl, bc, bf, oa, oc, og, h0, h1, h2, h3, h4, h5, h6⟩

theorem zzrenumber_inv (a : Option Addr) (n cap : Nat) (g : Nat → Rep) (nn : Int) (w : World) (hn : n ≤ 4096) (hA : Reps w a n g) (hn0 : -9223372036854775808 ≤ nn) (hn1 : nn ≤ 9223372036854775807) (hz : ∀ i, i < n → (g i).z ≤ 9223372036854775807) :
    Calls Try.prog 17 #[.slice a n cap, .int .i64 nn] w fun e w' => InvRes w w' e n g nn := by
  have HA : Hid (Reps w a n g) := hA
  have HZ : Hid (∀ i, i < n → (g i).z ≤ 9223372036854775807) := hz
  clear hA hz
  go_enter Try.func17, Try.ntmps17
  go_wp2_with fail
  refine (renumber_any a n cap g nn w hn HA.out hn0 hn1 HZ.out).mono ?_
  rintro e w' ⟨hb, h⟩
  have HB : Hid (Below w.heap.size w w') := hb
  clear hb
  rcases h with ⟨h1, rfl⟩ | hr
  · have H1 : Hid (∀ i, i < n → (g i).z ≤ nn) := h1
    clear h1
    go_wp2
    go_ret2
    exact InvRes.mk none 0 0 (fun _ => 0) a cap g rfl HB.out (fun h => absurd h (Nat.lt_irrefl _)) (HA.out.below HB.out) (fun i hi h => by have := H1.out i hi; omega) (fun i _ _ => rfl) (Nat.zero_le _)
  · obtain ⟨hne, bb, bc, ob, oc, rfl, h1, h2, h3, h4, h5, _⟩ := hr
    have H4 : Hid (∀ j, j < (bsOf nn (fun i => (g i).z) n).length → w'.cell? ⟨bb, j, none⟩ = some (.int .i64 ((bsOf nn (fun i => (g i).z) n).getD j 0))) := h4
    have H5 : Hid (∀ i, i < n → Cells5 w' ob (i * 5) (renum nn (bsOf nn (fun i => (g i).z) n) (g i))) := h5
    clear h4 h5 hne
    go_wp2
    go_ret2
    refine InvRes.mk (some ⟨bb, 0, none⟩) (bsOf nn (fun i => (g i).z) n).length bc (fun j => (bsOf nn (fun i => (g i).z) n).getD j 0) (some ⟨ob, 0, none⟩) oc (fun i => renum nn (bsOf nn (fun i => (g i).z) n) (g i)) rfl HB.out
      (fun _ => ⟨bb, 0, rfl, h2, fun i hi => by rw [Nat.zero_add]; exact H4.out i hi⟩) (fun _ => ⟨ob, 0, rfl, h3, fun i hi => by rw [Nat.zero_add]; exact H5.out i hi⟩) (fun i hi h => ?_) (fun i _ h => by rw [renum_no _ _ _ h]) (bs_len _ _ _)
    have hm : (g i).z ∈ bsOf nn (fun i => (g i).z) n := (mem_bs nn (fun i => (g i).z) n _).2 ⟨h, i, hi, rfl⟩
    refine ⟨place (bsOf nn (fun i => (g i).z) n) (g i).z, by rw [renum_yes _ _ _ h], place_lt _ _ (bs_strict _ _ _) hm, ?_, place_bound _ _ _ (bs_strict _ _ _) (fun y hy => ((mem_bs _ _ _ y).1 hy).1) h⟩
    have := place_at _ _ (bs_strict nn (fun i => (g i).z) n) hm
    simp only [List.getD, this, Option.getD_some]

theorem Reps.draws {w : World} {a : Option Addr} {n : Nat} {g : Nat → Rep} (h : Reps w a n g) (q : Nat) : Reps (w.drewN q) a n g := h.below (below_drewN (Below.refl _ _) q)
theorem ints_draws {w : World} {a : Option Addr} {len : Nat} {f : Nat → Int} (h : Ints w a len f) (q : Nat) : Ints (w.drewN q) a len f := h.below (below_drewN (Below.refl _ _) q)

theorem buildReports_any (a : Option Addr) (n cap : Nat) (f : Nat → Int) (w : World) (hn : n ≤ 4096) (h0 : a = none → n = 0 ∧ cap = 0) (hA : Ints w a n f) :
    Calls Try.prog 16 #[.slice a n cap] w fun e w' => ∃ ra, e = .returned (.slice ra n n) ∧ Reps w' ra n (built f) ∧ Below w.heap.size w w' ∧ (∀ x, ra = some x → ∃ cur, w'.heap[x.block]? = some (.cells cur 41 (0, 0))) := by
  cases a with
  | none =>
    obtain ⟨rfl, rfl⟩ := h0 rfl
    refine (buildReports_nil w).mono ?_
    rintro e w' ⟨rfl, rfl⟩
    exact ⟨none, rfl, fun h => absurd h (Nat.lt_irrefl _), Below.refl _ _, fun x h => by cases h⟩
  | some x =>
    refine (buildReports_some x n cap f w hn hA).mono ?_
    rintro e w' ⟨rfl, h1, h2, h3⟩
    exact ⟨_, rfl, h1, h2, fun x h => by cases h; exact h3⟩

theorem zz21 (a : Option Addr) (n cap : Nat) (nn : Int) (w : World) (hn : n ≤ 4096) :
    Calls Try.prog 21 #[.slice a n cap, .int .i64 nn] w fun e w' => e = .returned (.bool true) ∧ w' = w := by
  go_enter Try.func21, Try.ntmps21
  go_wp2
  go_ret
  exact ⟨rfl, rfl⟩

theorem inv_long (a : Option Addr) (n cap : Nat) (nn : Int) (w : World) (hn : n ≤ maxLen) (h : 4096 < n) :
    Calls Try.prog 8 #[.slice a n cap, .int .i64 nn] w fun e w' => e = .returned (.bool true) ∧ Below w.heap.size w w' := by
  unfold maxLen at hn
  by_cases c1 : (1048576 : Int) < (n : Int)
  · go_enter Try.func8, Try.ntmps8
    go_wp2
    go_ret
    exact ⟨rfl, Below.refl _ _⟩
  · have c4 : (4096 : Int) < (n : Int) := by omega
    go_enter Try.func8, Try.ntmps8
    go_wp2
    go_ret
    exact ⟨rfl, Below.refl _ _⟩

set_option maxHeartbeats 2000000 in
theorem inv_short (a : Option Addr) (n cap : Nat) (f : Nat → Int) (nn : Int) (w : World) (hn : n ≤ 4096) (h0 : a = none → n = 0 ∧ cap = 0) (hA : Ints w a n f) (hn0 : -9223372036854775808 ≤ nn) (hn1 : nn ≤ 9223372036854775807) (hz : ∀ i, i < n → f i ≤ 9223372036854775807) :
    Calls Try.prog 8 #[.slice a n cap, .int .i64 nn] w fun e w' => e = .returned (.bool true) ∧ Below w.heap.size w w' := by
  have HA : Hid (Ints w a n f) := hA
  have H0 : Hid (a = none → n = 0 ∧ cap = 0) := h0
  have HZ : Hid (∀ i, i < n → f i ≤ 9223372036854775807) := hz
  clear hA h0 hz
  go_enter Try.func8, Try.ntmps8
  go_wp2_with fail
  refine (zz21 _ _ _ _ _ hn).mono ?_
  rintro e w1 ⟨rfl, rfl⟩
  go_wp2_with fail
  refine (buildReports_any a n cap f w1 hn H0.out HA.out).mono ?_
  rintro e w2 ⟨ra, rfl, hr2, hb2, _⟩
  have HR2 : Hid (Reps w2 ra n (built f)) := hr2
  have HB2 : Hid (Below w1.heap.size w1 w2) := hb2
  clear hr2 hb2
  go_wp2_with fail
  refine (zzrenumber_inv ra n n (built f) nn w2 hn HR2.out hn0 hn1 HZ.out).mono ?_
  rintro e w3 ⟨ba, bl, bc, bf, oa, oc, og, rfl, hb3, hi3, hr3, hyes, hno, hbl⟩
  have HI3 : Hid (Ints w3 ba bl bf) := hi3
  have HO3 : Hid (Reps w3 oa n og) := hr3
  have HR3 : Hid (Reps w3 ra n (built f)) := HR2.out.below hb3
  have HA3 : Hid (Ints w3 a n f) := (HA.out.below HB2.out).below hb3
  have HB3 : Hid (Below w1.heap.size w1 w3) := HB2.out.trans (hb3.mono HB2.out.size)
  have HY : Hid (∀ i, i < n → nn < f i → ∃ t : Nat, (og i).z = nn + 1 + (t : Int) ∧ t < bl ∧ bf t = f i ∧ nn + 1 + (t : Int) ≤ f i) := hyes
  have HN : Hid (∀ i, i < n → ¬ nn < f i → (og i).z = f i) := hno
  clear hi3 hr3 hb3 hyes hno
  go_wp2
  go_loopw [8] (fun i wr => ∃ k : Nat, k ≤ n ∧ i = .int .i64 k ∧ Ints wr a n f ∧ Reps wr ra n (built f) ∧ Ints wr ba bl bf ∧ Reps wr oa n og ∧ Below w1.heap.size w1 wr) (fun i _ => n - (intOf i).toNat)
  case atStart => exact ⟨0, Nat.zero_le _, rfl, HA3.out, HR3.out, HI3.out, HO3.out, HB3.out⟩
  case round =>
    obtain ⟨k, hk, rfl, r1, r2, r3, r4, r5⟩ := hrel
    have R1 : Hid (Ints wr a n f) := r1
    have R2 : Hid (Reps wr ra n (built f)) := r2
    have R3 : Hid (Ints wr ba bl bf) := r3
    have R4 : Hid (Reps wr oa n og) := r4
    have R5 : Hid (Below w1.heap.size w1 wr) := r5
    clear r1 r2 r3 r4 r5
    by_cases hlt : k < n
    · obtain ⟨b, off, rfl, hb, hc⟩ := R1.out (by omega)
      obtain ⟨rb, roff, rfl, hrb, hrc⟩ := R2.out (by omega)
      have hck := hc k hlt
      obtain ⟨d0, d1, d2, d3, d4⟩ := hrc k hlt
      have d4' : wr.cell? ⟨rb, roff + k * 5 + 4, none⟩ = some (.int .i64 (f k)) := d4
      have hi : (k : Int) < (n : Int) := by omega
      clear hc hrc d0 d1 d2 d3 d4
      go_wp2
      go_quiet (fail)
      go_wp2
      exact ⟨⟨k + 1, by omega, by go_num, ints_draws R1.out _, R2.out.draws _, ints_draws R3.out _, R4.out.draws _, below_drewN R5.out _⟩, by simp only [intOf]; omega⟩
    · have hi : ¬ (k : Int) < (n : Int) := by omega
      obtain rfl : k = n := by omega
      go_wp2
      go_loopw [9] (fun i wr => ∃ j : Nat, j ≤ k ∧ i = .int .i64 j ∧ Ints wr a k f ∧ Ints wr ba bl bf ∧ Reps wr oa k og ∧ Below w1.heap.size w1 wr) (fun i _ => k - (intOf i).toNat)
      case atStart => exact ⟨0, Nat.zero_le _, rfl, R1.out, R3.out, R4.out, R5.out⟩
      case round =>
        obtain ⟨j, hj, rfl, r1, r3, r4, r5⟩ := hrel
        have S1 : Hid (Ints wr a k f) := r1
        have S3 : Hid (Ints wr ba bl bf) := r3
        have S4 : Hid (Reps wr oa k og) := r4
        have S5 : Hid (Below w1.heap.size w1 wr) := r5
        clear r1 r3 r4 r5
        by_cases hlt2 : j < k
        · obtain ⟨b, off, rfl, hb, hc⟩ := S1.out (by omega)
          obtain ⟨ob, ooff, rfl, hob, hoc⟩ := S4.out (by omega)
          have hcj := hc j hlt2
          obtain ⟨d0, d1, d2, d3, d4⟩ := hoc j hlt2
          have hij : (j : Int) < (k : Int) := by omega
          clear hc hoc d0 d1 d2 d3
          by_cases hgt : nn < f j
          · obtain ⟨t, ht1, ht2, ht3, ht4⟩ := HY.out j hlt2 hgt
            obtain ⟨bb, boff, rfl, hbb, hbc⟩ := S3.out (by omega)
            have hbt := hbc t ht2
            rw [ht3] at hbt
            rw [ht1] at d4
            have hfj := HZ.out j hlt2
            have E1 : Hid (nn + 1 + (t : Int) - nn - 1 = (t : Int)) := show nn + 1 + (t : Int) - nn - 1 = (t : Int) by omega
            have hti : (t : Int) < (bl : Int) := by omega
            clear hbc ht1 ht3
            go_wp2
            rw [E1.out]
            go_quiet (fail)
            go_wp2
            exact ⟨⟨j + 1, by omega, by go_num, ints_draws S1.out _, ints_draws S3.out _, S4.out.draws _, below_drewN S5.out _⟩, by simp only [intOf]; omega⟩
          · have hz := HN.out j hlt2 (by omega)
            rw [hz] at d4
            clear hz
            go_wp2
            go_quiet (fail)
            go_wp2
            exact ⟨⟨j + 1, by omega, by go_num, ints_draws S1.out _, ints_draws S3.out _, S4.out.draws _, below_drewN S5.out _⟩, by simp only [intOf]; omega⟩
        · have hij : ¬ (j : Int) < (k : Int) := by omega
          go_wp2
          go_ret
          exact ⟨rfl, S5.out⟩
end Go.Proofs.Qxb6600476a.Reports
