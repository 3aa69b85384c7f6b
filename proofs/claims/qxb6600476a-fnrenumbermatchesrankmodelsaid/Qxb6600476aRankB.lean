/-
  THE WALK OF FnRenumberMatchesRankModel.
-/
import Derived.Test.Qxb6600476aRankA
import Derived.LaidEqlPtr
import Derived.Lib.Builder
namespace Go.Proofs.Qxb6600476a.Reports
open Go.RowKit Excess Ren

/-- The report behind renumber: its process, op and value are kept. -/
theorem renum_built_yes (nn : Int) (bs : List Int) (f : Nat → Int) (k : Nat) (h : nn < f k) : renum nn bs (built f k) = { built f k with z := nn + 1 + (place bs (f k) : Int) } := renum_yes nn bs (built f k) h
theorem renum_built_no (nn : Int) (bs : List Int) (f : Nat → Int) (k : Nat) (h : ¬ nn < f k) : renum nn bs (built f k) = built f k := renum_no nn bs (built f k) h

theorem below2 (w : World) (o1 o2 : Obj) : Below w.heap.size w ((w.alloc o1).alloc o2) :=
  ((Below.refl _ w).alloc (Nat.le_refl _) o1).alloc (by simp) o2

def Fresh (w : World) (ra : Option Addr) : Prop := ∀ x, ra = some x → ∃ cur, w.heap[x.block]? = some (.cells cur 41 (0, 0))
theorem Fresh.below {w w' : World} {ra : Option Addr} (h : Fresh w ra) (hb : Below w.heap.size w w') : Fresh w' ra := fun x hx => by
  obtain ⟨cur, hc⟩ := h x hx
  exact ⟨cur, (hb.block x.block (Array.getElem?_eq_some_iff.1 hc).1).trans hc⟩

set_option maxRecDepth 100000 in
set_option maxHeartbeats 4000000 in
theorem rank_short (a : Option Addr) (n cap : Nat) (f : Nat → Int) (nn : Int) (w : World) (hn : n ≤ 4096) (h0 : a = none → n = 0 ∧ cap = 0) (hA : Ints w a n f) (hn0 : -9223372036854775808 ≤ nn) (hn1 : nn ≤ 9223372036854775807) (hz : ∀ i, i < n → f i ≤ 9223372036854775807) :
    Calls Try.prog 6 #[.slice a n cap, .int .i64 nn] w fun e w' => e = .returned (.bool true) ∧ Below w.heap.size w w' := by
  have HA : Hid (Ints w a n f) := hA
  have H0 : Hid (a = none → n = 0 ∧ cap = 0) := h0
  have HZ : Hid (∀ i, i < n → f i ≤ 9223372036854775807) := hz
  clear hA h0 hz
  go_enter Try.func6, Try.ntmps6
  go_wp2_with fail
  refine (zz15 _ _ _ _ _ hn).mono ?_
  rintro e w1 ⟨rfl, rfl⟩
  go_wp2_with fail
  refine (buildReports_any a n cap f w1 hn H0.out HA.out).mono ?_
  rintro e w2 ⟨ra, rfl, hr2, hb2, hp2⟩
  have HR2 : Hid (Reps w2 ra n (built f)) := hr2
  have HA2 : Hid (Ints w2 a n f) := HA.out.below hb2
  have HB2 : Hid (Below w1.heap.size w1 w2) := hb2
  have HP2 : Hid (Fresh w2 ra) := hp2
  clear hr2 hb2 hp2
  go_wp2_with fail
  refine (buildReports_any a n cap f w2 hn H0.out HA2.out).mono ?_
  rintro e w3 ⟨wa, rfl, hr3, hb3, _⟩
  have HW3 : Hid (Reps w3 wa n (built f)) := hr3
  have HR3 : Hid (Reps w3 ra n (built f)) := HR2.out.below hb3
  have HA3 : Hid (Ints w3 a n f) := HA2.out.below hb3
  have HB3 : Hid (Below w1.heap.size w1 w3) := HB2.out.trans (hb3.mono HB2.out.size)
  have HP3 : Hid (Fresh w3 ra) := HP2.out.below hb3
  clear hr3 hb3
  go_wp2_with fail
  refine (zzrenumber_any ra n n (built f) nn w3 hn HR3.out hn0 hn1 HZ.out).mono ?_
  rintro e w4 ⟨hb4, h⟩
  have HW4 : Hid (Reps w4 wa n (built f)) := HW3.out.below hb4
  have HR4 : Hid (Reps w4 ra n (built f)) := HR3.out.below hb4
  have HA4 : Hid (Ints w4 a n f) := HA3.out.below hb4
  have HB4 : Hid (Below w1.heap.size w1 w4) := HB3.out.trans (hb4.mono HB3.out.size)
  have HP4 : Hid (Fresh w4 ra) := HP3.out.below hb4
  clear hb4
  have HCA : Hid ((firsts f (fun y => decide (nn < y)) n).length = (bsOf nn f n).length) := count_all nn f n
  rcases h with ⟨hle, rfl⟩ | hr
  · have HBS : Hid (bsOf nn f n = []) := bs_nil nn f n hle
    have HO4 : Hid (Reps w4 ra n (fun i => renum nn (bsOf nn f n) (built f i))) := fun h => by
      obtain ⟨b, off, e, hb, hc⟩ := HR4.out h
      exact ⟨b, off, e, hb, fun i hi => by show Cells5 w4 b (off + i * 5) (renum nn (bsOf nn f n) (built f i)); rw [renum_built_no nn _ f i (by have := hle i hi; simp only [built] at this; omega)]; exact hc i hi⟩
    clear hle
    go_wp2_with fail
    refine (firstOccurrences_any a n cap f w4 hn HA4.out).mono ?_
    rintro e w5 ⟨fa, rfl, hf5, hb5⟩
    have HF5 : Hid (Bools w5 fa n (fst f)) := hf5
    have HW5 : Hid (Reps w5 wa n (built f)) := HW4.out.below hb5
    have HR5 : Hid (Reps w5 ra n (built f)) := HR4.out.below hb5
    have HA5 : Hid (Ints w5 a n f) := HA4.out.below hb5
    have HB5 : Hid (Below w1.heap.size w1 w5) := HB4.out.trans (hb5.mono HB4.out.size)
    have HO5 : Hid (Reps w5 ra n (fun i => renum nn (bsOf nn f n) (built f i))) := HO4.out.below hb5
    have HP5 : Hid (Fresh w5 ra) := HP4.out.below hb5
    clear hf5 hb5
    go_wp2
    go_loop [10, 11] (fun m i => ∃ k : Nat, k ≤ n ∧ i = .int .i64 k ∧ m = .int .i64 ((firsts f (fun y => decide (nn < y)) k).length : Int)) (fun _ i => n - (intOf i).toNat)
    case atStart => exact ⟨0, Nat.zero_le _, rfl, rfl⟩
    case round =>
      obtain ⟨k, hk, rfl, rfl⟩ := hrel
      have hfl := firsts_le f (fun y => decide (nn < y)) k
      by_cases hlt : k < n
      · obtain ⟨b, off, rfl, hb, hc⟩ := HA5.out (by omega)
        obtain ⟨fb, foff, rfl, hfb, hfc⟩ := HF5.out (by omega)
        have hck := hc k hlt
        have hfk := hfc k hlt
        have hi : (k : Int) < (n : Int) := by omega
        clear hc hfc
        cases hfst : fst f k with
        | false =>
          rw [hfst] at hfk
          have H1 : Hid (fst f k = false) := hfst
          clear hfst
          go_wp2
          go_round
          case rel => exact ⟨k + 1, by omega, by go_num, by rw [firsts_no1 H1.out]⟩
          case measure => simp [intOf]; omega
        | true =>
          rw [hfst] at hfk
          have H1 : Hid (fst f k = true) := hfst
          clear hfst
          by_cases hgt : nn < f k
          · go_wp2
            go_round
            case rel => exact ⟨k + 1, by omega, by go_num, by rw [firsts_yes H1.out (by simpa using hgt)]; go_num⟩
            case measure => simp [intOf]; omega
          · go_wp2
            go_round
            case rel => exact ⟨k + 1, by omega, by go_num, by rw [firsts_no2 (by simpa using hgt)]⟩
            case measure => simp [intOf]; omega
      · have hi : ¬ (k : Int) < (n : Int) := by omega
        obtain rfl : k = n := by omega
        rw [HCA.out]
        have hl0 : (bsOf nn f k).length = 0 := by rw [HBS.out]; rfl
        rw [hl0]
        clear hl0
        have hnb := fun w => run_neq_slice_nil_any (P := Try.prog) w 29 3 none 0 0 0 0 Try.underlying29
        have hnr := fun w => Lib.run_eql_slice_nil (P := Try.prog) w 31 41 ra k k 0 0 Try.underlying31
        by_cases hk0 : k = 0
        · subst hk0
          go_wp2
          go_quiet (fail)
          go_wp2
          refine wp_loop_rounds 1 ?_
          rw [rounds_succ]
          go_wp2
          refine wp_loop_rounds 1 ?_
          rw [rounds_succ]
          go_wp2
          go_ret
          exact ⟨rfl, below_drewN HB5.out _⟩
        · obtain ⟨rb, roff, rfl, hrb, hrc⟩ := HR5.out (by omega)
          have hkp : (0 : Int) < (k : Int) := by omega
          have hkq : 0 < k := by omega
          have hkd : decide ((0 : Int) < (k : Int)) = true := by simpa using hkq
          obtain ⟨i41, ki, _, _, _⟩ := info_parts info41
          have hps := fun w => Lib.run_neq_ptr_same (P := Try.prog) w ⟨rb, roff, none⟩ Try.underlying37 ki
          clear hrc
          go_wp2
          go_quiet (fail)
          go_wp2
          refine wp_loop_rounds 1 ?_
          rw [rounds_succ]
          go_wp2
          clear HR5 HP5
          go_loopw [13] (fun i wr => ∃ q : Nat, q ≤ k ∧ i = .int .i64 q ∧ Ints wr a k f ∧ Reps wr (some ⟨rb, roff, none⟩) k (fun i => renum nn (bsOf nn f k) (built f i)) ∧ Reps wr wa k (built f) ∧ Bools wr fa k (fst f) ∧ Below w1.heap.size w1 wr) (fun i _ => k - (intOf i).toNat)
          case atStart => exact ⟨0, Nat.zero_le _, rfl, ints_draws HA5.out _, HO5.out.draws _, HW5.out.draws _, HF5.out.draws _, below_drewN HB5.out _⟩
          case round =>
            obtain ⟨q, hq, rfl, r1, r2, r3, r4, r5⟩ := hrel
            have R1 : Hid (Ints wr a k f) := r1
            have R2 : Hid (Reps wr (some ⟨rb, roff, none⟩) k (fun i => renum nn (bsOf nn f k) (built f i))) := r2
            have R3 : Hid (Reps wr wa k (built f)) := r3
            have R4 : Hid (Bools wr fa k (fst f)) := r4
            have R5 : Hid (Below w1.heap.size w1 wr) := r5
            clear r1 r2 r3 r4 r5
            by_cases hlt : q < k
            · obtain ⟨b, off, rfl, hb, hc⟩ := R1.out (by omega)
              obtain ⟨ob1, ooff, e1, hob1, hoc⟩ := R2.out (by omega)
              obtain ⟨rfl, rfl⟩ : rb = ob1 ∧ roff = ooff := by simpa using e1
              obtain ⟨wb, woff, rfl, hwb, hwc⟩ := R3.out (by omega)
              have hcq := hc q hlt
              have hiq : (q : Int) < (k : Int) := by omega
              obtain ⟨d0, d1, d2, d3, d4⟩ := hwc q hlt
              have d4' : wr.cell? ⟨wb, woff + q * 5 + 4, none⟩ = some (.int .i64 (f q)) := d4
              have hoq : Cells5 wr rb (roff + q * 5) (renum nn (bsOf nn f k) (built f q)) := hoc q hlt
              have HC : Hid (∀ i, i < k → wr.cell? ⟨b, off + i, none⟩ = some (.int .i64 (f i))) := hc
              clear hc hoc hwc
              by_cases hgt : nn < f q
              · rw [renum_built_yes nn _ f q hgt] at hoq
                obtain ⟨o0, o1, o2, o3, o4⟩ := hoq
                have hpb := place_bound (bsOf nn f k) (f q) nn (bs_strict nn f k) (fun y hy => ((mem_bs nn f k y).1 hy).1) hgt
                have hfq := HZ.out q hlt
                have HRK : Hid ((firsts f (fun y => decide (nn < y) && decide (y < f q)) k).length = place (bsOf nn f k) (f q)) := count_rank nn f k (f q)
                simp only at o0 o1 o2 o3 o4
                generalize hp : (built f q).p = p at *
                generalize ho : (built f q).o = oo at *
                generalize hx : (built f q).x = xx at *
                generalize hs : (built f q).s = ss at *
                clear hp ho hx hs d4
                generalize place (bsOf nn f k) (f q) = pl at *
                go_wp2
                go_loopw [17, 18] (fun r i wq => ∃ j : Nat, j ≤ k ∧ i = .int .i64 j ∧ r = .int .i64 ((firsts f (fun y => decide (nn < y) && decide (y < f q)) j).length : Int) ∧ wq.cell? ⟨wr.heap.size, 4, none⟩ = some (.int .i64 (nn + 1 + (pl : Int))) ∧ Below wr.heap.size wr wq) (fun _ i _ => k - (intOf i).toNat)
                case atStart => exact ⟨0, Nat.zero_le _, rfl, rfl, by simp, below2 _ _ _⟩
                case round =>
                  obtain ⟨j, hj, rfl, rfl, hbox, hbq⟩ := hrel
                  have HQ : Hid (Below _ _ wr) := hbq
                  clear hbq d0 d1 d2 d3 d4' o0 o1 o2 o3 o4 hcq
                  have hfl := firsts_le f (fun y => decide (nn < y) && decide (y < f q)) j
                  by_cases hltj : j < k
                  · have hcj := (HQ.out.cell (p := ⟨b, off + j, none⟩) hb).trans (HC.out j hltj)
                    have hcq := (HQ.out.cell (p := ⟨b, off + q, none⟩) hb).trans (HC.out q hlt)
                    obtain ⟨fb, foff, rfl, hfb, hfc⟩ := (R4.out.below HQ.out) (by omega)
                    have hfj := hfc j hltj
                    have hij : (j : Int) < (k : Int) := by omega
                    clear hfc
                    cases hfst : fst f j with
                    | false =>
                      rw [hfst] at hfj
                      have H1 : Hid (fst f j = false) := hfst
                      clear hfst
                      go_wp2
                      go_quiet (fail)
                      go_wp2
                      exact ⟨⟨j + 1, by omega, by go_num, by rw [firsts_no1 H1.out], hbox, below_drewN HQ.out _⟩, by simp only [intOf]; omega⟩
                    | true =>
                      rw [hfst] at hfj
                      have H1 : Hid (fst f j = true) := hfst
                      clear hfst
                      by_cases g1 : nn < f j
                      · by_cases g2 : f j < f q
                        · go_wp2
                          go_quiet (fail)
                          go_wp2
                          exact ⟨⟨j + 1, by omega, by go_num, by rw [firsts_yes H1.out (by simp [g1, g2])]; go_num, hbox, below_drewN HQ.out _⟩, by simp only [intOf]; omega⟩
                        · have g2' : decide (f j < f q) = false := by simpa using g2
                          go_wp2
                          go_quiet (fail)
                          go_wp2
                          exact ⟨⟨j + 1, by omega, by go_num, by rw [firsts_no2 (by simp [g2'])], hbox, below_drewN HQ.out _⟩, by simp only [intOf]; omega⟩
                      · have g1' : decide (nn < f j) = false := by simpa using g1
                        go_wp2
                        go_quiet (fail)
                        go_wp2
                        exact ⟨⟨j + 1, by omega, by go_num, by rw [firsts_no2 (by simp [g1'])], hbox, below_drewN HQ.out _⟩, by simp only [intOf]; omega⟩
                  · have hij : ¬ (j : Int) < (k : Int) := by omega
                    obtain rfl : j = k := by omega
                    rw [HRK.out]
                    go_wp2
                    exact ⟨⟨q + 1, by omega, by go_num, R1.out.below HQ.out, R2.out.below HQ.out, R3.out.below HQ.out, R4.out.below HQ.out, R5.out.trans (HQ.out.mono R5.out.size)⟩, by simp only [intOf]; omega⟩
              · rw [renum_built_no nn _ f q hgt] at hoq
                obtain ⟨o0, o1, o2, o3, o4⟩ := hoq
                have o4' : wr.cell? ⟨rb, roff + q * 5 + 4, none⟩ = some (.int .i64 (f q)) := o4
                generalize hp : (built f q).p = p at *
                generalize ho : (built f q).o = oo at *
                generalize hx : (built f q).x = xx at *
                generalize hs : (built f q).s = ss at *
                clear hp ho hx hs d4 o4
                go_wp2
                exact ⟨⟨q + 1, by omega, by go_num, R1.out.below (below2 _ _ _), R2.out.below (below2 _ _ _), R3.out.below (below2 _ _ _), R4.out.below (below2 _ _ _), R5.out.trans ((below2 _ _ _).mono R5.out.size)⟩, by simp only [intOf]; omega⟩
            · have hiq : ¬ (q : Int) < (k : Int) := by omega
              go_wp2
              go_ret
              exact ⟨rfl, R5.out⟩
  · have hr' : RenRes w3 w4 e n (built f) nn (bsOf nn f n) := hr
    clear hr
    obtain ⟨hne, bb, bc, ob, oc, rfl, hob, hbb4, hob4, hbc4, hcells, hfr⟩ := hr'
    have HI4 : Hid (Ints w4 (some ⟨bb, 0, none⟩) (bsOf nn f n).length (fun j => (bsOf nn f n).getD j 0)) := fun _ => ⟨bb, 0, rfl, hbb4, fun i hi => by rw [Nat.zero_add]; exact hbc4 i hi⟩
    have HO4 : Hid (Reps w4 (some ⟨ob, 0, none⟩) n (fun i => renum nn (bsOf nn f n) (built f i))) := fun _ => ⟨ob, 0, rfl, hob4, fun i hi => by rw [Nat.zero_add]; exact hcells i hi⟩
    have HQ4 : Hid (Fresh w4 (some ⟨ob, 0, none⟩)) := fun x hx => by cases hx; exact hfr
    have HNE : Hid (bsOf nn f n ≠ []) := hne
    have HAP : Hid (∀ x, ra = some x → x.block ≠ ob) := fun x hx h => by
      obtain ⟨cur, hc⟩ := HP3.out x hx
      have := (Array.getElem?_eq_some_iff.1 hc).1
      omega
    clear hne hbc4 hcells hfr hob hbb4 hob4
    go_wp2_with fail
    refine (firstOccurrences_any a n cap f w4 hn HA4.out).mono ?_
    rintro e w5 ⟨fa, rfl, hf5, hb5⟩
    have HF5 : Hid (Bools w5 fa n (fst f)) := hf5
    have HW5 : Hid (Reps w5 wa n (built f)) := HW4.out.below hb5
    have HR5 : Hid (Reps w5 ra n (built f)) := HR4.out.below hb5
    have HA5 : Hid (Ints w5 a n f) := HA4.out.below hb5
    have HB5 : Hid (Below w1.heap.size w1 w5) := HB4.out.trans (hb5.mono HB4.out.size)
    have HO5 : Hid (Reps w5 (some ⟨ob, 0, none⟩) n (fun i => renum nn (bsOf nn f n) (built f i))) := HO4.out.below hb5
    have HP5 : Hid (Fresh w5 ra) := HP4.out.below hb5
    have HI5 : Hid (Ints w5 (some ⟨bb, 0, none⟩) (bsOf nn f n).length (fun j => (bsOf nn f n).getD j 0)) := HI4.out.below hb5
    have HQ5 : Hid (Fresh w5 (some ⟨ob, 0, none⟩)) := HQ4.out.below hb5
    clear hf5 hb5
    go_wp2
    go_loop [10, 11] (fun m i => ∃ k : Nat, k ≤ n ∧ i = .int .i64 k ∧ m = .int .i64 ((firsts f (fun y => decide (nn < y)) k).length : Int)) (fun _ i => n - (intOf i).toNat)
    case atStart => exact ⟨0, Nat.zero_le _, rfl, rfl⟩
    case round =>
      obtain ⟨k, hk, rfl, rfl⟩ := hrel
      have hfl := firsts_le f (fun y => decide (nn < y)) k
      by_cases hlt : k < n
      · obtain ⟨b, off, rfl, hb, hc⟩ := HA5.out (by omega)
        obtain ⟨fb, foff, rfl, hfb, hfc⟩ := HF5.out (by omega)
        have hck := hc k hlt
        have hfk := hfc k hlt
        have hi : (k : Int) < (n : Int) := by omega
        clear hc hfc
        cases hfst : fst f k with
        | false =>
          rw [hfst] at hfk
          have H1 : Hid (fst f k = false) := hfst
          clear hfst
          go_wp2
          go_round
          case rel => exact ⟨k + 1, by omega, by go_num, by rw [firsts_no1 H1.out]⟩
          case measure => simp [intOf]; omega
        | true =>
          rw [hfst] at hfk
          have H1 : Hid (fst f k = true) := hfst
          clear hfst
          by_cases hgt : nn < f k
          · go_wp2
            go_round
            case rel => exact ⟨k + 1, by omega, by go_num, by rw [firsts_yes H1.out (by simpa using hgt)]; go_num⟩
            case measure => simp [intOf]; omega
          · go_wp2
            go_round
            case rel => exact ⟨k + 1, by omega, by go_num, by rw [firsts_no2 (by simpa using hgt)]⟩
            case measure => simp [intOf]; omega
      · have hi : ¬ (k : Int) < (n : Int) := by omega
        obtain rfl : k = n := by omega
        rw [HCA.out]
        have HKP : Hid (0 < k) := by
          obtain ⟨x, hx⟩ := List.exists_mem_of_ne_nil _ HNE.out
          obtain ⟨_, i, hi, _⟩ := (mem_bs nn f k x).1 hx
          exact Nat.lt_of_le_of_lt (Nat.zero_le _) hi
        have hl0 : 0 < (bsOf nn f k).length := List.length_pos_iff.2 HNE.out
        have hbl := bs_len nn f k
        have HBM : Hid (∀ t, t < (bsOf nn f k).length → nn < (bsOf nn f k).getD t 0 ∧ ∃ i, i < k ∧ f i = (bsOf nn f k).getD t 0) := fun t ht => bs_mem nn f k t ht
        have HBT : Hid (∀ t, t + 1 < (bsOf nn f k).length → (bsOf nn f k).getD t 0 < (bsOf nn f k).getD (t + 1) 0) := fun t ht => bs_step nn f k (t + 1) (by omega) ht
        obtain ⟨rb, roff, rfl, hrb, hrc⟩ := HR5.out HKP.out
        clear hrc
        obtain ⟨i41, ki, _, k5, _⟩ := info_parts info41
        obtain ⟨cu1, hcu1⟩ := HQ5.out _ rfl
        obtain ⟨cu2, hcu2⟩ := HP5.out _ rfl
        have hapart : (⟨ob, 0, none⟩ : Addr) ≠ ⟨rb, roff, none⟩ := fun h => HAP.out _ rfl (congrArg Addr.block h).symm
        have hpo := fun q => run_eql_ptr_other (P := Try.prog) (w5.drewN q) (a := ⟨ob, 0, none⟩) (b := ⟨rb, roff, none⟩) Try.underlying37 ki (by omega) hapart hcu1 hcu2
        have hkp : (0 : Int) < (k : Int) := by have := HKP.out; omega
        have hkq : 0 < k := HKP.out
        generalize hbln : (bsOf nn f k).length = bl at *
        have HBL : Hid ((bsOf nn f k).length = bl) := hbln
        clear hbln hcu1 hcu2 hapart
        have hm0 : ((bl : Int) == 0) = false := by simp; omega
        go_wp2
        go_quiet (fail)
        go_wp2
        clear hpo
        go_loopw [12] (fun i wr => ∃ t : Nat, t ≤ bl ∧ i = .int .i64 t ∧ Below w5.heap.size w5 wr) (fun i _ => bl - (intOf i).toNat)
        case atStart => exact ⟨0, Nat.zero_le _, rfl, below_drewN (Below.refl _ _) _⟩
        case round =>
          obtain ⟨t, ht, rfl, hbt⟩ := hrel
          have HT : Hid (Below w5.heap.size w5 wr) := hbt
          clear hbt
          by_cases htl : t < bl
          · obtain ⟨bb1, boff1, e1, hbb, hbc⟩ := HI5.out (by omega)
            obtain ⟨rfl, rfl⟩ : bb = bb1 ∧ 0 = boff1 := by simpa using e1
            have ct : wr.cell? ⟨bb, t, none⟩ = some (.int .i64 ((bsOf nn f k).getD t 0)) := by
              have := (HT.out.cell (p := ⟨bb, 0 + t, none⟩) hbb).trans (hbc t htl)
              rw [Nat.zero_add] at this
              exact this
            obtain ⟨hgt, hex⟩ := HBM.out t htl
            have HEX : Hid (∃ i, i < k ∧ f i = (bsOf nn f k).getD t 0) := hex
            have hti : (t : Int) < (bl : Int) := by omega
            have hng : ¬ (bsOf nn f k).getD t 0 ≤ nn := by omega
            cases t with
            | zero =>
              clear hbc e1 hex
              generalize (bsOf nn f k).getD 0 0 = X at *
              go_wp2
              go_quiet (fail)
              go_wp2_with fail
              refine (containsInt_yes a k cap f X _ hn (ints_draws (HA5.out.below HT.out) _) HEX.out).mono ?_
              rintro e w9 ⟨rfl, rfl⟩
              go_wp2
              exact ⟨⟨0 + 1, by omega, by go_num, below_drewN HT.out _⟩, by simp only [intOf]; omega⟩
            | succ t =>
              have ct1 : wr.cell? ⟨bb, t, none⟩ = some (.int .i64 ((bsOf nn f k).getD t 0)) := by
                have := (HT.out.cell (p := ⟨bb, 0 + t, none⟩) hbb).trans (hbc t (by omega))
                rw [Nat.zero_add] at this
                exact this
              have hlt1 := HBT.out t htl
              clear hbc e1 hex
              generalize (bsOf nn f k).getD (t + 1) 0 = X at *
              generalize (bsOf nn f k).getD t 0 = Y at *
              have hgd : decide ((0 : Int) < (t : Int) + 1) = true := decide_eq_true (by omega)
              have hgi : (0 : Int) < (t : Int) + 1 := by omega
              go_wp2
              go_quiet (fail)
              go_wp2_with fail
              refine (containsInt_yes a k cap f X _ hn (ints_draws (HA5.out.below HT.out) _) HEX.out).mono ?_
              rintro e w9 ⟨rfl, rfl⟩
              go_wp2
              exact ⟨⟨t + 1 + 1, by omega, by go_num, below_drewN HT.out _⟩, by simp only [intOf]; omega⟩
          · have hti : ¬ (t : Int) < (bl : Int) := by omega
            go_wp2
            clear HR5 HP5
            go_loopw [13] (fun i wr => ∃ q : Nat, q ≤ k ∧ i = .int .i64 q ∧ Ints wr a k f ∧ Reps wr (some ⟨ob, 0, none⟩) k (fun i => renum nn (bsOf nn f k) (built f i)) ∧ Reps wr wa k (built f) ∧ Bools wr fa k (fst f) ∧ Below w1.heap.size w1 wr) (fun i _ => k - (intOf i).toNat)
            case atStart => exact ⟨0, Nat.zero_le _, rfl, HA5.out.below HT.out, HO5.out.below HT.out, HW5.out.below HT.out, HF5.out.below HT.out, HB5.out.trans (HT.out.mono HB5.out.size)⟩
            case round =>
              obtain ⟨q, hq, rfl, r1, r2, r3, r4, r5⟩ := hrel
              have R1 : Hid (Ints wr a k f) := r1
              have R2 : Hid (Reps wr (some ⟨ob, 0, none⟩) k (fun i => renum nn (bsOf nn f k) (built f i))) := r2
              have R3 : Hid (Reps wr wa k (built f)) := r3
              have R4 : Hid (Bools wr fa k (fst f)) := r4
              have R5 : Hid (Below w1.heap.size w1 wr) := r5
              clear r1 r2 r3 r4 r5
              by_cases hlt : q < k
              · obtain ⟨b, off, rfl, hb, hc⟩ := R1.out (by omega)
                obtain ⟨ob1, ooff, e1, hob1, hoc⟩ := R2.out (by omega)
                obtain ⟨rfl, rfl⟩ : ob = ob1 ∧ 0 = ooff := by simpa using e1
                obtain ⟨wb, woff, rfl, hwb, hwc⟩ := R3.out (by omega)
                have hcq := hc q hlt
                have hiq : (q : Int) < (k : Int) := by omega
                obtain ⟨d0, d1, d2, d3, d4⟩ := hwc q hlt
                have d4' : wr.cell? ⟨wb, woff + q * 5 + 4, none⟩ = some (.int .i64 (f q)) := d4
                have hoq : Cells5 wr ob (q * 5) (renum nn (bsOf nn f k) (built f q)) := by have := hoc q hlt; rw [Nat.zero_add] at this; exact this
                have HC : Hid (∀ i, i < k → wr.cell? ⟨b, off + i, none⟩ = some (.int .i64 (f i))) := hc
                clear hc hoc hwc
                by_cases hgt : nn < f q
                · rw [renum_built_yes nn _ f q hgt] at hoq
                  obtain ⟨o0, o1, o2, o3, o4⟩ := hoq
                  have hpb := place_bound (bsOf nn f k) (f q) nn (bs_strict nn f k) (fun y hy => ((mem_bs nn f k y).1 hy).1) hgt
                  have hfq := HZ.out q hlt
                  have HRK : Hid ((firsts f (fun y => decide (nn < y) && decide (y < f q)) k).length = place (bsOf nn f k) (f q)) := count_rank nn f k (f q)
                  simp only at o0 o1 o2 o3 o4
                  generalize hp : (built f q).p = p at *
                  generalize ho : (built f q).o = oo at *
                  generalize hx : (built f q).x = xx at *
                  generalize hs : (built f q).s = ss at *
                  clear hp ho hx hs d4
                  generalize place (bsOf nn f k) (f q) = pl at *
                  go_wp2
                  go_loopw [17, 18] (fun r i wq => ∃ j : Nat, j ≤ k ∧ i = .int .i64 j ∧ r = .int .i64 ((firsts f (fun y => decide (nn < y) && decide (y < f q)) j).length : Int) ∧ wq.cell? ⟨wr.heap.size, 4, none⟩ = some (.int .i64 (nn + 1 + (pl : Int))) ∧ Below wr.heap.size wr wq) (fun _ i _ => k - (intOf i).toNat)
                  case atStart => exact ⟨0, Nat.zero_le _, rfl, rfl, by simp, below2 _ _ _⟩
                  case round =>
                    obtain ⟨j, hj, rfl, rfl, hbox, hbq⟩ := hrel
                    have HQ : Hid (Below _ _ wr) := hbq
                    clear hbq d0 d1 d2 d3 d4' o0 o1 o2 o3 o4 hcq
                    have hfl := firsts_le f (fun y => decide (nn < y) && decide (y < f q)) j
                    by_cases hltj : j < k
                    · have hcj := (HQ.out.cell (p := ⟨b, off + j, none⟩) hb).trans (HC.out j hltj)
                      have hcq := (HQ.out.cell (p := ⟨b, off + q, none⟩) hb).trans (HC.out q hlt)
                      obtain ⟨fb, foff, rfl, hfb, hfc⟩ := (R4.out.below HQ.out) (by omega)
                      have hfj := hfc j hltj
                      have hij : (j : Int) < (k : Int) := by omega
                      clear hfc
                      cases hfst : fst f j with
                      | false =>
                        rw [hfst] at hfj
                        have H1 : Hid (fst f j = false) := hfst
                        clear hfst
                        go_wp2
                        go_quiet (fail)
                        go_wp2
                        exact ⟨⟨j + 1, by omega, by go_num, by rw [firsts_no1 H1.out], hbox, below_drewN HQ.out _⟩, by simp only [intOf]; omega⟩
                      | true =>
                        rw [hfst] at hfj
                        have H1 : Hid (fst f j = true) := hfst
                        clear hfst
                        by_cases g1 : nn < f j
                        · by_cases g2 : f j < f q
                          · go_wp2
                            go_quiet (fail)
                            go_wp2
                            exact ⟨⟨j + 1, by omega, by go_num, by rw [firsts_yes H1.out (by simp [g1, g2])]; go_num, hbox, below_drewN HQ.out _⟩, by simp only [intOf]; omega⟩
                          · have g2' : decide (f j < f q) = false := by simpa using g2
                            go_wp2
                            go_quiet (fail)
                            go_wp2
                            exact ⟨⟨j + 1, by omega, by go_num, by rw [firsts_no2 (by simp [g2'])], hbox, below_drewN HQ.out _⟩, by simp only [intOf]; omega⟩
                        · have g1' : decide (nn < f j) = false := by simpa using g1
                          go_wp2
                          go_quiet (fail)
                          go_wp2
                          exact ⟨⟨j + 1, by omega, by go_num, by rw [firsts_no2 (by simp [g1'])], hbox, below_drewN HQ.out _⟩, by simp only [intOf]; omega⟩
                    · have hij : ¬ (j : Int) < (k : Int) := by omega
                      obtain rfl : j = k := by omega
                      rw [HRK.out]
                      go_wp2
                      exact ⟨⟨q + 1, by omega, by go_num, R1.out.below HQ.out, R2.out.below HQ.out, R3.out.below HQ.out, R4.out.below HQ.out, R5.out.trans (HQ.out.mono R5.out.size)⟩, by simp only [intOf]; omega⟩
                · rw [renum_built_no nn _ f q hgt] at hoq
                  obtain ⟨o0, o1, o2, o3, o4⟩ := hoq
                  have o4' : wr.cell? ⟨ob, q * 5 + 4, none⟩ = some (.int .i64 (f q)) := o4
                  generalize hp : (built f q).p = p at *
                  generalize ho : (built f q).o = oo at *
                  generalize hx : (built f q).x = xx at *
                  generalize hs : (built f q).s = ss at *
                  clear hp ho hx hs d4 o4
                  go_wp2
                  exact ⟨⟨q + 1, by omega, by go_num, R1.out.below (below2 _ _ _), R2.out.below (below2 _ _ _), R3.out.below (below2 _ _ _), R4.out.below (below2 _ _ _), R5.out.trans ((below2 _ _ _).mono R5.out.size)⟩, by simp only [intOf]; omega⟩
              · have hiq : ¬ (q : Int) < (k : Int) := by omega
                go_wp2
                go_ret
                exact ⟨rfl, R5.out⟩
end Go.Proofs.Qxb6600476a.Reports
