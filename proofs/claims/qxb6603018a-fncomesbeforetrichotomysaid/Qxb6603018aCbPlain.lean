/-
  THE ORDER OF PATHS: the plain laws.
-/
import GoSem.Op.String
namespace Go.Proofs.Qxb6603018a.Cb

/-- One step of a path. -/
structure Stp where
  nm : ByteArray
  ix : Int
  it : Bool
  ky : Bool

theorem u8_lt (a b : UInt8) : (a < b) = (a.toNat < b.toNat) := propext UInt8.lt_iff_toNat_lt
theorem less_self (x : List UInt8) : Op.bytesLess x x = false := by
  induction x with
  | nil => rfl
  | cons a x ih => simp [Op.bytesLess, ih]
theorem less_asymm (x y : List UInt8) (h : Op.bytesLess x y = true) : Op.bytesLess y x = false := by
  induction x generalizing y with
  | nil =>
    cases y with
    | nil => rfl
    | cons b y => rfl
  | cons a x ih =>
    cases y with
    | nil => simp [Op.bytesLess] at h
    | cons b y =>
      simp only [Op.bytesLess, Bool.or_eq_true, decide_eq_true_eq, Bool.and_eq_true, beq_iff_eq, u8_lt] at h
      simp only [Op.bytesLess, Bool.or_eq_false_iff, decide_eq_false_iff_not, Bool.and_eq_false_iff, u8_lt]
      rcases h with h | ⟨rfl, h⟩
      · refine ⟨by omega, .inl ?_⟩
        have : b ≠ a := fun e => by subst e; omega
        simpa using this
      · exact ⟨by omega, .inr (ih y h)⟩
theorem less_total (x y : List UInt8) (h : x ≠ y) : Op.bytesLess x y = true ∨ Op.bytesLess y x = true := by
  induction x generalizing y with
  | nil =>
    cases y with
    | nil => exact absurd rfl h
    | cons b y => exact .inl rfl
  | cons a x ih =>
    cases y with
    | nil => exact .inr rfl
    | cons b y =>
      simp only [Op.bytesLess, Bool.or_eq_true, decide_eq_true_eq, Bool.and_eq_true, beq_iff_eq, u8_lt]
      by_cases e : a = b
      · subst e
        have hxy : x ≠ y := fun e => h (by rw [e])
        rcases ih y hxy with h1 | h1
        · exact .inl (.inr ⟨rfl, h1⟩)
        · exact .inr (.inr ⟨rfl, h1⟩)
      · have : a.toNat ≠ b.toNat := fun h1 => e (UInt8.toNat_inj.1 h1)
        by_cases h2 : a.toNat < b.toNat
        · exact .inl (.inl h2)
        · exact .inr (.inl (by omega))

/-- The two paths differ at step t. -/
def diff (A B : Nat → Stp) (t : Nat) : Bool := if (A t).it then (A t).ix != (B t).ix else !((A t).nm.toList == (B t).nm.toList)
/-- A's step t comes before B's. -/
def before (A B : Nat → Stp) (t : Nat) : Bool := if (A t).it then decide ((A t).ix < (B t).ix) else Op.bytesLess (A t).nm.toList (B t).nm.toList
/-- r is what comesBefore answers. -/
def CB (A B : Nat → Stp) (n m : Nat) (r : Bool) : Prop :=
  (∃ i, i < n ∧ i < m ∧ (∀ t, t < i → diff A B t = false) ∧ diff A B i = true ∧ r = before A B i) ∨ ((∀ t, t < n → t < m → diff A B t = false) ∧ r = decide (n < m))
/-- One path. -/
def SP (A B : Nat → Stp) (n m : Nat) : Prop := n = m ∧ ∀ t, t < n → diff A B t = false

theorem diff_comm (A B : Nat → Stp) (t : Nat) (h : (A t).it = (B t).it) : diff B A t = diff A B t := by
  unfold diff
  rw [← h]
  split
  · by_cases e : (A t).ix = (B t).ix
    · rw [e]
    · have e' : (B t).ix ≠ (A t).ix := fun h => e h.symm
      rw [bne_iff_ne.2 e, bne_iff_ne.2 e']
  · by_cases e : (A t).nm.toList = (B t).nm.toList
    · rw [e]
    · have e' : (B t).nm.toList ≠ (A t).nm.toList := fun h => e h.symm
      rw [beq_eq_false_iff_ne.2 e, beq_eq_false_iff_ne.2 e']
theorem before_one (A B : Nat → Stp) (t : Nat) (h : (A t).it = (B t).it) (hd : diff A B t = true) : (before A B t = true ∧ before B A t = false) ∨ (before A B t = false ∧ before B A t = true) := by
  unfold diff at hd
  unfold before
  rw [← h]
  cases hi : (A t).it with
  | true =>
    rw [hi] at hd
    have hne : (A t).ix ≠ (B t).ix := by simpa using hd
    by_cases hl : (A t).ix < (B t).ix
    · exact .inl ⟨by simpa using hl, by simp; omega⟩
    · exact .inr ⟨by simpa using hl, by simp; omega⟩
  | false =>
    rw [hi] at hd
    have hne : (A t).nm.toList ≠ (B t).nm.toList := by simpa using hd
    rcases less_total _ _ hne with h1 | h1
    · exact .inl ⟨by simpa using h1, by simpa using less_asymm _ _ h1⟩
    · exact .inr ⟨by simpa using less_asymm _ _ h1, by simpa using h1⟩

/-- Just one of the three holds. -/
theorem trichotomy (A B : Nat → Stp) (n m : Nat) (r1 r2 sp : Bool) (hk : ∀ t, t < n → t < m → (A t).it = (B t).it) (h1 : CB A B n m r1) (h2 : CB B A m n r2) (h3 : sp = true ↔ SP A B n m) :
    (r1 = true ∧ r2 = false ∧ sp = false) ∨ (r1 = false ∧ r2 = true ∧ sp = false) ∨ (r1 = false ∧ r2 = false ∧ sp = true) := by
  rcases h1 with ⟨i, hin, him, hpre, hd, rfl⟩ | ⟨hall, rfl⟩
  · have hsp : sp = false := by
      cases sp with
      | false => rfl
      | true =>
        have := (h3.1 rfl).2 i hin
        rw [hd] at this
        exact absurd this (by decide)
    rcases h2 with ⟨j, hjm, hjn, hpre', hd', rfl⟩ | ⟨hall', _⟩
    · have hij : i = j := by
        rcases Nat.lt_trichotomy i j with h | h | h
        · have := hpre' i h
          rw [diff_comm A B i (hk i hin him), hd] at this
          exact absurd this (by decide)
        · exact h
        · have := hpre j h
          rw [← diff_comm A B j (hk j hjn hjm), hd'] at this
          exact absurd this (by decide)
      subst hij
      rcases before_one A B i (hk i hin him) hd with ⟨a, b⟩ | ⟨a, b⟩
      · exact .inl ⟨a, b, hsp⟩
      · exact .inr (.inl ⟨a, b, hsp⟩)
    · have := hall' i him hin
      rw [diff_comm A B i (hk i hin him), hd] at this
      exact absurd this (by decide)
  · rcases h2 with ⟨j, hjm, hjn, hpre', hd', rfl⟩ | ⟨hall', rfl⟩
    · have := hall j hjn hjm
      rw [← diff_comm A B j (hk j hjn hjm), hd'] at this
      exact absurd this (by decide)
    · rcases Nat.lt_trichotomy n m with h | h | h
      · refine .inl ⟨by simpa using h, by simp; omega, ?_⟩
        cases sp with
        | false => rfl
        | true => have := (h3.1 rfl).1; omega
      · subst h
        refine .inr (.inr ⟨by simp, by simp, h3.2 ⟨rfl, fun t ht => hall t ht ht⟩⟩)
      · refine .inr (.inl ⟨by simp; omega, by simpa using h, ?_⟩)
        cases sp with
        | false => rfl
        | true => have := (h3.1 rfl).1; omega
end Go.Proofs.Qxb6603018a.Cb
