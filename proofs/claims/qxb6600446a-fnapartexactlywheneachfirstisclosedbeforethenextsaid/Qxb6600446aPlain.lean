import Derived.Laws.Bits64b
import Derived.Lib.TrailingZeros
namespace Go.Proofs.Qxb6600446a

/-! ### the scan, with no Go in sight -/
/-- the state when the bytes below p are read: none: a first byte came while one was open; some o: whether one is open -/
def scan (f l : Nat → Bool) : Nat → Option Bool
  | 0 => some false
  | p + 1 => match scan f l p with
    | none => none
    | some o => if f p then (if o then none else some (!l p)) else some (o && !l p)

theorem scan_none {f l : Nat → Bool} {a b : Nat} (h : scan f l a = none) (hab : a ≤ b) : scan f l b = none := by
  induction b with
  | zero => obtain rfl : a = 0 := by omega
            exact h
  | succ b ih =>
    rcases Nat.lt_or_ge a (b + 1) with h1 | h1
    · rw [scan, ih (by omega)]
    · obtain rfl : a = b + 1 := by omega
      exact h

theorem scan_skip {f l : Nat → Bool} {a b : Nat} (hab : a ≤ b) (hf : ∀ p, a ≤ p → p < b → f p = false) (hl : ∀ p, a ≤ p → p < b → l p = false) : scan f l b = scan f l a := by
  induction b with
  | zero => obtain rfl : a = 0 := by omega
            rfl
  | succ b ih =>
    rcases Nat.lt_or_ge a (b + 1) with h1 | h1
    · rw [scan, ih (by omega) (fun p h2 h3 => hf p h2 (by omega)) (fun p h2 h3 => hl p h2 (by omega))]
      rw [hf b (by omega) (by omega), hl b (by omega) (by omega)]
      cases scan f l a with
      | none => rfl
      | some o => simp
    · obtain rfl : a = b + 1 := by omega
      rfl

theorem scan_first {f l : Nat → Bool} {p : Nat} (h : scan f l p = some false) (hf : f p = true) : scan f l (p + 1) = some (!l p) := by rw [scan, h]; simp [hf]
theorem scan_fail {f l : Nat → Bool} {p : Nat} (h : scan f l p = some true) (hf : f p = true) : scan f l (p + 1) = none := by rw [scan, h]; simp [hf]
theorem scan_last {f l : Nat → Bool} {p : Nat} {o : Bool} (h : scan f l p = some o) (hf : f p = false) (hl : l p = true) : scan f l (p + 1) = some false := by rw [scan, h]; simp [hf, hl]
theorem scan_more {f l : Nat → Bool} {p : Nat} {o : Bool} (h : scan f l p = some o) (hf : f p = false) : scan f l (p + 1) = some (o && !l p) := by rw [scan, h]; simp [hf]

/-! ### bits -/
/-- x with the bits below s cleared -/
def hi (x s : Nat) : Nat := (x >>> s) <<< s

theorem hi_bit (x s i : Nat) : (hi x s).testBit i = (decide (s ≤ i) && x.testBit i) := by
  unfold hi
  rw [Nat.testBit_shiftLeft, Nat.testBit_shiftRight]
  by_cases h : s ≤ i
  · simp [h, show s + (i - s) = i by omega]
  · simp [h]

theorem hi_zero (x : Nat) : hi x 0 = x := by simp [hi]

theorem hi_le (x s : Nat) : hi x s ≤ x := by
  unfold hi
  rw [Nat.shiftLeft_eq, Nat.shiftRight_eq_div_pow]
  exact Nat.div_mul_le_self x (2 ^ s)

theorem hi_skip {x s t : Nat} (hst : s ≤ t) (h : ∀ i, s ≤ i → i < t → x.testBit i = false) : hi x s = hi x t := by
  apply Nat.eq_of_testBit_eq
  intro i
  rw [hi_bit, hi_bit]
  by_cases h1 : t ≤ i
  · simp [h1, show s ≤ i by omega]
  · by_cases h2 : s ≤ i
    · simp [h2, h1, h i h2 (by omega)]
    · simp [h2, h1]

theorem hi_end {x s : Nat} (h : ∀ i, s ≤ i → x.testBit i = false) : hi x s = 0 := by
  apply Nat.eq_of_testBit_eq
  intro i
  rw [hi_bit]
  by_cases h2 : s ≤ i
  · simp [h i h2]
  · simp [h2]

/-- the lowest bit of a number that is not 0 -/
theorem low_bit (u : Nat) (h0 : u ≠ 0) (h : u < 18446744073709551616) : ∃ t, t < 64 ∧ u.testBit t = true ∧ (∀ i, i < t → u.testBit i = false) ∧ u &&& (18446744073709551616 - u) = 2 ^ t := by
  obtain ⟨h1, h2⟩ := Lib.lowest_bit 64 u h0 h
  have e : Lib.ctz 64 u = Lib.ctzFrom 64 u := by unfold Lib.ctz; rw [if_neg h0]
  obtain ⟨m, hm, _⟩ := Lib.ctzFrom_spec 64 u (by omega) h
  rw [← e] at hm
  obtain ⟨k, hk⟩ : ∃ k, k = Lib.ctz 64 u := ⟨_, rfl⟩
  rw [← hk] at hm h1 h2
  refine ⟨k, h2, ?_, fun i hi => ?_, h1⟩
  · rw [hm, Nat.testBit_two_pow_mul]
    simp
  · rw [hm, Nat.testBit_two_pow_mul]
    simp
    omega

theorem and_pow (f t : Nat) : f &&& 2 ^ t = if f.testBit t then 2 ^ t else 0 := by
  apply Nat.eq_of_testBit_eq
  intro i
  rw [Nat.testBit_and, Nat.testBit_two_pow]
  by_cases e : t = i
  · subst e
    cases h : f.testBit t <;> simp
  · cases h : f.testBit t <;> simp [e]

theorem andNot_hi {x s t : Nat} (hx : x < 18446744073709551616) (hst : s ≤ t) (h : ∀ i, s ≤ i → i < t → x.testBit i = false) : hi x s &&& (18446744073709551616 - (2 ^ t + 1)) = hi x (t + 1) := by
  apply Nat.eq_of_testBit_eq
  intro i
  have e : (18446744073709551616 : Nat) = 2 ^ 64 := by decide
  rw [Nat.testBit_and, hi_bit, hi_bit, e]
  by_cases hi64 : i < 64
  · by_cases ht : t < 64
    · rw [Nat.testBit_two_pow_sub_succ (Nat.pow_lt_pow_right (by decide) ht), Nat.testBit_two_pow]
      by_cases h1 : i = t
      · subst h1
        simp [show ¬ i + 1 ≤ i by omega]
      · by_cases h2 : t + 1 ≤ i
        · simp [h2, hi64, show s ≤ i by omega, show ¬ t = i by omega]
        · by_cases h3 : s ≤ i
          · simp [h2, h3, h i h3 (by omega)]
          · simp [h2, h3]
    · by_cases h3 : s ≤ i
      · simp [h i h3 (by omega), show ¬ t + 1 ≤ i by omega]
      · simp [h3, show ¬ t + 1 ≤ i by omega]
  · have hz : x.testBit i = false := Nat.testBit_lt_two_pow (Nat.lt_of_lt_of_le (by rw [e] at hx; exact hx) (Nat.pow_le_pow_right (by decide) (by omega)))
    simp [hz]

theorem bits_andNot_u64_nat (a b : Nat) (ha : a < 18446744073709551616) (hb : b < 18446744073709551616) :
    bits .andNot .u64 (a : Int) (b : Int) = ((a &&& (18446744073709551616 - (b + 1)) : Nat) : Int) := by
  have hx : a &&& (18446744073709551616 - (b + 1)) < 2 ^ 64 := Nat.and_lt_two_pow _ (by omega)
  have h1 : (BitVec.ofInt 64 (a : Int)).toNat = a := by
    rw [BitVec.ofInt_natCast, BitVec.toNat_ofNat]; exact Nat.mod_eq_of_lt (by omega)
  have h2 : (BitVec.ofInt 64 (b : Int)).toNat = b := by
    rw [BitVec.ofInt_natCast, BitVec.toNat_ofNat]; exact Nat.mod_eq_of_lt (by omega)
  show IntKind.u64.wrap ((BitVec.ofInt 64 (a : Int) &&& ~~~ (BitVec.ofInt 64 (b : Int))).toNat : Int) = _
  rw [BitVec.toNat_and, BitVec.toNat_not, h1, h2, IntKind.wrap_u64]
  have e : 2 ^ 64 - 1 - b = 18446744073709551616 - (b + 1) := by omega
  rw [e]
  omega

/-- the bits of 256 words -/
def fb (F : Nat → Nat) (p : Nat) : Bool := (F (p / 64)).testBit (p % 64)

theorem fb_at (F : Nat → Nat) (w i : Nat) (h : i < 64) : fb F (64 * w + i) = (F w).testBit i := by
  unfold fb
  rw [show (64 * w + i) / 64 = w by omega, show (64 * w + i) % 64 = i by omega]

theorem fb_val (F : Nat → Nat) (p : Nat) : (F (p / 64) / 2 ^ (p % 64)) % 2 = if fb F p then 1 else 0 := by
  unfold fb
  rw [Nat.testBit_eq_decide_div_mod_eq]
  by_cases h : F (p / 64) / 2 ^ (p % 64) % 2 = 1
  · simp [h]
  · simp [h]; omega

end Go.Proofs.Qxb6600446a
