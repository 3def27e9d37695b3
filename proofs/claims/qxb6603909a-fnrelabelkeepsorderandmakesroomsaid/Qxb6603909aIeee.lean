/- Facts on float64 words: order and product of numbers from 1 on. No Go program in sight. -/
import Derived.Laws.Cover2
set_option linter.unusedVariables false
set_option linter.unusedSimpArgs false
namespace Go.Proofs.Qxb6603909a.Fl
open Ieee

theorem cS : double.signWeight = 9223372036854775808 := by decide
theorem cB : double.binade = 4503599627370496 := by decide
theorem cI : double.infRung = 9218868437227405312 := by decide
theorem cP : double.leastPlace = -1074 := by decide

def mant (r : Nat) : Nat := if r < 4503599627370496 then r else 4503599627370496 + r % 4503599627370496
def ex (r : Nat) : Nat := r / 4503599627370496 - 1

theorem read_pos (r : Nat) (h : r < 9218868437227405312) : double.read r = .number false (mant r) (-1074 + (ex r : Int)) := by
  have h1 : r / 9223372036854775808 = 0 := Nat.div_eq_of_lt (by omega)
  have h2 : r % 9223372036854775808 = r := Nat.mod_eq_of_lt (by omega)
  simp only [Format.read, cS, cB, cI, cP, h1, h2]
  unfold mant ex
  by_cases h3 : r < 4503599627370496
  · have e : r / 4503599627370496 = 0 := Nat.div_eq_of_lt h3
    simp [h3, e]
  · simp [h3, h]

theorem two_pos (n : Nat) : 0 < 2 ^ n := Nat.two_pow_pos n

theorem order_num (m n a b : Nat) : (Datum.number false m (-1074 + (a : Int))).order (.number false n (-1074 + (b : Int))) = some (compare (m * 2 ^ (a - min a b)) (n * 2 ^ (b - min a b))) := by
  have e1 : (-1074 + (a : Int) - min (-1074 + (a : Int)) (-1074 + (b : Int))).toNat = a - min a b := by omega
  have e2 : (-1074 + (b : Int) - min (-1074 + (a : Int)) (-1074 + (b : Int))).toNat = b - min a b := by omega
  simp only [Datum.order, signed, e1, e2, Nat.shiftLeft_eq, Bool.false_eq_true, if_false]
  rw [Int.compare_eq_ite_lt, Nat.compare_eq_ite_lt]
  simp only [Int.ofNat_lt]

theorem val_lt (r s : Nat) (h : r < s) : mant r * 2 ^ (ex r - min (ex r) (ex s)) < mant s * 2 ^ (ex s - min (ex r) (ex s)) := by
  have hq : r / 4503599627370496 ≤ s / 4503599627370496 := Nat.div_le_div_right (Nat.le_of_lt h)
  have hr := Nat.div_add_mod r 4503599627370496
  have hs := Nat.div_add_mod s 4503599627370496
  have hr2 := Nat.mod_lt r (show 0 < 4503599627370496 by decide)
  have hs2 := Nat.mod_lt s (show 0 < 4503599627370496 by decide)
  have he : ex r ≤ ex s := by unfold ex; omega
  have hmr : mant r < 9007199254740992 := by unfold mant; split <;> omega
  rcases Nat.lt_or_ge (ex r) (ex s) with h1 | h1
  · have hmin : min (ex r) (ex s) = ex r := by omega
    rw [hmin, Nat.sub_self, Nat.pow_zero, Nat.mul_one]
    have hge : ¬ s < 4503599627370496 := by
      intro hlt
      have : s / 4503599627370496 = 0 := Nat.div_eq_of_lt hlt
      unfold ex at h1
      omega
    have hms : 4503599627370496 ≤ mant s := by unfold mant; rw [if_neg hge]; omega
    have hpow : 2 ^ 1 ≤ 2 ^ (ex s - ex r) := Nat.pow_le_pow_right (by decide) (by omega)
    have : 4503599627370496 * 2 ≤ mant s * 2 ^ (ex s - ex r) := Nat.mul_le_mul hms hpow
    omega
  · have hee : ex r = ex s := by omega
    have hmin : min (ex r) (ex s) = ex s := by omega
    rw [hmin, hee, Nat.sub_self, Nat.pow_zero, Nat.mul_one, Nat.mul_one]
    unfold mant
    unfold ex at hee
    by_cases h2 : r < 4503599627370496
    · by_cases h3 : s < 4503599627370496
      · rw [if_pos h2, if_pos h3]; exact h
      · rw [if_pos h2, if_neg h3]; omega
    · have h3 : ¬ s < 4503599627370496 := by omega
      have h4 : 0 < r / 4503599627370496 := Nat.div_pos (by omega) (by decide)
      rw [if_neg h2, if_neg h3]
      omega

/-- numbers that are not negative stand in the order of their words -/
theorem order_pos (r s : Nat) (hr : r < 9218868437227405312) (hs : s < 9218868437227405312) : double.order r s = some (compare r s) := by
  unfold Format.order
  rw [read_pos r hr, read_pos s hs, order_num]
  congr 1
  rw [Nat.compare_eq_ite_lt, Nat.compare_eq_ite_lt]
  rcases Nat.lt_trichotomy r s with h | h | h
  · have := val_lt r s h
    rw [if_pos this, if_pos h]
  · subst h; simp
  · have := val_lt s r h
    rw [Nat.min_comm] at this
    rw [if_neg (by omega), if_pos this, if_neg (by omega), if_pos h]

/-- a word that is at least 1 and below 2 -/
theorem between (g : Nat) (hg : g < 18446744073709551616) (h1 : double.order g 4607182418800017408 = some .gt ∨ double.order g 4607182418800017408 = some .eq) (h2 : double.order g 4611686018427387904 = some .lt) :
    4607182418800017408 ≤ g ∧ g < 4611686018427387904 := by
  rcases Nat.lt_or_ge g 9218868437227405312 with h | h
  · rw [order_pos g _ h (by decide)] at h1 h2
    simp only [Option.some.injEq, Nat.compare_eq_ite_lt] at h1 h2
    constructor
    · rcases Nat.lt_or_ge g 4607182418800017408 with h3 | h3
      · rw [if_pos h3] at h1; simp at h1
      · exact h3
    · rcases Nat.lt_or_ge g 4611686018427387904 with h3 | h3
      · exact h3
      · rw [if_neg (by omega)] at h2
        split at h2 <;> simp at h2
  · exfalso
    have e1 : double.read 4607182418800017408 = .number false 4503599627370496 (-1074 + (1022 : Nat)) := by
      rw [read_pos _ (by decide)]; rfl
    unfold Format.order at h1 h2
    rw [e1] at h1
    have e2 : double.read 4611686018427387904 = .number false 4503599627370496 (-1074 + (1023 : Nat)) := by
      rw [read_pos _ (by decide)]; rfl
    rw [e2] at h2
    cases hd : double.read g with
    | nan s f => rw [hd] at h2; simp [Datum.order] at h2
    | infinity s =>
      rw [hd] at h1 h2
      cases s <;> simp [Datum.order] at h1 h2
    | number s m e =>
      cases s with
      | true =>
        rw [hd] at h1
        simp only [Datum.order, signed, if_true, Bool.false_eq_true, if_false, Option.some.injEq, Int.compare_eq_ite_lt, Nat.shiftLeft_eq] at h1
        have p1 : (0 : Int) ≤ ((m * 2 ^ (e - min e (-1074 + ((1022 : Nat) : Int))).toNat : Nat) : Int) := Int.natCast_nonneg _
        have p2 : (0 : Int) < ((4503599627370496 * 2 ^ (-1074 + ((1022 : Nat) : Int) - min e (-1074 + ((1022 : Nat) : Int))).toNat : Nat) : Int) := by
          have := Nat.mul_pos (show 0 < 4503599627370496 by decide) (two_pos (-1074 + ((1022 : Nat) : Int) - min e (-1074 + ((1022 : Nat) : Int))).toNat)
          omega
        rw [if_pos (by omega)] at h1
        simp at h1
      | false =>
        -- a word from infinity on that reads as a number bears the sign
        have hdd := hd
        simp only [Format.read, cS, cB, cI, cP] at hd
        have h3 : g / 9223372036854775808 = 0 ∨ g / 9223372036854775808 = 1 := by omega
        have h4 := Nat.div_add_mod g 9223372036854775808
        rcases h3 with h3 | h3
        · have h5 : g % 9223372036854775808 = g := by omega
          rw [h3, h5, if_neg (by omega), if_neg (by omega)] at hd
          split at hd <;> simp at hd
        · rw [h3] at hd
          split at hd
          · simp at hd
          · split at hd
            · simp at hd
            · split at hd <;> simp at hd

end Go.Proofs.Qxb6603909a.Fl
