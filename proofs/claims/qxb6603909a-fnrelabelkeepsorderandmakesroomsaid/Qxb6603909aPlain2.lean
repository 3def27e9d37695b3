/- The plain mathematics of relabelling: ranges, counts, new labels. No Go in sight. -/
import Derived.Test.Qxb6603909aPlain
set_option linter.unusedVariables false
set_option linter.unusedSimpArgs false
namespace Go.Proofs.Qxb6603909a.Pl

/-- how many of nd 1, .., nd q have a label below v -/
def cnt (L : Nat → Int) (nd : Nat → Nat) (v : Int) : Nat → Nat
  | 0 => 0
  | q + 1 => cnt L nd v q + if L (nd (q + 1)) < v then 1 else 0

theorem cnt_le (L : Nat → Int) (nd : Nat → Nat) (v : Int) (q : Nat) : cnt L nd v q ≤ q := by
  induction q with
  | zero => simp [cnt]
  | succ q ih => simp only [cnt]; split <;> omega

theorem cnt_mono (L : Nat → Int) (nd : Nat → Nat) {v v' : Int} (h : v ≤ v') (q : Nat) : cnt L nd v q ≤ cnt L nd v' q := by
  induction q with
  | zero => simp [cnt]
  | succ q ih => simp only [cnt]; split <;> split <;> omega

theorem Ring.cnt_iff {L P N : Nat → Int} {n m : Nat} {nd : Nat → Nat} (R : Ring L P N n m nd) (v : Int) : ∀ q, q ≤ m → ∀ j, 1 ≤ j → j ≤ q → (L (nd j) < v ↔ j ≤ cnt L nd v q) := by
  intro q
  induction q with
  | zero => intro _ j h1 h2; omega
  | succ q ih =>
    intro hq j h1 h2
    have hle := cnt_le L nd v q
    by_cases hv : L (nd (q + 1)) < v
    · have hfull : cnt L nd v q = q := by
        by_cases hq0 : q = 0
        · subst hq0; simp [cnt]
        · have := (ih (by omega) q (by omega) (Nat.le_refl _)).1 (by have := R.up q (by omega); omega)
          omega
      have e : cnt L nd v (q + 1) = q + 1 := by simp only [cnt, if_pos hv, hfull]
      rw [e]
      constructor
      · intro _; omega
      · intro _
        by_cases e : j = q + 1
        · subst e; exact hv
        · have := R.mono j (q + 1) (by omega) (by omega); omega
    · have e : cnt L nd v (q + 1) = cnt L nd v q := by simp only [cnt, if_neg hv, Nat.add_zero]
      rw [e]
      by_cases e2 : j = q + 1
      · subst e2; constructor
        · intro h; exact absurd h hv
        · intro h; omega
      · exact ih (by omega) j h1 (by omega)

/-- the aligned range of 2^k labels around a label -/
def lo (l : Int) (k : Nat) : Int := 2 ^ k * (l / 2 ^ k)

theorem two_pos (k : Nat) : (0 : Int) < 2 ^ k := by
  have : (0 : Nat) < 2 ^ k := Nat.two_pow_pos k
  exact_mod_cast this

theorem lo_le (l : Int) (k : Nat) : lo l k ≤ l ∧ l < lo l k + 2 ^ k := by
  have h := two_pos k
  have h1 := Int.mul_ediv_add_emod l (2 ^ k)
  have h2 := Int.emod_nonneg l (Int.ne_of_gt h)
  have h3 := Int.emod_lt_of_pos l h
  unfold lo
  omega

theorem lo_nonneg (l : Int) (k : Nat) (h : 0 ≤ l) : 0 ≤ lo l k := by
  unfold lo
  exact Int.mul_nonneg (Int.le_of_lt (two_pos k)) (Int.ediv_nonneg h (Int.le_of_lt (two_pos k)))

/-- the next greater range holds this one -/
theorem lo_succ (l : Int) (k : Nat) : lo l (k + 1) ≤ lo l k ∧ lo l k + 2 ^ k ≤ lo l (k + 1) + 2 ^ (k + 1) := by
  have h := two_pos k
  have e : (2 : Int) ^ (k + 1) = 2 ^ k * 2 := Int.pow_succ 2 k
  have hd : l / 2 ^ (k + 1) = l / 2 ^ k / 2 := by rw [e, Int.ediv_ediv_of_nonneg (Int.le_of_lt h)]
  unfold lo
  rw [hd, e]
  generalize l / 2 ^ k = t
  generalize (2 : Int) ^ k = s at h
  have h2 : t = 2 * (t / 2) + t % 2 := (Int.mul_ediv_add_emod t 2).symm
  have h3 : t % 2 = 0 ∨ t % 2 = 1 := by omega
  generalize t / 2 = u at h2
  rcases h3 with h3 | h3
  · rw [h3] at h2; subst h2
    have : s * (2 * u + 0) = s * 2 * u := by rw [Int.add_zero, Int.mul_assoc]
    rw [this]; omega
  · rw [h3] at h2; subst h2
    have : s * (2 * u + 1) = s * 2 * u + s := by rw [Int.mul_add, Int.mul_one, Int.mul_assoc]
    rw [this]; omega

/-- within the labels -/
theorem lo_lim (l : Int) (k : Nat) (hk : k ≤ 62) (h : l < 4611686018427387904) : lo l k + 2 ^ k ≤ 4611686018427387904 := by
  induction hd : 62 - k generalizing k with
  | zero =>
    have : k = 62 := by omega
    subst this
    unfold lo
    omega
  | succ d ih =>
    have := ih (k + 1) (by omega) (by omega)
    have := lo_succ l k
    omega

theorem pow_le (k : Nat) (hk : k ≤ 62) : (2 : Int) ^ k ≤ 4611686018427387904 := by
  have : 2 ^ k ≤ 2 ^ 62 := Nat.pow_le_pow_right (by decide) hk
  have h2 : ((2 ^ k : Nat) : Int) ≤ ((2 ^ 62 : Nat) : Int) := by exact_mod_cast this
  simpa using h2

theorem pow_ge (k : Nat) (hk : 1 ≤ k) : 2 ≤ (2 : Int) ^ k := by
  have : 2 ^ 1 ≤ 2 ^ k := Nat.pow_le_pow_right (by decide) hk
  have h2 : ((2 ^ 1 : Nat) : Int) ≤ ((2 ^ k : Nat) : Int) := by exact_mod_cast this
  simpa using h2

/-- the labels after t nodes have been given new ones: nd (A+1), .., nd (A+t) take l+step, .., l+t*step -/
def relbl (L : Nat → Int) (nd : Nat → Nat) (l step : Int) (A : Nat) : Nat → Nat → Int
  | 0 => L
  | t + 1 => fun x => if x = nd (A + t + 1) then l + ((t : Int) + 1) * step else relbl L nd l step A t x

/-- how many nodes lie in the aligned range of 2^k labels around l -/
def cC (L : Nat → Int) (nd : Nat → Nat) (m : Nat) (l : Int) (k : Nat) : Nat := cnt L nd (lo l k + 2 ^ k) m - cnt L nd (lo l k) m

/-- the labels once that range has been spread evenly -/
def newLab (L : Nat → Int) (nd : Nat → Nat) (m : Nat) (l : Int) (k : Nat) : Nat → Int :=
  relbl L nd (lo l k) (2 ^ k / ((cC L nd m l k : Int) + 1)) (cnt L nd (lo l k) m) (cC L nd m l k)

theorem and_mask (a k : Nat) (ha : a < 2 ^ 64) (hk : k ≤ 64) : a &&& (2 ^ 64 - 1 - (2 ^ k - 1)) = 2 ^ k * (a / 2 ^ k) := by
  have e : 2 ^ 64 - 1 - (2 ^ k - 1) = 2 ^ 64 - ((2 ^ k - 1) + 1) := by omega
  have h2 : 2 ^ k ≤ 2 ^ 64 := Nat.pow_le_pow_right (by decide) hk
  have h3 : 0 < 2 ^ k := Nat.two_pow_pos k
  rw [e]
  apply Nat.eq_of_testBit_eq
  intro i
  rw [Nat.testBit_and, Nat.testBit_two_pow_sub_succ (by omega), Nat.testBit_two_pow_sub_one, Nat.testBit_two_pow_mul, Nat.testBit_div_two_pow]
  by_cases h1 : i < 64
  · by_cases h4 : k ≤ i
    · have e1 : i - k + k = i := by omega
      have e2 : k + (i - k) = i := by omega
      have e3 : ¬ i < k := by omega
      simp [h1, h4, e1, e2, e3]
    · have e3 : i < k := by omega
      simp [h1, h4, e3]
  · have : a.testBit i = false := Nat.testBit_lt_two_pow (Nat.lt_of_lt_of_le ha (Nat.pow_le_pow_right (by decide) (by omega)))
    by_cases h4 : k ≤ i
    · have e1 : i - k + k = i := by omega
      have e2 : k + (i - k) = i := by omega
      simp [h1, this, e1, e2]
    · omega

end Go.Proofs.Qxb6603909a.Pl
