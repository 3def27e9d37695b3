/- The new labels keep the order and make room. No Go in sight. -/
import Derived.Test.Qxb6603909aPlain3
set_option linter.unusedVariables false
set_option linter.unusedSimpArgs false
namespace Go.Proofs.Qxb6603909a.Pl
section
variable {L P N : Nat → Int} {n m p : Nat} {nd : Nat → Nat}

theorem Ring.relbl_at (R : Ring L P N n m nd) (l st : Int) (A : Nat) : ∀ t, A + t ≤ m → ∀ j, j ≤ m → relbl L nd l st A t (nd j) = if A < j ∧ j ≤ A + t then l + ((j : Int) - A) * st else L (nd j) := by
  intro t
  induction t with
  | zero =>
    intro _ j hj
    rw [if_neg (by omega)]; rfl
  | succ t ih =>
    intro ht j hj
    simp only [relbl]
    by_cases e : nd j = nd (A + t + 1)
    · have ej := R.inj hj (by omega) e
      rw [if_pos e, if_pos (by omega)]
      congr 2
      omega
    · have ej : j ≠ A + t + 1 := fun h => e (by rw [h])
      rw [if_neg e, ih (by omega) j hj]
      by_cases h : A < j ∧ j ≤ A + t
      · rw [if_pos h, if_pos (by omega)]
      · rw [if_neg h, if_neg (by omega)]

theorem relbl_off (l st : Int) (A : Nat) (x : Nat) : ∀ t, (∀ j, 1 ≤ j → j ≤ A + t → x ≠ nd j) → relbl L nd l st A t x = L x := by
  intro t
  induction t with
  | zero => intro _; rfl
  | succ t ih =>
    intro h
    simp only [relbl]
    rw [if_neg (h (A + t + 1) (by omega) (by omega)), ih (fun j h1 h2 => h j h1 (by omega))]

/-- what is known of the level at which relabel stops -/
structure Level (L : Nat → Int) (nd : Nat → Nat) (m p k : Nat) (lo S st : Int) (A C : Nat) : Prop where
  low0 : 0 ≤ lo
  lim : lo + S ≤ 4611686018427387904
  ac : A + C ≤ m
  below : ∀ j, 1 ≤ j → j ≤ m → (L (nd j) < lo ↔ j ≤ A)
  above : ∀ j, 1 ≤ j → j ≤ m → (L (nd j) < lo + S ↔ j ≤ A + C)
  st1 : 1 ≤ st
  stS : ((C : Int) + 1) * st ≤ S

theorem Level.mul_le {lo S st : Int} {A C k : Nat} (V : Level L nd m p k lo S st A C) (t : Nat) (ht : t ≤ C) : 0 ≤ (t : Int) * st ∧ (t : Int) * st + st ≤ S := by
  have h1 := V.st1
  have h2 := V.stS
  have h3 : ((t : Int) + 1) * st ≤ ((C : Int) + 1) * st := Int.mul_le_mul_of_nonneg_right (by omega) (by omega)
  rw [Int.add_mul, Int.one_mul] at h3
  exact ⟨Int.mul_nonneg (by omega) (by omega), by omega⟩

theorem Ring.relbl_ring (R : Ring L P N n m nd) {lo S st : Int} {A C k : Nat} (V : Level L nd m p k lo S st A C) : Ring (relbl L nd lo st A C) P N n m nd := by
  have hat := R.relbl_at lo st A C V.ac
  have hst := V.st1
  refine ⟨R.lt, R.nx, R.back, R.pv, R.pv0, ?_, ?_, ?_, R.mn⟩
  · rw [hat 0 (by omega), if_neg (by omega)]; exact R.l0
  · intro i hi
    rw [hat i (by omega), hat (i + 1) (by omega)]
    have hup := R.up i hi
    by_cases h1 : A < i ∧ i ≤ A + C
    · rw [if_pos h1]
      by_cases h2 : i + 1 ≤ A + C
      · rw [if_pos (by omega)]
        have : (((i + 1 : Nat) : Int) - A) * st = ((i : Int) - A) * st + st := by
          rw [show (((i + 1 : Nat) : Int) - A) = ((i : Int) - A) + 1 by omega, Int.add_mul, Int.one_mul]
        omega
      · rw [if_neg (by omega)]
        have hi' : i = A + C := by omega
        have hab := V.above (i + 1) (by omega) (by omega)
        have hm := (V.mul_le C (Nat.le_refl _)).2
        have : ((i : Int) - A) * st = (C : Int) * st := by rw [show (i : Int) - A = C by omega]
        omega
    · rw [if_neg h1]
      by_cases h2 : A < i + 1 ∧ i + 1 ≤ A + C
      · rw [if_pos h2]
        have hiA : i = A := by omega
        have hone : (((i + 1 : Nat) : Int) - A) * st = st := by rw [show (((i + 1 : Nat) : Int) - A) = 1 by omega, Int.one_mul]
        rw [hone]
        by_cases h3 : i = 0
        · subst h3; have := R.l0; have := V.low0; omega
        · have := (V.below i (by omega) (by omega)).2 (by omega); omega
      · rw [if_neg h2]; exact hup
  · intro i hi
    rw [hat i hi]
    split
    · rename_i h1
      obtain ⟨t, ht⟩ : ∃ t : Nat, i = A + t := ⟨i - A, by omega⟩
      subst ht
      have hm := (V.mul_le t (by omega)).2
      have := V.lim
      have e : (((A + t : Nat) : Int) - A) * st = (t : Int) * st := by rw [show ((A + t : Nat) : Int) - A = t by omega]
      omega
    · exact R.lim i hi

/-- room behind node p where the step is at least 2 -/
theorem Ring.relbl_room (R : Ring L P N n m nd) (hp : p ≤ m) {lo S st : Int} {A C k : Nat} (V : Level L nd m p k lo S st A C) (h2 : 2 ≤ st) (hpB : p ≤ A + C) (hpA : 0 < p → A < p) (hp0 : p = 0 → A = 0 ∧ lo = 0) :
    relbl L nd lo st A C (nd p) + 2 ≤ (if p < m then relbl L nd lo st A C (nd (p + 1)) else 4611686018427387904) := by
  have hat := R.relbl_at lo st A C V.ac
  -- the label of node p is lo + (p - A) * st
  have hlab : relbl L nd lo st A C (nd p) = lo + ((p : Int) - A) * st := by
    rw [hat p hp]
    by_cases h : p = 0
    · obtain ⟨e1, e2⟩ := hp0 h
      subst h e1 e2
      rw [if_neg (by omega), R.l0]
      simp
    · rw [if_pos ⟨hpA (by omega), hpB⟩]
  obtain ⟨t, ht⟩ : ∃ t : Nat, p = A + t := by
    by_cases h : p = 0
    · exact ⟨0, by have := (hp0 h).1; omega⟩
    · exact ⟨p - A, by have := hpA (by omega); omega⟩
  have hm := V.mul_le t (by omega)
  have e : ((p : Int) - A) * st = (t : Int) * st := by rw [show (p : Int) - A = t by omega]
  have hlim := V.lim
  rw [hlab, e]
  split
  · rename_i hpm
    rw [hat (p + 1) (by omega)]
    by_cases h3 : p + 1 ≤ A + C
    · rw [if_pos (by omega)]
      have : (((p + 1 : Nat) : Int) - A) * st = (t : Int) * st + st := by
        rw [show (((p + 1 : Nat) : Int) - A) = (t : Int) + 1 by omega, Int.add_mul, Int.one_mul]
      omega
    · rw [if_neg (by omega)]
      have := V.above (p + 1) (by omega) (by omega)
      omega
  · omega

theorem Ring.level (R : Ring L P N n m nd) (hp : p ≤ m) (k : Nat) (hk : k ≤ 62) (hC : ((cC L nd m (L (nd p)) k : Nat) : Int) + 1 ≤ 2 ^ k) :
    Level L nd m p k (lo (L (nd p)) k) (2 ^ k) (2 ^ k / ((cC L nd m (L (nd p)) k : Int) + 1)) (lA L nd m (L (nd p)) k) (cC L nd m (L (nd p)) k) := by
  have hAB := lAB (L := L) (nd := nd) (m := m) (L (nd p)) k
  have hBm := lB_le (L := L) (nd := nd) (m := m) (L (nd p)) k
  have hCC : cC L nd m (L (nd p)) k = lB L nd m (L (nd p)) k - lA L nd m (L (nd p)) k := rfl
  refine ⟨lo_nonneg _ k (R.nonneg p hp), lo_lim _ k hk (R.lim p hp), by omega, R.a_iff _ k, ?_, ?_, ?_⟩
  · intro j h1 h2
    rw [show lA L nd m (L (nd p)) k + cC L nd m (L (nd p)) k = lB L nd m (L (nd p)) k by omega]
    exact R.b_iff _ k j h1 h2
  · generalize (cC L nd m (L (nd p)) k) = C at *
    exact (Int.le_ediv_iff_mul_le (by omega)).2 (by omega)
  · exact Int.mul_ediv_self_le (by omega)

theorem newLab_eq (l : Int) (k : Nat) : newLab L nd m l k = relbl L nd (lo l k) (2 ^ k / ((cC L nd m l k : Int) + 1)) (lA L nd m l k) (cC L nd m l k) := rfl

def memTo (nd : Nat → Nat) : Nat → Nat → Bool
  | 0 => fun x => if x = nd 0 then true else false
  | k + 1 => fun x => if x = nd (k + 1) then true else memTo nd k x

theorem memTo_iff (nd : Nat → Nat) (x : Nat) : ∀ k, memTo nd k x = false → ∀ j, j ≤ k → x ≠ nd j := by
  intro k
  induction k with
  | zero =>
    intro h j hj
    have : j = 0 := by omega
    subst this
    intro e
    simp [memTo, e] at h
  | succ k ih =>
    intro h j hj e
    simp only [memTo] at h
    split at h
    · cases h
    · rename_i h1
      by_cases h2 : j = k + 1
      · subst h2; exact h1 e
      · exact ih h j (by omega) e
end
end Go.Proofs.Qxb6603909a.Pl
