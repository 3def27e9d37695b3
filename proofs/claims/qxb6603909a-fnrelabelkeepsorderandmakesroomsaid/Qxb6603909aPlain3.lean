/- The levels of relabel. No Go in sight. -/
import Derived.Test.Qxb6603909aPlain2
set_option linter.unusedVariables false
set_option linter.unusedSimpArgs false
namespace Go.Proofs.Qxb6603909a.Pl

def lA (L : Nat → Int) (nd : Nat → Nat) (m : Nat) (l : Int) (k : Nat) : Nat := cnt L nd (lo l k) m
def lB (L : Nat → Int) (nd : Nat → Nat) (m : Nat) (l : Int) (k : Nat) : Nat := cnt L nd (lo l k + 2 ^ k) m

section
variable {L P N : Nat → Int} {n m p : Nat} {nd : Nat → Nat}

theorem Ring.nonneg (R : Ring L P N n m nd) : ∀ i, i ≤ m → 0 ≤ L (nd i) := by
  intro i hi
  by_cases e : i = 0
  · subst e; have := R.l0; omega
  · have := R.mono 0 i (by omega) hi; have := R.l0; omega

theorem Ring.a_iff (R : Ring L P N n m nd) (l : Int) (k j : Nat) (h1 : 1 ≤ j) (h2 : j ≤ m) : L (nd j) < lo l k ↔ j ≤ lA L nd m l k := R.cnt_iff _ m (Nat.le_refl _) j h1 h2
theorem Ring.b_iff (R : Ring L P N n m nd) (l : Int) (k j : Nat) (h1 : 1 ≤ j) (h2 : j ≤ m) : L (nd j) < lo l k + 2 ^ k ↔ j ≤ lB L nd m l k := R.cnt_iff _ m (Nat.le_refl _) j h1 h2

theorem lA_succ (l : Int) (k : Nat) : lA L nd m l (k + 1) ≤ lA L nd m l k := cnt_mono L nd (lo_succ l k).1 m
theorem lB_succ (l : Int) (k : Nat) : lB L nd m l k ≤ lB L nd m l (k + 1) := cnt_mono L nd (lo_succ l k).2 m
theorem lAB (l : Int) (k : Nat) : lA L nd m l k ≤ lB L nd m l k := cnt_mono L nd (by have := two_pos k; omega) m
theorem lB_le (l : Int) (k : Nat) : lB L nd m l k ≤ m := cnt_le L nd _ m

theorem Ring.a_lt (R : Ring L P N n m nd) (hp : p ≤ m) (h0 : 0 < p) (k : Nat) : lA L nd m (L (nd p)) k < p := by
  have h1 := (R.a_iff (L (nd p)) k p h0 hp)
  have h2 := (lo_le (L (nd p)) k).1
  omega

theorem Ring.a_zero (R : Ring L P N n m nd) (k : Nat) : lA L nd m (L (nd 0)) k = 0 := by
  rcases Nat.eq_zero_or_pos (lA L nd m (L (nd 0)) k) with h | h
  · exact h
  · have hm : lA L nd m (L (nd 0)) k ≤ m := cnt_le L nd _ m
    have h1 := (R.a_iff (L (nd 0)) k 1 (Nat.le_refl _) (by omega)).2 h
    have h2 := R.mono 0 1 (by omega) (by omega)
    have h3 := (lo_le (L (nd 0)) k).1
    omega

theorem Ring.b_ge (R : Ring L P N n m nd) (hp : p ≤ m) (k : Nat) : p ≤ lB L nd m (L (nd p)) k := by
  by_cases e : p = 0
  · omega
  · exact (R.b_iff (L (nd p)) k p (by omega) hp).1 (lo_le (L (nd p)) k).2

theorem lo_zero (l : Int) : lo l 0 = l := by simp [lo]

theorem Ring.a0 (R : Ring L P N n m nd) (hp : p ≤ m) : lA L nd m (L (nd p)) 0 = p - 1 := by
  by_cases e : p = 0
  · subst e; exact R.a_zero 0
  · have h1 := R.a_lt hp (by omega) 0
    by_cases e2 : p = 1
    · omega
    · have := (R.a_iff (L (nd p)) 0 (p - 1) (by omega) (by omega)).1 (by rw [lo_zero]; exact R.mono (p - 1) p (by omega) hp)
      omega

theorem Ring.b0 (R : Ring L P N n m nd) (hp : p ≤ m) : lB L nd m (L (nd p)) 0 = p := by
  have h1 := R.b_ge hp 0
  have h2 := lB_le (L := L) (nd := nd) (m := m) (L (nd p)) 0
  rcases Nat.lt_or_ge p (lB L nd m (L (nd p)) 0) with h | h
  · have h3 := (R.b_iff (L (nd p)) 0 (p + 1) (by omega) (by omega)).2 (by omega)
    have h4 := R.up p (by omega)
    rw [lo_zero] at h3
    simp at h3
    omega
  · omega

/-- the node that stands at place j of the ring, the head behind the last -/
def ndx (nd : Nat → Nat) (m j : Nat) : Nat := if j ≤ m then nd j else nd 0

theorem Ring.next (R : Ring L P N n m nd) (j : Nat) (hj : j ≤ m) : N (nd j) = ndx nd m (j + 1) := by
  unfold ndx
  split
  · exact R.nx j (by omega)
  · have : j = m := by omega
    subst this; exact R.back

theorem Ring.ndx_lt (R : Ring L P N n m nd) (j : Nat) : ndx nd m j < n := by
  unfold ndx
  split
  · exact R.lt _ (by assumption)
  · exact R.lt 0 (by omega)
end
end Go.Proofs.Qxb6603909a.Pl
