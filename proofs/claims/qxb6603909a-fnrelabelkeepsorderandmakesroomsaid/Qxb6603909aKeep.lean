import Derived.Test.Qxb6603909aParts
import Derived.Test.Qxb6603909aIeee2
import Derived.Test.Qxb6603909aPlain4
namespace Go.Proofs.Qxb6603909a
open Go.RowKit
set_option linter.unusedVariables false
set_option linter.unusedSimpArgs false

theorem allow_norm (g : Nat) (hg : Fl.Nrm g 1) : ∀ k, k ≤ 62 → ∃ r, allow g k = some r ∧ Fl.Nrm r k := by
  intro k
  induction k with
  | zero => intro _; exact ⟨_, rfl, by unfold Fl.Nrm; omega⟩
  | succ k ih =>
    intro hk
    obtain ⟨r, h1, h2⟩ := ih (by omega)
    obtain ⟨r', h3, h4⟩ := Fl.mul_norm r g k 1 h2 hg (by omega)
    exact ⟨r', by simp only [allow, h1, Option.bind_some]; exact h3, h4⟩

theorem allow_norm2 (g r2 : Nat) (h1 : 4607182418800017408 ≤ g) (h2 : g < 4611686018427387904) (hr2 : Ieee.double.mul g g = some r2) (hn : Fl.Nrm r2 1) :
    ∀ k, k ≤ 60 → ∃ r, allow g (k + 2) = some r ∧ Fl.Nrm r (k + 1) := by
  have hg : Fl.Nrm g 1 := by unfold Fl.Nrm; omega
  have ha1 : allow g 1 = some g := by simp only [allow, Option.bind_some]; exact Fl.one_mul g h1 h2
  intro k
  induction k with
  | zero => intro _; exact ⟨r2, by simp only [allow] at ha1 ⊢; rw [ha1]; exact hr2, hn⟩
  | succ k ih =>
    intro hk
    obtain ⟨r, h3, h4⟩ := ih (by omega)
    obtain ⟨r', h5, h6⟩ := Fl.mul_norm r g (k + 1) 1 h4 hg (by omega)
    refine ⟨r', ?_, h6⟩
    show (allow g (k + 2)).bind _ = _
    rw [h3]
    exact h5

/-- a whole number that is not above a word of at most 2^K is at most 2^K -/
theorem le_of_not_gt (N r K : Nat) (h1 : 1 ≤ N) (h2 : N ≤ 4503599627370496) (hK : K ≤ 62) (hr : Fl.Nrm r K) (h : (FloatKind.f64.format.order (floatOfInt .f64 (N : Int)) r == some .gt) = false) : N ≤ 2 ^ K := by
  obtain ⟨w, e, hw, hlt⟩ := Fl.ofInt_word N h1 h2
  rw [e] at h
  obtain ⟨hr1, hr2⟩ := hr
  have ho : FloatKind.f64.format.order w r = some (compare w r) := Fl.order_pos w r hw (by omega)
  rw [ho] at h
  rcases Nat.lt_or_ge (2 ^ K) N with h3 | h3
  · have := hlt K hK h3
    rw [Nat.compare_eq_ite_lt, if_neg (by omega), if_pos (by omega)] at h
    simp at h
  · exact h3

theorem skips_le (g k c : Nat) (hg : Fl.Nrm g 1) (hk : k ≤ 62) (hc : c ≤ 1048576) (h : skips g k c = false) : (c : Int) + 1 ≤ 2 ^ k := by
  obtain ⟨r, h1, h2⟩ := allow_norm g hg k hk
  simp only [skips, h1] at h
  have := le_of_not_gt (c + 1) r k (by omega) (by omega) hk h2 (by simpa using h)
  have h3 : ((c + 1 : Nat) : Int) ≤ ((2 ^ k : Nat) : Int) := by exact_mod_cast this
  simpa using h3

theorem skips_half (g k c r2 : Nat) (h1 : 4607182418800017408 ≤ g) (h2 : g < 4611686018427387904) (hr2 : Ieee.double.mul g g = some r2) (hn : Fl.Nrm r2 1) (hk1 : 1 ≤ k) (hk : k ≤ 62) (hc : c ≤ 1048576) (h : skips g k c = false) :
    2 * ((c : Int) + 1) ≤ 2 ^ k := by
  by_cases e : k = 1
  · subst e
    have ha1 : allow g 1 = some g := by simp only [allow, Option.bind_some]; exact Fl.one_mul g h1 h2
    simp only [skips, ha1] at h
    have hle := le_of_not_gt (c + 1) g 1 (by omega) (by omega) (by omega) (by unfold Fl.Nrm; omega) (by simpa using h)
    by_cases hc1 : c = 1
    · subst hc1
      have e2 : floatOfInt .f64 ((1 : Nat) + 1 : Int) = 4611686018427387904 := by decide
      rw [e2] at h
      have ho : FloatKind.f64.format.order 4611686018427387904 g = some (compare 4611686018427387904 g) := Fl.order_pos _ _ (by decide) (by omega)
      rw [ho, Nat.compare_eq_ite_lt, if_neg (by omega), if_pos (by omega)] at h
      simp at h
    · have : c = 0 := by omega
      subst this
      decide
  · obtain ⟨j, rfl⟩ : ∃ j, k = j + 2 := ⟨k - 2, by omega⟩
    obtain ⟨r, h3, h4⟩ := allow_norm2 g r2 h1 h2 hr2 hn j (by omega)
    simp only [skips, h3] at h
    have := le_of_not_gt (c + 1) r (j + 1) (by omega) (by omega) (by omega) h4 (by simpa using h)
    have h5 : 2 ^ (j + 2) = 2 * 2 ^ (j + 1) := by rw [Nat.pow_succ, Nat.mul_comm]
    have h6 : 2 * (c + 1) ≤ 2 ^ (j + 2) := by omega
    have h7 : ((2 * (c + 1) : Nat) : Int) ≤ ((2 ^ (j + 2) : Nat) : Int) := by exact_mod_cast h6
    simpa using h7

theorem ringMembers_any (bn n cn : Nat) (L P N : Nat → Int) (m : Nat) (nd : Nat → Nat) (R : Pl.Ring L P N n m nd) (w : World) (hn2 : n ≤ 1048576)
    (hNr : w.rowIs bn 21 n (fun i => .int .i32 (N i))) :
    Calls Try.prog 20 #[.slice (some ⟨bn, 0, none⟩) n cn, .int .i32 (nd 0)] w fun e w' => e = .returned (.slice (some ⟨w.heap.size, 0, none⟩) n n) ∧ w'.rowIs w.heap.size 4 n (fun x => .bool (Pl.memTo nd m x)) ∧ Below w.heap.size w w' := by
  obtain ⟨w1, hrun, r0, b0, hsz1⟩ : ∃ w1, (Instr.makeSlice 37 (.int .i64 (n : Int)) (.int .i64 (n : Int))).run Try.prog w = .ok (.slice (some ⟨w.heap.size, 0, none⟩) n n) w1 ∧
      w1.rowIs w.heap.size 4 n (fun _ => .bool false) ∧ Below w.heap.size w w1 ∧ w1.heap.size = w.heap.size + 1 :=
    ⟨_, run_make_row' (P := Try.prog) 37 4 (.bool false) 1 Try.underlying37 info4 rfl .i64 .i64 n (by omega) (by omega) w, World.rowIs_made w (.bool false) n 4, (Below.refl _ _).alloc (Nat.le_refl _) _, by simp⟩
  have hh := R.lt 0 (by omega)
  have hmn := R.mn
  have hzn := hNr.lt
  have r1 := r0.set (nd 0) (.bool true)
  have r2 := hid (r1.congr (g := fun x => .bool (Pl.memTo nd 0 x)) (fun x _ => by simp only [Pl.memTo]; split <;> rfl))
  have b1 := hid (b0.setCell (p := ⟨w.heap.size, nd 0, none⟩) (Nat.le_refl _) (.bool true))
  have c0 := r0.cell hh
  have f0 := r0.frozen (nd 0)
  have cN0 : (w1.setCell ⟨w.heap.size, nd 0, none⟩ (.bool true)).cell? ⟨bn, nd 0, none⟩ = some (.int .i32 (Pl.ndx nd m (0 + 1))) := by
    rw [b1.out.cell (by exact hzn), hNr.cell hh, R.next 0 (by omega)]
  clear r0 r1 b0 hsz1
  go_enter Try.func20, Try.ntmps20
  go_wp2_with fail
  clear hrun c0 f0 cN0
  go_loopg [6, 7] m (fun gk x i wr => ∃ k : Nat, k + gk = m ∧ i = .int .i64 k ∧ x = .int .i32 (Pl.ndx nd m (k + 1)) ∧ wr.rowIs w.heap.size 4 n (fun x => .bool (Pl.memTo nd k x)) ∧ Below w.heap.size w wr)
  case atStart => exact ⟨0, by omega, rfl, rfl, r2.out, b1.out⟩
  case round =>
    obtain ⟨k, hk, rfl, rfl, hrow, hbel⟩ := hrel
    by_cases hkm : k < m
    · have hlt := R.lt (k + 1) (by omega)
      have hkn : k < n := by omega
      rw [Pl.ndx, if_pos (by omega)]
      have t1 : ((nd (k + 1) : Int) != nd 0) = true := by
        rw [bne_iff_ne]; intro h; have := R.inj (i := k + 1) (j := 0) (by omega) (by omega) (by omega); omega
      have hrow2 := hrow.set (nd (k + 1)) (.bool true)
      have hrow3 := hid (hrow2.congr (g := fun x => .bool (Pl.memTo nd (k + 1) x)) (fun x _ => by
        show (if x = nd (k + 1) then Value.bool true else .bool (Pl.memTo nd k x)) = .bool (if x = nd (k + 1) then true else Pl.memTo nd k x)
        split <;> rfl))
      have b2 := hid (hbel.setCell (p := ⟨w.heap.size, nd (k + 1), none⟩) (Nat.le_refl _) (.bool true))
      have cM := hrow.cell hlt
      have fM := hrow.frozen (nd (k + 1))
      have cN : (wr.setCell ⟨w.heap.size, nd (k + 1), none⟩ (.bool true)).cell? ⟨bn, nd (k + 1), none⟩ = some (.int .i32 (Pl.ndx nd m (k + 1 + 1))) := by
        rw [b2.out.cell (by exact hzn), hNr.cell hlt, R.next (k + 1) (by omega)]
      have HK := hid hk
      generalize Pl.memTo nd k (nd (k + 1)) = mv at cM
      clear hk hrow hrow2
      go_wp2
      go_roundg (gk - 1)
      case measure => have := HK.out; omega
      case rel => exact ⟨k + 1, by have := HK.out; omega, by go_num, rfl, hrow3.out, b2.out⟩
    · have hkm' : k = m := by omega
      subst hkm'
      rw [Pl.ndx, if_neg (by omega)]
      have t1 : ((nd 0 : Int) != nd 0) = false := by simp
      have hkn : k < n := by omega
      clear hk
      go_wp2
      go_ret
      exact ⟨rfl, hrow, hbel⟩
end Go.Proofs.Qxb6603909a
