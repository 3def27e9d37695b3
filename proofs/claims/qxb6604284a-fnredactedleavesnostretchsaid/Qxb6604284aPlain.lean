import Derived.ProofKit
namespace Go.Proofs.Qxb6604284a

/-- the text's bytes from a to b -/
def seg (t : Nat → UInt8) (a b : Nat) : List UInt8 := (List.range (b - a)).map (fun k => t (a + k))

/-- what the model has written when it has read p bytes -/
def M (t : Nat → UInt8) (cov : Nat → Bool) : Nat → List UInt8
  | 0 => []
  | p + 1 => if cov p then (if p = 0 ∨ cov (p - 1) = false then M t cov p ++ [42, 42, 42] else M t cov p) else M t cov p ++ [t p]

theorem seg_self (t : Nat → UInt8) (a : Nat) : seg t a a = [] := by simp [seg]

theorem seg_succ (t : Nat → UInt8) {a b : Nat} (h : a ≤ b) : seg t a (b + 1) = seg t a b ++ [t b] := by
  unfold seg
  rw [show b + 1 - a = (b - a) + 1 by omega, List.range_succ]
  simp [show a + (b - a) = b by omega]

theorem M_shown (t : Nat → UInt8) (cov : Nat → Bool) {a b : Nat} (h : a ≤ b) (hc : ∀ p, a ≤ p → p < b → cov p = false) : M t cov b = M t cov a ++ seg t a b := by
  induction b with
  | zero => obtain rfl : a = 0 := by omega
            simp [seg_self]
  | succ b ih =>
    rcases Nat.lt_or_ge a (b + 1) with h1 | h1
    · rw [seg_succ t (by omega), M, if_neg (by simp [hc b (by omega) (by omega)]), ih (by omega) (fun p h2 h3 => hc p h2 (by omega)), List.append_assoc]
    · obtain rfl : a = b + 1 := by omega
      simp [seg_self]

/-- behind a covered byte the model is silent while the bytes are covered -/
theorem M_silent (t : Nat → UInt8) (cov : Nat → Bool) {a b : Nat} (h : a ≤ b) (h0 : 0 < a) (h1 : cov (a - 1) = true) (hc : ∀ p, a ≤ p → p < b → cov p = true) : M t cov b = M t cov a := by
  induction b with
  | zero => omega
  | succ b ih =>
    rcases Nat.lt_or_ge a (b + 1) with h2 | h2
    · have hb : cov (b - 1) = true := by
        rcases Nat.lt_or_ge a b with h3 | h3
        · exact hc (b - 1) (by omega) (by omega)
        · obtain rfl : a = b := by omega
          exact h1
      rw [M, if_pos (hc b (by omega) (by omega)), if_neg (by simp [hb]; omega), ih (by omega) (fun p h2 h3 => hc p h2 (by omega))]
    · obtain rfl : a = b + 1 := by omega
      rfl

/-- a run that starts at a -/
theorem M_run (t : Nat → UInt8) (cov : Nat → Bool) {a b : Nat} (h : a < b) (h1 : a = 0 ∨ cov (a - 1) = false) (hc : ∀ p, a ≤ p → p < b → cov p = true) : M t cov b = M t cov a ++ [42, 42, 42] := by
  rw [M_silent t cov (a := a + 1) (by omega) (by omega) (by simpa using hc a (by omega) h) (fun p h2 h3 => hc p (by omega) h3), M, if_pos (hc a (by omega) h), if_pos h1]

/-- what redacted's loop keeps: windows below i are looked through -/
structure Inv (t : Nat → UInt8) (cov : Nat → Bool) (hit : Nat → Prop) (n c i to : Nat) (out : List UInt8) : Prop where
  le : c ≤ to
  top : to ≤ i + n
  eq : M t cov to = if c < to then out ++ [42, 42, 42] else out
  ends : ∀ k, hit k → k < i → k + n ≤ to
  last : c < to → cov (to - 1) = true

/-- how the marks stem from the windows -/
structure Marks (cov : Nat → Bool) (hit : Nat → Prop) (n c L : Nat) : Prop where
  pos : 0 < n
  iff : ∀ p, cov p = true ↔ ∃ i, hit i ∧ i ≤ p ∧ p < i + n
  low : ∀ i, hit i → c ≤ i ∧ i + n ≤ L

theorem Marks.not {cov : Nat → Bool} {hit : Nat → Prop} {n c L p : Nat} (h : Marks cov hit n c L) (hp : ∀ i, hit i → i ≤ p → p < i + n → False) : cov p = false := by
  cases hc : cov p with
  | false => rfl
  | true => obtain ⟨i, h1, h2, h3⟩ := (h.iff p).1 hc; exact (hp i h1 h2 h3).elim

theorem inv_start {t : Nat → UInt8} {cov : Nat → Bool} {hit : Nat → Prop} {n c L : Nat} (h : Marks cov hit n c L) : Inv t cov hit n c c c (seg t 0 c) := by
  refine ⟨Nat.le_refl _, by omega, ?_, fun k h1 h2 => by have := (h.low k h1).1; omega, fun h => absurd h (Nat.lt_irrefl _)⟩
  · rw [if_neg (by omega), M_shown t cov (a := 0) (Nat.zero_le c) (fun p _ hp => h.not fun i h1 h2 h3 => by have := (h.low i h1).1; omega)]
    simp [M]

theorem Inv.miss {t : Nat → UInt8} {cov : Nat → Bool} {hit : Nat → Prop} {n c i to : Nat} {out : List UInt8} (h : Inv t cov hit n c i to out) (hm : ¬ hit i) : Inv t cov hit n c (i + 1) to out := by
  refine ⟨h.le, by have := h.top; omega, h.eq, fun k h1 h2 => ?_, h.last⟩
  rcases Nat.lt_or_ge k i with h3 | h3
  · exact h.ends k h1 h3
  · obtain rfl : k = i := by omega
    exact absurd h1 hm

theorem covered {cov : Nat → Bool} {hit : Nat → Prop} {n c L i : Nat} (m : Marks cov hit n c L) (hh : hit i) (p : Nat) (h1 : i ≤ p) (h2 : p < i + n) : cov p = true := (m.iff p).2 ⟨i, hh, h1, h2⟩

/-- a window that starts within the run, or at its end, or at the code's end -/
theorem Inv.near {t : Nat → UInt8} {cov : Nat → Bool} {hit : Nat → Prop} {n c L i to : Nat} {out : List UInt8} (m : Marks cov hit n c L) (h : Inv t cov hit n c i to out) (hh : hit i) (hi : i ≤ to) : Inv t cov hit n c (i + 1) (i + n) out := by
  have hci := (m.low i hh).1
  have hn := m.pos
  have ht := h.top
  refine ⟨by omega, by omega, ?_, fun k h1 h2 => by omega, fun _ => covered m hh _ (by omega) (by omega)⟩
  rw [if_pos (by omega)]
  have he := h.eq
  rcases Nat.lt_or_ge c to with h1 | h1
  · rw [if_pos h1] at he
    rw [M_silent t cov (a := to) (by omega) (by omega) (h.last h1) (fun p h2 h3 => covered m hh p (by omega) h3), he]
  · obtain rfl : to = c := by have := h.le; omega
    obtain rfl : i = to := by omega
    rw [if_neg (by omega)] at he
    rw [M_run t cov (a := i) (by omega) ?_ (fun p h2 h3 => covered m hh p (by omega) h3), he]
    rcases Nat.eq_zero_or_pos i with h2 | h2
    · exact .inl h2
    · exact .inr (m.not fun k h3 h4 h5 => by have := (m.low k h3).1; omega)

/-- a window behind the run -/
theorem Inv.far {t : Nat → UInt8} {cov : Nat → Bool} {hit : Nat → Prop} {n c L i to : Nat} {out : List UInt8} (m : Marks cov hit n c L) (h : Inv t cov hit n c i to out) (hh : hit i) (hi : to < i) :
    Inv t cov hit n c (i + 1) (i + n) ((if c < to then out ++ [42, 42, 42] else out) ++ seg t to i) := by
  have hn := m.pos
  have hl := h.le
  have none : ∀ p, to ≤ p → p < i → cov p = false := fun p h1 h2 => m.not fun k h3 h4 h5 => by
    have := h.ends k h3 (by omega)
    omega
  refine ⟨by omega, by omega, ?_, fun k h1 h2 => by omega, fun _ => covered m hh _ (by omega) (by omega)⟩
  rw [if_pos (by omega), ← h.eq, ← M_shown t cov (by omega) none, M_run t cov (a := i) (by omega) (.inr (none _ (by omega) (by omega))) (fun p h2 h3 => covered m hh p (by omega) h3)]

theorem Inv.done {t : Nat → UInt8} {cov : Nat → Bool} {hit : Nat → Prop} {n c L i to : Nat} {out : List UInt8} (m : Marks cov hit n c L) (h : Inv t cov hit n c i to out) (hL : to ≤ L) (hi : L < i + n) :
    (if c < to then out ++ [42, 42, 42] else out) ++ seg t to L = M t cov L := by
  rw [← h.eq, ← M_shown t cov hL (fun p h1 h2 => m.not fun k h3 h4 h5 => by
    have := h.ends k h3 (by have := (m.low k h3).2; omega)
    omega)]

end Go.Proofs.Qxb6604284a
