import Derived.Test.Qxb6603909aClone
import Derived.Test.Qxb6603909aPlain2
namespace Go.Proofs.Qxb6603909a
open Go.RowKit
set_option linter.unusedVariables false
set_option linter.unusedSimpArgs false

/-- growth^k as the running product of floats gives it: none where it is a NaN -/
def allow (g : Nat) : Nat → Option Nat
  | 0 => some 4607182418800017408
  | k + 1 => (allow g k).bind (fun x => FloatKind.f64.format.mul x g)

/-- the range of 2^k labels is too full for c nodes -/
def skips (g k c : Nat) : Bool :=
  match allow g k with
  | none => false
  | some r => FloatKind.f64.format.order (floatOfInt .f64 ((c : Int) + 1)) r == some .gt

theorem read_nan (t : Nat) : ∃ s f, Ieee.double.read ((t % 2) * 2 ^ 63 + 0x7ff0000000000000 + 1 + (t / 2) % (2 ^ 52 - 1)) = .nan s f := by
  generalize hq : (t % 2) * 2 ^ 63 + 0x7ff0000000000000 + 1 + (t / 2) % (2 ^ 52 - 1) = q
  have h1 : t % 2 < 2 := Nat.mod_lt _ (by decide)
  have h2 : (t / 2) % (2 ^ 52 - 1) < 2 ^ 52 - 1 := Nat.mod_lt _ (by decide)
  have h3 : q % 9223372036854775808 = 9218868437227405312 + 1 + (t / 2) % (2 ^ 52 - 1) := by omega
  have e1 : Ieee.double.signWeight = 9223372036854775808 := by decide
  have e2 : Ieee.double.binade = 4503599627370496 := by decide
  have e3 : Ieee.double.infRung = 9218868437227405312 := by decide
  simp only [Ieee.Format.read, e1, e2, e3]
  rw [if_neg (by omega), if_neg (by omega), if_neg (by omega)]
  exact ⟨_, _, rfl⟩

/-- a product that is a NaN: its bits are drawn, and nothing is greater than it -/
theorem run_mul_nan (x y : Nat) (h : FloatKind.f64.format.mul x y = none) :
    ∃ qn : World → Nat, (∀ w, (binOp .mul 29 (.float .f64 x) (.float .f64 y)).run Try.prog w = .ok (.float .f64 (qn w)) w.drew) ∧ ∀ w a, (FloatKind.f64.format.order a (qn w) == some .gt) = false := by
  refine ⟨fun w => Question.cut (.nanBits .f64 x y) (w.tape w.drawn (.nanBits .f64 x y)), fun w => ?_, fun w a => ?_⟩
  · simp [binOp, Op.floatArith, h, Question.forced]
  · obtain ⟨s, f, e⟩ := read_nan (w.tape w.drawn (.nanBits .f64 x y))
    have e' : Ieee.double.read (Question.cut (.nanBits .f64 x y) (w.tape w.drawn (.nanBits .f64 x y))) = .nan s f := e
    show ((Ieee.double.read a).order (Ieee.double.read _) == _) = false
    rw [e']
    cases Ieee.double.read a <;> rfl

theorem run_mul_some (x y r : Nat) (h : FloatKind.f64.format.mul x y = some r) (w : World) : (binOp .mul 29 (.float .f64 x) (.float .f64 y)).run Try.prog w = .ok (.float .f64 r) w :=
  run_float_arith w .mul 29 .f64 x y r h

theorem wrap_pow (k : Nat) (hk : k ≤ 62) : IntKind.u64.wrap (2 ^ k) = 2 ^ k := by
  have h1 := Pl.pow_le k hk
  have h2 := Pl.two_pos k
  rw [IntKind.wrap_u64]
  omega

theorem andNot_lo (l : Int) (k : Nat) (hk : k ≤ 62) (h0 : 0 ≤ l) (h1 : l < 4611686018427387904) : bits BinOp.andNot IntKind.u64 l (2 ^ k - 1) = Pl.lo l k := by
  have p1 := Pl.pow_le k hk
  have p2 := Pl.two_pos k
  rw [u64_andNot l (2 ^ k - 1) h0 (by omega) (by omega) (by omega)]
  obtain ⟨a, rfl⟩ := Int.eq_ofNat_of_zero_le h0
  have e1 : ((2 : Int) ^ k - 1).toNat = 2 ^ k - 1 := by
    have : ((2 ^ k : Nat) : Int) = (2 : Int) ^ k := by simp
    omega
  have := Pl.and_mask a k (by omega) (by omega)
  rw [e1, Int.toNat_natCast]
  rw [show (18446744073709551615 : Nat) = 2 ^ 64 - 1 by decide, this]
  simp [Pl.lo]

end Go.Proofs.Qxb6603909a
