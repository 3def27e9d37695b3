import Derived.Test.Qxb6604791aRows
import Derived.WalkKit
import Derived.WalkSpells
import Derived.WalkLawsBesides
import Derived.Lib.Strings
import Derived.Lib.Slices
import Derived.Lib.Walk
import Derived.Lib.Bytealg
import Derived.Laws.Externs
import Derived.Below
import Derived.Deep.OwnRows
import Derived.Deep.QuietTactic
import Derived.BigQuiet
import Derived.Deep.LoopGhost
import Derived.WalkSmall
namespace Go.Proofs.Qxb6604791a
open Go.RowKit

theorem hidd {p : Prop} (h : p) : Hid p := h

/-- strings.Compare's answer -/
def cb (a b : ByteArray) : Int := Lib.compareBytes a.data.toList b.data.toList

theorem compareString (a b : ByteArray) (w : World) :
    Calls Try.prog 41 #[.string a, .string b] w fun e w' => e = .returned (.int .i64 (cb a b)) ∧ w' = w := by
  go_enter Try.func41, Try.ntmps41
  go_wp2
  rw [run_callFunc_extern Try.func42 (by kernel_rfl) (by kernel_rfl) (by kernel_rfl) (e := Extern.BytealgCompare.compare) (by kernel_rfl), Lib.run_compareString]
  simp only [Result.andThen]
  rw [Oper.upon_value]
  go_wp2
  go_ret
  exact ⟨rfl, rfl⟩

theorem stringsCompare (a b : ByteArray) (w : World) :
    Calls Try.prog 40 #[.string a, .string b] w fun e w' => e = .returned (.int .i64 (cb a b)) ∧ w' = w := by
  go_enter Try.func40, Try.ntmps40
  go_wp2_with (go_at_call 41; refine (compareString _ _ _).mono ?_; rintro e w' ⟨rfl, rfl⟩)
  go_ret
  exact ⟨rfl, rfl⟩

/-- holdingKey.compare's answer -/
def ck (a0 a1 a2 a3 b0 b1 b2 b3 : ByteArray) : Int :=
  if cb a0 b0 ≠ 0 then cb a0 b0 else if cb a1 b1 ≠ 0 then cb a1 b1 else if cb a2 b2 ≠ 0 then cb a2 b2 else cb a3 b3

/-- a key -/
def key (a0 a1 a2 a3 : ByteArray) : Value := .agg #[.string a0, .string a1, .string a2, .string a3]

set_option maxHeartbeats 1000000 in
set_option maxRecDepth 100000 in
theorem compare36 (a0 a1 a2 a3 b0 b1 b2 b3 : ByteArray) (w : World) :
    Calls Try.prog 36 #[.agg #[.string a0, .string a1, .string a2, .string a3], .agg #[.string b0, .string b1, .string b2, .string b3]] w fun e w' => e = .returned (.int .i64 (ck a0 a1 a2 a3 b0 b1 b2 b3)) ∧ Below w.heap.size w w' := by
  have hb : Below w.heap.size w ((w.alloc (.cells #[.string a0, .string a1, .string a2, .string a3] 37)).alloc (.cells #[.string b0, .string b1, .string b2, .string b3] 37)) :=
    ((Below.refl _ _).alloc (Nat.le_refl _) _).alloc (by simp) _
  have HB := hidd hb
  clear hb
  by_cases h0 : cb a0 b0 = 0
  · have d0 : (cb a0 b0 != 0) = false := by simp [h0]
    by_cases h1 : cb a1 b1 = 0
    · have d1 : (cb a1 b1 != 0) = false := by simp [h1]
      by_cases h2 : cb a2 b2 = 0
      · have d2 : (cb a2 b2 != 0) = false := by simp [h2]
        have e : ck a0 a1 a2 a3 b0 b1 b2 b3 = cb a3 b3 := by unfold ck; simp [h0, h1, h2]
        rw [e]
        clear h0 h1 h2 e
        go_enter Try.func36, Try.ntmps36
        go_wp2_with (go_at_call 40; refine (stringsCompare _ _ _).mono ?_; rintro e w' ⟨rfl, rfl⟩)
        go_ret
        exact ⟨rfl, HB.out⟩
      · have d2 : (cb a2 b2 != 0) = true := by simp [h2]
        have e : ck a0 a1 a2 a3 b0 b1 b2 b3 = cb a2 b2 := by unfold ck; simp [h0, h1, h2]
        rw [e]
        clear h0 h1 h2 e
        go_enter Try.func36, Try.ntmps36
        go_wp2_with (go_at_call 40; refine (stringsCompare _ _ _).mono ?_; rintro e w' ⟨rfl, rfl⟩)
        go_ret
        exact ⟨rfl, HB.out⟩
    · have d1 : (cb a1 b1 != 0) = true := by simp [h1]
      have e : ck a0 a1 a2 a3 b0 b1 b2 b3 = cb a1 b1 := by unfold ck; simp [h0, h1]
      rw [e]
      clear h0 h1 e
      go_enter Try.func36, Try.ntmps36
      go_wp2_with (go_at_call 40; refine (stringsCompare _ _ _).mono ?_; rintro e w' ⟨rfl, rfl⟩)
      go_ret
      exact ⟨rfl, HB.out⟩
  · have d0 : (cb a0 b0 != 0) = true := by simp [h0]
    have e : ck a0 a1 a2 a3 b0 b1 b2 b3 = cb a0 b0 := by unfold ck; simp [h0]
    rw [e]
    clear h0 e
    go_enter Try.func36, Try.ntmps36
    go_wp2_with (go_at_call 40; refine (stringsCompare _ _ _).mono ?_; rintro e w' ⟨rfl, rfl⟩)
    go_ret
    exact ⟨rfl, HB.out⟩

set_option maxRecDepth 100000 in
theorem zzCompare (a0 a1 a2 a3 b0 b1 b2 b3 : ByteArray) (w : World) :
    Calls Try.prog 26 #[.agg #[.string a0, .string a1, .string a2, .string a3], .agg #[.string b0, .string b1, .string b2, .string b3]] w fun e w' => e = .returned (.int .i64 (ck a0 a1 a2 a3 b0 b1 b2 b3)) ∧ Below w.heap.size w w' := by
  have hb : Below w.heap.size w ((w.alloc (.cells #[.string a0, .string a1, .string a2, .string a3] 37)).alloc (.cells #[.string b0, .string b1, .string b2, .string b3] 37)) :=
    ((Below.refl _ _).alloc (Nat.le_refl _) _).alloc (by simp) _
  have HB := hidd hb
  clear hb
  go_enter Try.func26, Try.ntmps26
  go_wp2_with fail
  refine (compare36 a0 a1 a2 a3 b0 b1 b2 b3 _).mono ?_
  rintro e w' ⟨rfl, hb'⟩
  have HB' := hidd (HB.out.trans (hb'.mono (by simp; omega)))
  clear hb'
  go_wp2
  go_ret
  exact ⟨rfl, HB'.out⟩

set_option maxRecDepth 100000 in
theorem zzMake (a0 a1 a2 a3 : ByteArray) (w : World) :
    Calls Try.prog 23 #[.string a0, .string a1, .string a2, .string a3] w fun e w' => e = .returned (.agg #[.string a0, .string a1, .string a2, .string a3]) ∧ w' = w.alloc (.cells #[.string a0, .string a1, .string a2, .string a3] 37) := by
  go_enter Try.func23, Try.ntmps23
  go_wp2_with fail
  refine bodyPost_ret (v := .agg #[.string a0, .string a1, .string a2, .string a3]) (by simp [results, Try.results23, go_sem]) rfl ⟨rfl, rfl⟩

def AnyB (e : Ending) : Prop := ∃ r, e = .returned (.bool r)

end Go.Proofs.Qxb6604791a
