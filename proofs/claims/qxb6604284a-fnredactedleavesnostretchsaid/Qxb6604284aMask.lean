import Derived.Test.Qxb6604284aRed
import Derived.Test.Qxb6604284aModel
namespace Go.Proofs.Qxb6604284a
open Go.RowKit

def Res (tx pw : ByteArray) (c : Nat) : ByteArray := if pw.size = 0 then tx else ⟨(Out tx pw c).toArray⟩

theorem redacted_any (A : Option Addr) (tx pw : ByteArray) (w : World) (h : IsText w A tx) (hL : tx.size ≤ 4096) (hpm : pw.size ≤ 4096) (c : Nat) (hc : IsCode (tb tx) tx.size c) :
    Calls Try.prog 20 #[.slice A tx.size tx.size, .string pw] w fun e w' => e = .returned (.string (Res tx pw c)) ∧ Below w.heap.size w w' := by
  unfold Res
  by_cases hp : pw.size = 0
  · rw [if_pos hp]
    exact redacted_empty A tx pw w h hp
  · rw [if_neg hp]
    exact redacted_some A tx pw w h hL (by omega) hpm c hc

theorem model_any (A : Option Addr) (tx pw : ByteArray) (w : World) (h : IsText w A tx) (hL : tx.size ≤ 4096) (hpm : pw.size ≤ 4096) (c : Nat) (hc : IsCode (tb tx) tx.size c) :
    Calls Try.prog 10 #[.slice A tx.size tx.size, .string pw] w fun e w' => e = .returned (.string (Res tx pw c)) ∧ Below w.heap.size w w' := by
  unfold Res
  by_cases hp : pw.size = 0
  · rw [if_pos hp]
    exact model_empty A tx pw w h hp
  · rw [if_neg hp]
    exact model_some A tx pw w h hL (by omega) hpm c hc

theorem zz_any (A : Option Addr) (L : Nat) (tx pw : ByteArray) (w : World) (hl : tx.size = L) (h : IsText w A tx) (hL : L ≤ 4096) (hpm : pw.size ≤ 4096) (c : Nat) (hc : IsCode (tb tx) tx.size c) :
    Calls Try.prog 9 #[.slice A L L, .string pw] w fun e w' => e = .returned (.string (Res tx pw c)) ∧ Below w.heap.size w w' := by
  subst hl
  go_enter Try.func9, Try.ntmps9
  go_wp2_with fail
  refine (redacted_any A tx pw w h hL hpm c hc).mono ?_
  rintro e w' ⟨rfl, hb⟩
  go_wp2
  go_ret
  exact ⟨rfl, hb⟩

theorem isRow_len {k : IntKind} {w : World} {a : Option Addr} {len cap : Nat} {zs : List Int} (h : IsRow k w a len cap zs) : len ≤ 9223372036854775807 := by
  rcases h with ⟨_, rfl, _⟩ | ⟨x, _, h1, h2, _⟩
  · omega
  · unfold maxLen at h2; omega

set_option maxRecDepth 100000 in
theorem mask_walk (a0 : Option Addr) (len0 cap0 : Nat) (z0 : List Int) (a1 : ByteArray) (w : World) (w0 : IsRow .u8 w a0 len0 cap0 z0) (w1 : a1.size ≤ maxLen) :
    Calls Try.prog 3 #[.slice a0 len0 cap0, .string a1] w fun e w' => e = .returned (.bool true) ∧ Below w.heap.size w w' := by
  have b0 := isRow_len w0
  have b1 : a1.size ≤ 9223372036854775807 := by unfold maxLen at w1; omega
  go_enter Try.func3, Try.ntmps3
  go_wp2_with fail
  refine (bytes7 a0 len0 cap0 a1 w b0 b1).mono ?_
  rintro e w' ⟨rfl, b, rfl⟩
  cases b with
  | false =>
    go_wp2
    go_ret
    exact ⟨rfl, Below.refl _ _⟩
  | true =>
  by_cases s0 : 4096 < len0
  · go_wp2
    go_ret
    exact ⟨rfl, Below.refl _ _⟩
  by_cases s1 : 4096 < a1.size
  · go_wp2
    go_ret
    exact ⟨rfl, Below.refl _ _⟩
  go_wp2_with fail
  refine (clone8_any a0 len0 cap0 z0 w w0 (by omega)).mono ?_
  rintro e x1 ⟨A, tx, rfl, htx, hT, hb1⟩
  obtain ⟨c, hc⟩ := exists_code (tb tx) tx.size
  have HT := hidd hT
  have HB1 := hidd hb1
  have HL := hidd htx
  clear hT hb1 htx
  go_wp2_with fail
  refine (zz_any A len0 tx a1 x1 HL.out HT.out (by omega) (by omega) c hc).mono ?_
  rintro e x2 ⟨rfl, hb2⟩
  have HB2 := hidd hb2
  clear hb2
  go_wp2_with fail
  have hm := model_any A tx a1 x2 (HT.out.below HB2.out) (by have := HL.out; omega) (by omega) c hc
  rw [HL.out] at hm
  refine hm.mono ?_
  rintro e x3 ⟨rfl, hb3⟩
  have hbt : Below w.heap.size w x3 := HB1.out.trans ((HB2.out.mono HB1.out.size).trans (hb3.mono (Nat.le_trans HB1.out.size HB2.out.size)))
  clear hb3 hm
  go_wp2
  go_ret
  refine ⟨?_, hbt⟩
  simp

end Go.Proofs.Qxb6604284a
