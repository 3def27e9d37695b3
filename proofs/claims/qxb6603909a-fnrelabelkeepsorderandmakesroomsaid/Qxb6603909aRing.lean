import Derived.Test.Qxb6603909aClone
import Derived.Test.Qxb6603909aPlain
namespace Go.Proofs.Qxb6603909a
open Go.RowKit
set_option linter.unusedVariables false
set_option linter.unusedSimpArgs false

/-- lengths that do not fit: ringOK says no -/
theorem ringOK_len (a0 a1 a2 : Option Addr) (n n1 n2 c c1 c2 : Nat) (head at' : Int) (w : World) (h : n = 0 ∨ n1 ≠ n ∨ n2 ≠ n) :
    Calls Try.prog 15 #[.slice a0 n c, .slice a1 n1 c1, .slice a2 n2 c2, .int .i32 head, .int .i32 at'] w fun e w' => e = .returned (.bool false) ∧ w' = w := by
  by_cases h0 : n = 0
  · subst h0
    go_enter Try.func15, Try.ntmps15
    go_wp2
    go_ret
    exact ⟨rfl, rfl⟩
  · have g0 : ((n : Int) == 0) = false := by rw [beq_eq_false_iff_ne]; omega
    by_cases h1 : n1 = n
    · subst h1
      have g1 : ((n1 : Int) != n1) = false := by simp
      have g2 : ((n2 : Int) != n1) = true := by rw [bne_iff_ne]; omega
      go_enter Try.func15, Try.ntmps15
      go_wp2
      go_ret
      exact ⟨rfl, rfl⟩
    · have g1 : ((n1 : Int) != n) = true := by rw [bne_iff_ne]; omega
      go_enter Try.func15, Try.ntmps15
      go_wp2
      go_ret
      exact ⟨rfl, rfl⟩

section
variable (bl bp bn n : Nat) (cl cp cn : Nat) (L P N : Nat → Int) (w : World)

theorem ringOK_head (head at' : Int) (hn : 0 < n) (hn2 : n ≤ 1048576) (hh : head < 0 ∨ (n : Int) ≤ head) (hr : -2147483648 ≤ head ∧ head ≤ 2147483647) :
    Calls Try.prog 15 #[.slice (some ⟨bl, 0, none⟩) n cl, .slice (some ⟨bp, 0, none⟩) n cp, .slice (some ⟨bn, 0, none⟩) n cn, .int .i32 head, .int .i32 at'] w fun e w' => e = .returned (.bool false) ∧ w' = w := by
  have g0 : ((n : Int) == 0) = false := by rw [beq_eq_false_iff_ne]; omega
  have g1 : ((n : Int) != n) = false := by simp
  by_cases h0 : head < 0
  · go_enter Try.func15, Try.ntmps15
    go_wp2
    go_ret
    exact ⟨rfl, rfl⟩
  · have h1 : (n : Int) ≤ head := by omega
    go_enter Try.func15, Try.ntmps15
    go_wp2
    go_ret
    exact ⟨rfl, rfl⟩

theorem ringOK_lab (hd : Nat) (at' : Int) (hn2 : n ≤ 1048576) (hh : hd < n) (hL : w.rowIs bl 39 n (fun i => .int .u64 (L i))) (h0 : L hd ≠ 0) :
    Calls Try.prog 15 #[.slice (some ⟨bl, 0, none⟩) n cl, .slice (some ⟨bp, 0, none⟩) n cp, .slice (some ⟨bn, 0, none⟩) n cn, .int .i32 hd, .int .i32 at'] w fun e w' => e = .returned (.bool false) ∧ w' = w := by
  have g0 : ((n : Int) == 0) = false := by rw [beq_eq_false_iff_ne]; omega
  have g1 : ((n : Int) != n) = false := by simp
  have c0 := hL.cell hh
  have c1 : (L hd != 0) = true := by rw [bne_iff_ne]; exact h0
  go_enter Try.func15, Try.ntmps15
  go_wp2
  go_ret
  exact ⟨rfl, rfl⟩
end
end Go.Proofs.Qxb6603909a
