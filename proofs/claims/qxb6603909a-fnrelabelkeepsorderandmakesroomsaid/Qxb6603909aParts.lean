import Derived.Test.Qxb6603909aRelabel
import Derived.Test.Qxb6603909aRing2
namespace Go.Proofs.Qxb6603909a
open Go.RowKit
set_option linter.unusedVariables false
set_option linter.unusedSimpArgs false

theorem zzRelabel_any (bg bp bn n cg cp cn : Nat) (L P N : Nat → Int) (m p : Nat) (nd : Nat → Nat) (R : Pl.Ring L P N n m nd) (g : Nat) (w : World) (hn2 : n ≤ 1048576) (hp : p ≤ m)
    (hbp : bp ≠ bg) (hbn : bn ≠ bg)
    (hL : w.rowIs bg 39 n (fun i => .int .u64 (L i))) (hPr : w.rowIs bp 21 n (fun i => .int .i32 (P i))) (hNr : w.rowIs bn 21 n (fun i => .int .i32 (N i)))
    (k0 : Nat) (hk1 : 1 ≤ k0) (hk2 : k0 ≤ 62) (hsk : ∀ j, 1 ≤ j → j < k0 → skips g j (Pl.cC L nd m (L (nd p)) j) = true) (hns : skips g k0 (Pl.cC L nd m (L (nd p)) k0) = false) :
    Calls Try.prog 17 #[.slice (some ⟨bg, 0, none⟩) n cg, .slice (some ⟨bp, 0, none⟩) n cp, .slice (some ⟨bn, 0, none⟩) n cn, .int .i32 (nd 0), .float .f64 g, .int .i32 (nd p)] w fun e w' =>
      e = .returned (.tuple #[]) ∧ w'.rowIs bg 39 n (fun x => .int .u64 (Pl.newLab L nd m (L (nd p)) k0 x)) ∧ (∀ k, k ≠ bg → k < w.heap.size → w'.heap[k]? = w.heap[k]?) ∧ w.heap.size ≤ w'.heap.size ∧ w'.os = w.os ∧ w'.tape = w.tape ∧ w'.output = w.output := by
  have hzg := hL.lt
  go_enter Try.func17, Try.ntmps17
  go_wp2_with fail
  refine (relabel_any w.heap.size bg bp bn n cg cp cn L P N m p nd R g _ hn2 hp ⟨?_, ?_, ?_, ?_, ?_⟩ (by omega) hbp hbn (hL.alloc _) (hPr.alloc _) (hNr.alloc _) k0 hk1 hk2 hsk hns).mono ?_
  · simp
  · simp
  · simp
  · simp
  · simp
  rintro e w1 ⟨rfl, h1, h2, h3, h4, h5, h6⟩
  go_wp2
  go_end0
  refine ⟨rfl, h1, fun k ha hb => ?_, ?_, h4, h5, h6⟩
  · rw [h2 k ha (by simp; omega), Below.heap_alloc _ _ _ hb]
  · simp at h3; omega

theorem equalLabels_any (ba bb n ca cb : Nat) (L : Nat → Int) (w : World) (hn2 : n ≤ 1048576)
    (hA : w.rowIs ba 39 n (fun i => .int .u64 (L i))) (hB : w.rowIs bb 39 n (fun i => .int .u64 (L i))) :
    Calls Try.prog 18 #[.slice (some ⟨ba, 0, none⟩) n ca, .slice (some ⟨bb, 0, none⟩) n cb] w fun e w' => e = .returned (.bool true) ∧ Below w.heap.size w w' := by
  have t0 : ((n : Int) != n) = false := by simp
  go_enter Try.func18, Try.ntmps18
  go_wp2_with fail
  go_loopg [5] n (fun gk i wr => ∃ k : Nat, k + gk = n ∧ i = .int .i64 k ∧ Below w.heap.size w wr)
  case atStart => exact ⟨0, by omega, rfl, Below.refl _ _⟩
  case round =>
    obtain ⟨k, hk, rfl, hb⟩ := hrel
    by_cases hlt : k < n
    · have c1 : wr.cell? ⟨ba, k, none⟩ = some (.int .u64 (L k)) := by rw [hb.cell (by exact hA.lt), hA.cell hlt]
      have c2 : wr.cell? ⟨bb, k, none⟩ = some (.int .u64 (L k)) := by rw [hb.cell (by exact hB.lt), hB.cell hlt]
      have t1 : (L k != L k) = false := by simp
      have HK := hid hk
      clear hk
      go_wp2
      go_quiet (fail)
      go_wp2
      go_roundg (gk - 1)
      case measure => have := HK.out; omega
      case rel => exact ⟨k + 1, by have := HK.out; omega, by go_num, below_drewN hb _⟩
    · have hkn : k = n := by omega
      subst hkn
      clear hk
      go_wp2
      go_ret
      exact ⟨rfl, hb⟩

/-- ringOK, whatever the head and the place -/
theorem ringOK_any (bl bp bn n : Nat) (cl cp cn : Nat) (L P N : Nat → Int) (w : World) (head at' : Int) (hn : 0 < n) (hn2 : n ≤ 1048576) (hh : -2147483648 ≤ head ∧ head ≤ 2147483647) (ha : -2147483648 ≤ at' ∧ at' ≤ 2147483647)
    (hN : ∀ i, i < n → -2147483648 ≤ N i ∧ N i ≤ 2147483647)
    (hL : w.rowIs bl 39 n (fun i => .int .u64 (L i))) (hP : w.rowIs bp 21 n (fun i => .int .i32 (P i))) (hNr : w.rowIs bn 21 n (fun i => .int .i32 (N i))) :
    Calls Try.prog 15 #[.slice (some ⟨bl, 0, none⟩) n cl, .slice (some ⟨bp, 0, none⟩) n cp, .slice (some ⟨bn, 0, none⟩) n cn, .int .i32 head, .int .i32 at'] w fun e w' =>
      e = .returned (.bool (Pl.ringB L P N n head at')) ∧ Below w.heap.size w w' := by
  by_cases h1 : head < 0 ∨ (n : Int) ≤ head
  · refine (ringOK_head bl bp bn n cl cp cn w head at' hn hn2 h1 hh).mono ?_
    rintro e w' ⟨rfl, rfl⟩
    refine ⟨?_, Below.refl _ _⟩
    rw [Pl.ringB, if_neg (by omega)]
  · obtain ⟨hd, rfl⟩ : ∃ hd : Nat, head = hd := ⟨head.toNat, by omega⟩
    by_cases h2 : L hd = 0
    · refine (ringOK_go bl bp bn n cl cp cn L P N w hd at' hn2 (by omega) ha hN hL hP hNr h2).mono ?_
      rintro e w' ⟨rfl, hb⟩
      refine ⟨?_, hb⟩
      rw [Pl.ringB, if_pos ⟨by omega, by omega, by simpa using h2⟩]
      simp only [Int.toNat_natCast]
      rfl
    · refine (ringOK_lab bl bp bn n cl cp cn L w hd at' hn2 (by omega) hL h2).mono ?_
      rintro e w' ⟨rfl, rfl⟩
      refine ⟨?_, Below.refl _ _⟩
      rw [Pl.ringB, if_neg (by simp only [Int.toNat_natCast]; omega)]

/-- the bound on total length: whatever it says, it says so and touches nothing -/
theorem zzBytes13 (a0 a1 a2 : Option Addr) (l0 l1 l2 c0 c1 c2 : Nat) (head at' : Int) (g : Nat) (w : World) (h0 : l0 ≤ 9223372036854775807) (h1 : l1 ≤ 9223372036854775807) (h2 : l2 ≤ 9223372036854775807) :
    Calls Try.prog 13 #[.slice a0 l0 c0, .slice a1 l1 c1, .slice a2 l2 c2, .int .i32 head, .float .f64 g, .int .i32 at'] w fun e w' => w = w' ∧ ∃ b, e = .returned (.bool b) ∧ (b = true → l0 + l1 + l2 ≤ 1048576) := by
  go_enter Try.func13, Try.ntmps13
  go_wp2
  all_goals go_ret
  all_goals refine ⟨rfl, _, rfl, ?_⟩
  all_goals first | (intro h; cases h; done) | (intro _; omega)

/-- the bound on total length: whatever it says, it says so and touches nothing -/
theorem zzBytes19 (a0 a1 a2 : Option Addr) (l0 l1 l2 c0 c1 c2 : Nat) (head at' : Int) (g : Nat) (w : World) (h0 : l0 ≤ 9223372036854775807) (h1 : l1 ≤ 9223372036854775807) (h2 : l2 ≤ 9223372036854775807) :
    Calls Try.prog 19 #[.slice a0 l0 c0, .slice a1 l1 c1, .slice a2 l2 c2, .int .i32 head, .float .f64 g, .int .i32 at'] w fun e w' => w = w' ∧ ∃ b, e = .returned (.bool b) ∧ (b = true → l0 + l1 + l2 ≤ 1048576) := by
  go_enter Try.func19, Try.ntmps19
  go_wp2
  all_goals go_ret
  all_goals refine ⟨rfl, _, rfl, ?_⟩
  all_goals first | (intro h; cases h; done) | (intro _; omega)

theorem rowIs_below {w w' : World} {b t n : Nat} {f : Nat → Value} (h : w.rowIs b t n f) (hb : Below w.heap.size w w') : w'.rowIs b t n f := h.of_block (hb.block _ h.lt)

theorem IsRow.len_le {k : IntKind} {w : World} {a : Option Addr} {len cap : Nat} {zs : List Int} (h : IsRow k w a len cap zs) : len ≤ 9223372036854775807 := by
  rcases h with ⟨_, h, _⟩ | ⟨x, _, h1, h2, _⟩
  · omega
  · unfold maxLen at h2; omega

theorem IsRow.wf_at {k : IntKind} {w : World} {a : Option Addr} {len cap : Nat} {zs : List Int} (h : IsRow k w a len cap zs) (i : Nat) (hi : i < len) : (Lit.int k (zs.getD i 0)).wf = true := by
  rcases h with ⟨_, h, _⟩ | ⟨x, _, h1, h2, h3, _, h4⟩
  · omega
  · refine h4 _ ?_
    rw [List.getD_eq_getElem?_getD, List.getElem?_eq_getElem (by omega)]
    simp

theorem bd32 {x : Int} (h : (Lit.int .i32 x).wf = true) : -2147483648 ≤ x ∧ x ≤ 2147483647 := by
  have h2 : decide (IntKind.i32.min ≤ x ∧ x ≤ IntKind.i32.max) = true := by simpa [Lit.wf] using h
  have h3 := of_decide_eq_true h2
  simpa [IntKind.min, IntKind.max, IntKind.bits, IntKind.signed] using h3

theorem bdu64 {x : Int} (h : (Lit.int .u64 x).wf = true) : 0 ≤ x ∧ x ≤ 18446744073709551615 := by
  have h2 : decide (IntKind.u64.min ≤ x ∧ x ≤ IntKind.u64.max) = true := by simpa [Lit.wf] using h
  have h3 := of_decide_eq_true h2
  simpa [IntKind.min, IntKind.max, IntKind.bits, IntKind.signed] using h3
end Go.Proofs.Qxb6603909a
