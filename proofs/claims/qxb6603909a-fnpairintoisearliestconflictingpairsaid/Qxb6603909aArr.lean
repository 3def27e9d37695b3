import Derived.Test.Qxb6603909aClone
import Derived.Deep.DeepCutAuto
import Derived.Deep.LoopGhost
import Derived.Deep.CutBlock
namespace Go.Proofs.Qxb6603909a
open Go.RowKit
set_option linter.unusedVariables false
set_option linter.unusedSimpArgs false

theorem hidd {p : Prop} (h : p) : Hid p := h

/-- the slice with address a and n elements holds f 0, .., f (n-1), in a block of its own; of an empty one nothing is said -/
def Arr (k : IntKind) (t : TypeId) (w : World) (a : Option Addr) (n : Nat) (f : Nat → Int) : Prop :=
  0 < n → ∃ b, a = some ⟨b, 0, none⟩ ∧ w.rowIs b t n (fun i => .int k (f i))

theorem Arr.below {k : IntKind} {t : TypeId} {w w' : World} {a : Option Addr} {n : Nat} {f : Nat → Int} (h : Arr k t w a n f) (hb : Below w.heap.size w w') : Arr k t w' a n f := fun hn => by
  obtain ⟨b, e, r⟩ := h hn
  exact ⟨b, e, r.of_block (hb.block _ r.lt)⟩

/-- what nodeSteps asks of node k -/
def NodeP (S V : Nat → Int) (nS nV : Nat) (np k : Int) : Prop :=
  0 ≤ k ∧ k + 1 < nS ∧ 0 ≤ S k.toNat ∧ S k.toNat ≤ S (k.toNat + 1) ∧ S (k.toNat + 1) ≤ nV ∧ ∀ j : Nat, S k.toNat ≤ j → (j : Int) < S (k.toNat + 1) → 0 ≤ V j ∧ V j < np

set_option maxHeartbeats 800000 in
theorem nodeSteps_any (aS aV : Option Addr) (nS nV cS cV np : Nat) (S V : Nat → Int) (k : Int) (w : World) (hS : Arr .i64 3 w aS nS S) (hV : Arr .i32 21 w aV nV V) (h1 : nS ≤ 4096) (h2 : nV ≤ 4096) (h3 : np ≤ 4096)
    (hk : -2147483648 ≤ k ∧ k ≤ 2147483647) (hSb : ∀ i, i < nS → -9223372036854775808 ≤ S i ∧ S i ≤ 9223372036854775807) (hVb : ∀ i, i < nV → -2147483648 ≤ V i ∧ V i ≤ 2147483647) :
    Calls Try.prog 24 #[.slice aS nS cS, .slice aV nV cV, .int .i64 np, .int .i32 k] w fun e w' => w = w' ∧
      ((NodeP S V nS nV np k ∧ e = .returned (.tuple #[.int .i64 (S k.toNat), .int .i64 (S (k.toNat + 1)), .bool true])) ∨ (¬ NodeP S V nS nV np k ∧ e = .returned (.tuple #[.int .i64 0, .int .i64 0, .bool false]))) := by
  by_cases c1 : k < 0
  · go_enter Try.func24, Try.ntmps24
    go_wp2
    go_ret3
    exact ⟨rfl, .inr ⟨fun h => by have := h.1; omega, rfl⟩⟩
  by_cases c2 : (nS : Int) - 1 ≤ k
  · go_enter Try.func24, Try.ntmps24
    go_wp2
    go_ret3
    exact ⟨rfl, .inr ⟨fun h => by have := h.2.1; omega, rfl⟩⟩
  obtain ⟨kk, rfl⟩ : ∃ kk : Nat, k = kk := ⟨k.toNat, by omega⟩
  obtain ⟨bS, rfl, rS⟩ := hS (by omega)
  have hk1 : kk + 1 < nS := by omega
  have cA := rS.cell (i := kk) (by omega)
  have cB := rS.cell (i := kk + 1) hk1
  have bA := hSb kk (by omega)
  have bB := hSb (kk + 1) hk1
  have t1 : decide ((kk : Int) < 0) = false := by simp
  have t2 : decide ((nS : Int) - 1 ≤ (kk : Int)) = false := by simp; omega
  have e0 : (kk : Int).toNat = kk := Int.toNat_natCast kk
  have HN : Hid (NodeP S V nS nV np kk ↔ (0 ≤ S kk ∧ S kk ≤ S (kk + 1) ∧ S (kk + 1) ≤ nV ∧ ∀ j : Nat, S kk ≤ j → (j : Int) < S (kk + 1) → 0 ≤ V j ∧ V j < np)) := by
    show _ ↔ _
    unfold NodeP
    rw [e0]
    constructor
    · intro h; exact h.2.2
    · intro h; exact ⟨by omega, by omega, h⟩
  rw [e0]
  clear hS hSb e0 rS
  generalize hlo : S kk = lo at *
  generalize hhi : S (kk + 1) = hi at *
  clear hlo hhi
  by_cases c3 : lo < 0
  · go_enter Try.func24, Try.ntmps24
    go_wp2
    go_ret3
    exact ⟨rfl, .inr ⟨fun h => by have := HN.out.1 h; omega, rfl⟩⟩
  have t3 : decide (lo < 0) = false := by simp; omega
  by_cases c4 : hi < lo
  · go_enter Try.func24, Try.ntmps24
    go_wp2
    go_ret3
    exact ⟨rfl, .inr ⟨fun h => by have := HN.out.1 h; omega, rfl⟩⟩
  have t4 : decide (hi < lo) = false := by simp; omega
  by_cases c5 : (nV : Int) < hi
  · go_enter Try.func24, Try.ntmps24
    go_wp2
    go_ret3
    exact ⟨rfl, .inr ⟨fun h => by have := HN.out.1 h; omega, rfl⟩⟩
  have t5 : decide ((nV : Int) < hi) = false := by simp; omega
  obtain ⟨l, rfl⟩ : ∃ l : Nat, lo = l := ⟨lo.toNat, by omega⟩
  obtain ⟨h, rfl⟩ : ∃ h : Nat, hi = h := ⟨hi.toNat, by omega⟩
  have hlh : l ≤ h := by omega
  have hhV : h ≤ nV := by omega
  go_enter Try.func24, Try.ntmps24
  go_wp2_with fail
  go_loopg [13] (h - l) (fun gk j wr => ∃ jj : Nat, jj + gk = h ∧ l ≤ jj ∧ j = .int .i64 jj ∧ w = wr ∧ ∀ i : Nat, l ≤ i → i < jj → 0 ≤ V i ∧ V i < np)
  case atStart => exact ⟨l, by omega, Nat.le_refl _, rfl, rfl, fun i h1 h2 => by omega⟩
  case round =>
    obtain ⟨j, hj, hlj, rfl, rfl, hall⟩ := hrel
    have HJ := hidd hj
    have HA := hidd hall
    clear hj hall
    by_cases hlt : j < h
    · obtain ⟨bV, rfl, rV⟩ := hV (by omega)
      have cV := rV.cell (i := j) (by omega)
      have bV := hVb j (by omega)
      clear rV
      by_cases d1 : V j < 0
      · go_wp2
        go_ret3
        exact ⟨rfl, .inr ⟨fun h => by have := (HN.out.1 h).2.2.2 j (by omega) (by omega); omega, rfl⟩⟩
      by_cases d2 : (np : Int) ≤ V j
      · go_wp2
        go_ret3
        exact ⟨rfl, .inr ⟨fun h => by have := (HN.out.1 h).2.2.2 j (by omega) (by omega); omega, rfl⟩⟩
      go_wp2
      go_roundg (gk - 1)
      case measure => have := HJ.out; omega
      case rel =>
        refine ⟨j + 1, by have := HJ.out; omega, by omega, by go_num, rfl, fun i h1 h2 => ?_⟩
        by_cases e : i = j
        · subst e; omega
        · exact HA.out i h1 (by omega)
    · go_wp2
      go_ret3
      refine ⟨rfl, .inl ⟨HN.out.2 ⟨by omega, by omega, by omega, fun i h1 h2 => HA.out i (by omega) (by have := HJ.out; omega)⟩, rfl⟩⟩

theorem stepIndex_nil (c n : Nat) (p : Int) (w : World) (hp : -2147483648 ≤ p ∧ p ≤ 2147483647) :
    Calls Try.prog 33 #[.slice none n c, .int .i32 p] w fun e w' => w = w' ∧ e = .returned (.int .i64 p) := by
  have hq := fun w => Lib.run_eql_slice_nil (P := Try.prog) w 23 21 none n c 0 0 Try.underlying23
  go_enter Try.func33, Try.ntmps33
  go_wp2
  go_ret
  exact ⟨rfl, rfl⟩

theorem stepIndex_some (b n c p : Nat) (W : Nat → Int) (w : World) (hp : p < n) (hn : n ≤ 4096) (hr : w.rowIs b 21 n (fun i => .int .i32 (W i))) (hW : -2147483648 ≤ W p ∧ W p ≤ 2147483647) :
    Calls Try.prog 33 #[.slice (some ⟨b, 0, none⟩) n c, .int .i32 p] w fun e w' => w = w' ∧ e = .returned (.int .i64 (W p)) := by
  have hq := fun w => Lib.run_eql_slice_nil (P := Try.prog) w 23 21 (some ⟨b, 0, none⟩) n c 0 0 Try.underlying23
  have cW := hr.cell hp
  go_enter Try.func33, Try.ntmps33
  go_wp2
  go_ret
  exact ⟨rfl, rfl⟩
end Go.Proofs.Qxb6603909a
