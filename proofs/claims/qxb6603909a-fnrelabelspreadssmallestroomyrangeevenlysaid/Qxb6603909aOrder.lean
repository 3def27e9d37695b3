import Derived.Test.Qxb6603909aClone
import Derived.Test.Qxb6603909aPlain
namespace Go.Proofs.Qxb6603909a
open Go.RowKit
set_option linter.unusedVariables false
set_option linter.unusedSimpArgs false

def seqTo (nd : Nat → Nat) (k : Nat) : List Value := (List.range k).map (fun i => Value.int .i32 (nd (i + 1)))
theorem seqTo_len (nd : Nat → Nat) (k : Nat) : (seqTo nd k).length = k := by simp [seqTo]
theorem seqTo_succ (nd : Nat → Nat) (k : Nat) : seqTo nd (k + 1) = seqTo nd k ++ [Value.int .i32 (nd (k + 1))] := by simp [seqTo, List.range_succ]
theorem seqTo_get (nd : Nat → Nat) (k j : Nat) (h : j < k) : (seqTo nd k)[j]? = some (Value.int .i32 (nd (j + 1))) := by simp [seqTo, h]

/-- the slice a (of length k) holds nd 1, .., nd k, in a block from B on -/
def SeqIs (w : World) (B : Nat) (a : Option Addr) (m : Nat) (nd : Nat → Nat) : Prop :=
  ∀ k, k < m → ∃ g, a = some ⟨g, 0, none⟩ ∧ B ≤ g ∧ g < w.heap.size ∧ ∀ j, j < m → w.cell? ⟨g, j, none⟩ = some (.int .i32 (nd (j + 1)))

theorem seqIs_of (w : World) (B : Nat) (v : Value) (m : Nat) (nd : Nat → Nat) (h : w.ownsRow B 21 1 v m (seqTo nd m)) : ∃ a c, v = .slice a m c ∧ SeqIs w B a m nd := by
  have h' := h
  obtain ⟨hl, h2⟩ := h
  rcases h2 with ⟨rfl, rfl⟩ | ⟨g, cap, cur, rfl, hB, hb, hc, hm, hs, ht⟩
  · exact ⟨none, 0, rfl, fun k hk => absurd hk (Nat.not_lt_zero _)⟩
  · refine ⟨_, _, rfl, fun k hk => ⟨g, rfl, hB, lt_of_block hb, fun j hj => ?_⟩⟩
    rw [h'.cellAt j (by omega), seqTo_get nd m j hj]

theorem ownBlock_ge {w : World} {base e size n : Nat} {v : Value} {xs : List Value} (h : w.ownsRow base e size v n xs) : ∀ k, v.ownBlock = some k → base ≤ k := by
  obtain ⟨hl, h2⟩ := h
  rcases h2 with ⟨rfl, rfl⟩ | ⟨g, cap, cur, rfl, hB, _⟩
  · intro k hk; simp [Value.ownBlock] at hk
  · intro k hk; simp [Value.ownBlock] at hk; omega

set_option maxHeartbeats 800000 in
theorem ringOrder_any (bn n cn : Nat) (L P N : Nat → Int) (m : Nat) (nd : Nat → Nat) (R : Pl.Ring L P N n m nd) (w : World) (hn2 : n ≤ 1048576)
    (hNr : w.rowIs bn 21 n (fun i => .int .i32 (N i))) :
    Calls Try.prog 29 #[.slice (some ⟨bn, 0, none⟩) n cn, .int .i32 (nd 0)] w fun e w' => ∃ a c, e = .returned (.slice a m c) ∧ SeqIs w' w.heap.size a m nd ∧ Below w.heap.size w w' := by
  obtain ⟨i0, hi, hz0, hz1, hz2⟩ := info_parts info21
  have hh := R.lt 0 (by omega)
  have hmn := R.mn
  -- the value behind 'next' at node k
  have hval : ∀ k, k ≤ m → N (nd k) = (if k < m then (nd (k + 1) : Int) else nd 0) := by
    intro k hk
    split
    · exact R.nx k (by assumption)
    · have : k = m := by omega
      subst this; exact R.back
  have c0 := hNr.cell hh
  rw [hval 0 (by omega)] at c0
  have H0 : Hid (∀ k, k ≤ m → N (nd k) = (if k < m then (nd (k + 1) : Int) else nd 0)) := hval
  clear hval
  obtain ⟨x0, hx0⟩ : ∃ x0 : Int, x0 = (if 0 < m then (nd (0 + 1) : Int) else nd 0) := ⟨_, rfl⟩
  rw [← hx0] at c0
  have HX : Hid (x0 = (if 0 < m then (nd (0 + 1) : Int) else nd 0)) := hx0
  clear hx0
  go_enter Try.func29, Try.ntmps29
  go_wp2
  clear c0
  go_loopw [5, 6, 7] (fun v x i wr => ∃ k : Nat, k ≤ m ∧ i = .int .i64 k ∧ x = .int .i32 (if k < m then (nd (k + 1) : Int) else nd 0) ∧ wr.ownsRow w.heap.size 21 1 v k (seqTo nd k) ∧ Below w.heap.size w wr) (fun _ _ i _ => n - (intOf i).toNat)
  case atStart => exact ⟨0, Nat.zero_le _, rfl, by rw [HX.out], World.ownsRow_nil _ _ _ _, Below.refl _ _⟩
  case round =>
    obtain ⟨k, hk, rfl, rfl, hown, hbel⟩ := hrel
    by_cases hkm : k < m
    · rw [if_pos hkm]
      have hne : ((nd (k + 1) : Int) != nd 0) = true := by
        rw [bne_iff_ne]
        intro h
        have := R.inj (i := k + 1) (j := 0) (by omega) (by omega) (by omega)
        omega
      have hlt := R.lt (k + 1) (by omega)
      have hkn : k < n := by omega
      have cN : ∀ w1, Below w.heap.size w w1 → w1.cell? ⟨bn, nd (k + 1), none⟩ = some (.int .i32 (if k + 1 < m then (nd (k + 1 + 1) : Int) else nd 0)) := by
        intro w1 hw1
        rw [hw1.cell (by exact hNr.lt), hNr.cell hlt, H0.out (k + 1) (by omega)]
      have HC : Hid (∀ w1, Below w.heap.size w w1 → w1.cell? ⟨bn, nd (k + 1), none⟩ = some (.int .i32 (if k + 1 < m then (nd (k + 1 + 1) : Int) else nd 0))) := cN
      clear cN
      have hsz := hbel.size
      go_wp2_with (at_builtin; refine wpList_append_own _ rfl _ _ 23 rfl w.heap.size 21 i0 (.int .i32 0) 1 4 Try.underlying23 hi hz0 hz1 hz2 rfl (by decide) _ _ _ rfl (hown.alloc _) ⟨wr.heap.size, 0, none⟩ 1 1 [.int .i32 (nd (k + 1))] rfl rfl ?c1 ?c2 ?c3 ?c4 ?c5 ?_)
      case c1 => exact cell_one_new _ _ _
      case c2 => intro u hu; simp at hu; subst hu; rfl
      case c3 => unfold maxLen; omega
      case c4 => omega
      case c5 => simp; omega
      intro v' w1 hown' hgrow _
      have hb1 : Below w.heap.size w w1 := (hbel.alloc hsz _).grown hgrow (by simp; omega) (ownBlock_ge hown)
      have cN := HC.out w1 hb1
      rw [← seqTo_succ] at hown'
      obtain ⟨x1, hx1⟩ : ∃ x1 : Int, x1 = (if k + 1 < m then (nd (k + 1 + 1) : Int) else nd 0) := ⟨_, rfl⟩
      rw [← hx1] at cN
      have HX1 : Hid (x1 = (if k + 1 < m then (nd (k + 1 + 1) : Int) else nd 0)) := hx1
      clear hx1 hown hgrow HC H0 HX hbel
      go_wp2
      go_roundw
      case rel => exact ⟨k + 1, by omega, by go_num, by rw [HX1.out], hown', hb1⟩
      case measure => simp [intOf]; omega
    · have hkm' : k = m := by omega
      subst hkm'
      rw [if_neg hkm]
      have hkn : k < n := by omega
      have hne : ((nd 0 : Int) != nd 0) = false := by simp
      obtain ⟨a, c, rfl, hs⟩ := seqIs_of _ _ _ _ _ hown
      go_wp2
      go_ret
      exact ⟨a, c, rfl, hs, hbel⟩
end Go.Proofs.Qxb6603909a
