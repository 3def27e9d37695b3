import Derived.Test.Qxb6604284aBuilder
import Derived.Lib.SlBytesRow
import Derived.Deep.OwnRows
import Derived.Deep.QuietTactic
import Derived.BigQuiet
namespace Go.Proofs.Qxb6604284a
open Go.RowKit

/-- a string's byte, 0 behind its end -/
def tb (s : ByteArray) (i : Nat) : UInt8 := s.data.toList.getD i 0

theorem tb_get (s : ByteArray) (i : Nat) (h : i < s.size) : s[i] = tb s i := by
  have := byte_at s i h
  unfold tb
  rw [List.getD, this]
  rfl

theorem bytes_cell {w : World} {b : Nat} {s : ByteArray} (h : Lib.Bytes w b 0 s) {i : Nat} (hi : i < s.size) : w.cell? ⟨b, i, none⟩ = some (.int .u8 ((tb s i).toNat : Int)) := by
  have := h i hi
  rw [Nat.zero_add, tb_get] at this
  exact this

def Cap (x : UInt8) : Prop := 65 ≤ x.toNat ∧ x.toNat ≤ 90

def IsCaps (t : Nat → UInt8) (L k : Nat) : Prop := k ≤ L ∧ (∀ i, i < k → Cap (t i)) ∧ (k < L → ¬ Cap (t k))

/-- the length of the error's code -/
def IsCode (t : Nat → UInt8) (L c : Nat) : Prop := ∃ k, IsCaps t L k ∧ ((k < L ∧ (t k).toNat ≠ 32 ∧ c = 0) ∨ ((k < L → (t k).toNat = 32) ∧ c = k))

theorem IsCaps.unique {t : Nat → UInt8} {L k k' : Nat} (h : IsCaps t L k) (h' : IsCaps t L k') : k = k' := by
  obtain ⟨a1, a2, a3⟩ := h
  obtain ⟨b1, b2, b3⟩ := h'
  rcases Nat.lt_trichotomy k k' with h | h | h
  · exact absurd (b2 k h) (a3 (by omega))
  · exact h
  · exact absurd (a2 k' h) (b3 (by omega))

theorem IsCode.unique {t : Nat → UInt8} {L c c' : Nat} (h : IsCode t L c) (h' : IsCode t L c') : c = c' := by
  obtain ⟨k, h1, h2⟩ := h
  obtain ⟨k', h1', h2'⟩ := h'
  have e := h1.unique h1'
  subst e
  rcases h2 with ⟨h3, h4, rfl⟩ | ⟨h3, rfl⟩ <;> rcases h2' with ⟨h3', h4', rfl⟩ | ⟨h3', rfl⟩
  · rfl
  · exact absurd (h3' h3) h4
  · exact absurd (h3 h3') h4'
  · rfl

theorem IsCode.le {t : Nat → UInt8} {L c : Nat} (h : IsCode t L c) : c ≤ L := by
  obtain ⟨k, h1, h2⟩ := h
  have := h1.1
  rcases h2 with ⟨_, _, rfl⟩ | ⟨_, rfl⟩ <;> omega

theorem exists_caps (t : Nat → UInt8) (L : Nat) : ∃ k, IsCaps t L k := by
  induction L with
  | zero => exact ⟨0, Nat.le_refl _, fun i h => absurd h (by omega), fun h => absurd h (by omega)⟩
  | succ L ih =>
    obtain ⟨k, h1, h2, h3⟩ := ih
    by_cases hk : k < L
    · exact ⟨k, by omega, h2, fun _ => h3 hk⟩
    · have : k = L := by omega
      subst this
      by_cases hc : Cap (t k)
      · refine ⟨k + 1, Nat.le_refl _, fun i hi => ?_, fun h => absurd h (by omega)⟩
        by_cases e : i = k
        · subst e; exact hc
        · exact h2 i (by omega)
      · exact ⟨k, by omega, h2, fun _ => hc⟩

theorem exists_code (t : Nat → UInt8) (L : Nat) : ∃ c, IsCode t L c := by
  obtain ⟨k, hk⟩ := exists_caps t L
  by_cases h : k < L ∧ (t k).toNat ≠ 32
  · exact ⟨0, k, hk, .inl ⟨h.1, h.2, rfl⟩⟩
  · exact ⟨k, k, hk, .inr ⟨fun h1 => Classical.byContradiction fun h2 => h ⟨h1, h2⟩, rfl⟩⟩

theorem code_nil {t : Nat → UInt8} {c : Nat} (h : IsCode t 0 c) : c = 0 := by have := h.le; omega

/-! ### errorCode, function 22 -/
theorem errorCode_nil (w : World) : Calls Try.prog 22 #[.slice none 0 0] w fun e w' => (∃ X Y, e = .returned (.slice X 0 Y)) ∧ w' = w := by
  go_enter Try.func22, Try.ntmps22
  go_wp2
  refine wp_loop_rounds 1 ?_
  rw [rounds_succ]
  go_wp2
  go_ret
  exact ⟨⟨_, _, rfl⟩, rfl⟩

set_option maxHeartbeats 1000000 in
theorem errorCode_some (b L : Nat) (tx : ByteArray) (w : World) (hL : tx.size = L) (hm : L ≤ 4096) (hb : Lib.Bytes w b 0 tx) (c : Nat) (hc : IsCode (tb tx) L c) :
    Calls Try.prog 22 #[.slice (some ⟨b, 0, none⟩) L L] w fun e w' => (∃ X Y, e = .returned (.slice X c Y)) ∧ w' = w := by
  have hcell : ∀ i, i < L → ∃ z : Int, w.cell? ⟨b, i, none⟩ = some (.int .u8 z) ∧ Hid (z = ((tb tx i).toNat : Int)) := fun i hi => ⟨_, bytes_cell hb (by omega), rfl⟩
  clear hb
  have hL' : Hid (tx.size = L) := hL
  clear hL
  go_enter Try.func22, Try.ntmps22
  go_wp2
  go_loopw [3] (fun i wr => ∃ k : Nat, k ≤ L ∧ i = .int .i64 k ∧ (∀ j, j < k → Cap (tb tx j)) ∧ wr = w) (fun i _ => L - (intOf i).toNat)
  case atStart => exact ⟨0, Nat.zero_le _, rfl, fun j h => absurd h (by omega), rfl⟩
  case round =>
    obtain ⟨k, hk, rfl, hcap, rfl⟩ := hrel
    by_cases hlt : k < L
    · obtain ⟨z, hz, hzz⟩ := hcell k hlt
      by_cases h1 : 65 ≤ z
      · by_cases h2 : z ≤ 90
        · go_wp2
          go_roundw
          case rel =>
            refine ⟨k + 1, by omega, by go_num, fun j hj => ?_, by trivial⟩
            by_cases e : j = k
            · subst e
              have := hzz.out
              unfold Cap
              omega
            · exact hcap j (by omega)
          case measure => simp [intOf]; omega
        · have hK : IsCaps (tb tx) L k := ⟨hk, hcap, fun _ h => by have := hzz.out; unfold Cap at h; omega⟩
          by_cases h3 : z = 32
          · omega
          · have h4 : c = 0 := hc.unique ⟨k, hK, .inl ⟨hlt, by have := hzz.out; omega, rfl⟩⟩
            subst h4
            go_wp2
            go_ret
            exact ⟨⟨_, _, rfl⟩, rfl⟩
      · have hK : IsCaps (tb tx) L k := ⟨hk, hcap, fun _ h => by have := hzz.out; unfold Cap at h; omega⟩
        by_cases h3 : z = 32
        · have h4 : c = k := hc.unique ⟨k, hK, .inr ⟨fun _ => by have := hzz.out; omega, rfl⟩⟩
          subst h4 h3
          go_wp2
          go_ret
          exact ⟨⟨_, _, rfl⟩, rfl⟩
        · have h4 : c = 0 := hc.unique ⟨k, hK, .inl ⟨hlt, by have := hzz.out; omega, rfl⟩⟩
          subst h4
          go_wp2
          go_ret
          exact ⟨⟨_, _, rfl⟩, rfl⟩
    · have : k = L := by omega
      subst this
      have h4 : c = k := hc.unique ⟨k, ⟨hk, hcap, fun h => absurd h hlt⟩, .inr ⟨fun h => absurd h hlt, rfl⟩⟩
      subst h4
      go_wp2
      go_ret
      exact ⟨⟨_, _, rfl⟩, rfl⟩

end Go.Proofs.Qxb6604284a
