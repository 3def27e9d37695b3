import Derived.Test.Qxb6600446aRows
import Derived.Test.Qxb6600446aPlain
import Derived.WalkKit
import Derived.WalkSpells
import Derived.WalkLawsBesides
import Derived.Below
import Derived.Deep.OwnRows
import Derived.Deep.QuietTactic
import Derived.BigQuiet
import Derived.Deep.LoopGhost
import Derived.WalkSmall
namespace Go.Proofs.Qxb6600446a
open Go.RowKit

theorem hidd {p : Prop} (h : p) : Hid p := h

/-- 256 words in a block -/
def Words (w : World) (b : Nat) (F : Nat → Nat) : Prop := ∀ i, i < 256 → w.cell? ⟨b, i, none⟩ = some (.int .u64 (F i : Int)) ∧ F i < 18446744073709551616

theorem Words.drewN {w : World} {b : Nat} {F : Nat → Nat} (h : Words w b F) (q : Nat) : Words (w.drewN q) b F := h

theorem bit_val (F : Nat → Nat) (p : Nat) (hlt : F (p / 64) < 18446744073709551616) : (bits BinOp.and IntKind.u64 ((F (p / 64) : Int) / 2 ^ (p % 64)) 1 == 1) = fb F p := by
  have e1 : ((F (p / 64) : Int) / 2 ^ (p % 64)) = ((F (p / 64) / 2 ^ (p % 64) : Nat) : Int) := by
    rw [Int.natCast_ediv, Int.natCast_pow]
    rfl
  have h2 : F (p / 64) / 2 ^ (p % 64) ≤ F (p / 64) := Nat.div_le_self _ _
  rw [e1, show (1 : Int) = ((1 : Nat) : Int) from rfl, bits_and_u64_nat _ 1 (by omega) (by decide), Nat.and_one_is_mod, fb_val]
  cases fb F p <;> rfl

set_option maxHeartbeats 1000000 in
theorem bit32 (b : Nat) (F : Nat → Nat) (p : Nat) (hp : p < 16384) (w : World) (hF : Words w b F) :
    Calls Try.prog 32 #[.pointer (some ⟨b, 0, none⟩), .int .i64 p] w fun e w' => e = .returned (.bool (fb F p)) ∧ w' = w := by
  obtain ⟨hc, hlt⟩ := hF (p / 64) (by omega)
  go_enter Try.func32, Try.ntmps32
  go_wp2
  go_ret
  rw [bit_val F p hlt]
  exact ⟨rfl, rfl⟩

/-- what the model keeps: the latest first byte below p -/
def Prev (f l : Nat → Bool) (p : Nat) (prev : Int) : Prop :=
  (prev = -1 ∧ scan f l p = some false) ∨ ∃ a : Nat, prev = a ∧ a < p ∧ ((scan f l p = some true ∧ ∀ q, a ≤ q → q < p → l q = false) ∨ (scan f l p = some false ∧ ∃ q, a ≤ q ∧ q < p ∧ l q = true))

theorem Prev.skip {f l : Nat → Bool} {p : Nat} {prev : Int} (h : Prev f l p prev) (hf : f p = false) : Prev f l (p + 1) prev := by
  rcases h with ⟨rfl, h⟩ | ⟨a, rfl, ha, ⟨h, h1⟩ | ⟨h, q, h1, h2, h3⟩⟩
  · exact .inl ⟨rfl, by rw [scan_more h hf]; simp⟩
  · right
    refine ⟨a, rfl, by omega, ?_⟩
    rw [scan_more h hf]
    cases hl : l p with
    | false =>
      left
      refine ⟨by simp, fun q h4 h5 => ?_⟩
      by_cases e : q = p
      · subst e; exact hl
      · exact h1 q h4 (by omega)
    | true => exact .inr ⟨by simp, p, by omega, by omega, hl⟩
  · right
    refine ⟨a, rfl, by omega, .inr ⟨by rw [scan_more h hf]; simp, q, h1, by omega, h3⟩⟩

theorem prev_new {f l : Nat → Bool} {p : Nat} (h : scan f l p = some false) (hf : f p = true) : Prev f l (p + 1) p := by
  right
  refine ⟨p, rfl, by omega, ?_⟩
  rw [scan_first h hf]
  cases hl : l p with
  | false =>
    left
    refine ⟨by simp, fun q h4 h5 => ?_⟩
    obtain rfl : q = p := by omega
    exact hl
  | true => exact .inr ⟨by simp, p, by omega, by omega, hl⟩

set_option maxHeartbeats 1600000 in
set_option maxRecDepth 100000 in
theorem model24 (b1 b2 : Nat) (F L : Nat → Nat) (w : World) (hF : Words w b1 F) (hL : Words w b2 L) :
    Calls Try.prog 24 #[.pointer (some ⟨b1, 0, none⟩), .pointer (some ⟨b2, 0, none⟩)] w fun e w' => e = .returned (.bool (scan (fb F) (fb L) 16384).isSome) ∧ w' = w := by
  have HF := hidd hF
  have HL := hidd hL
  clear hF hL
  go_enter Try.func24, Try.ntmps24
  go_wp2_with fail
  go_loopg [5, 6] 16384 (fun gk pv iv wr => ∃ (p : Nat) (prev : Int), p + gk = 16384 ∧ pv = .int .i64 prev ∧ iv = .int .i64 p ∧ Prev (fb F) (fb L) p prev ∧ wr = w)
  case atStart => exact ⟨0, -1, by omega, rfl, rfl, .inl ⟨rfl, rfl⟩, rfl⟩
  case round =>
    obtain ⟨p, prev, hp, rfl, rfl, hprev, rfl⟩ := hrel
    have HP := hidd hp
    have HV := hidd hprev
    have hpb : p ≤ 16384 := by omega
    clear hp hprev
    obtain ⟨gO, rfl⟩ : ∃ gO, gO = gk := ⟨_, rfl⟩
    by_cases hlt : p < 16384
    · go_wp2_with fail
      refine (bit32 b1 F p hlt wr HF.out).mono ?_
      rintro e w' ⟨rfl, rfl⟩
      cases hf : fb F p with
      | false =>
        have HN := hidd (HV.out.skip hf)
        clear hf
        go_wp2
        go_roundg (gO - 1)
        case measure => have := HP.out; omega
        case rel => exact ⟨p + 1, prev, by have := HP.out; omega, rfl, by go_num, HN.out, by trivial⟩
      | true =>
        rcases HV.out with ⟨rfl, hs⟩ | ⟨a, rfl, ha, hab⟩
        · have HN := hidd (prev_new hs hf)
          clear hf hs
          go_wp2
          go_roundg (gO - 1)
          case measure => have := HP.out; omega
          case rel => exact ⟨p + 1, p, by have := HP.out; omega, rfl, by go_num, HN.out, by trivial⟩
        · have HF1 := hidd hf
          have HAB := hidd hab
          clear hf hab
          go_wp2_with fail
          go_loopg [7, 8] (p - a) (fun gk cv qv wr => ∃ q : Nat, q + gk = p ∧ a ≤ q ∧ cv = .bool false ∧ qv = .int .i64 q ∧ (∀ r, a ≤ r → r < q → fb L r = false) ∧ wr = w')
          case atStart => exact ⟨a, by omega, Nat.le_refl _, rfl, rfl, fun r h1 h2 => by omega, rfl⟩
          case round =>
            obtain ⟨q, hq, haq, rfl, rfl, hall, rfl⟩ := hrel
            have HQ := hidd hq
            have HA := hidd hall
            have hqb : q ≤ p := by omega
            clear hq hall
            by_cases hqp : q < p
            · go_wp2_with fail
              refine (bit32 b2 L q (by omega) wr HL.out).mono ?_
              rintro e w'' ⟨rfl, rfl⟩
              cases hl : fb L q with
              | false =>
                have HN := hidd hl
                clear hl
                go_wp2
                go_roundg (gk - 1)
                case measure => have := HQ.out; omega
                case rel =>
                  refine ⟨q + 1, by have := HQ.out; omega, by omega, rfl, by go_num, fun r h1 h2 => ?_, by trivial⟩
                  by_cases e : r = q
                  · subst e; exact HN.out
                  · exact HA.out r h1 (by omega)
              | true =>
                have HN := hidd (show Prev (fb F) (fb L) (p + 1) p from by
                  rcases HAB.out with ⟨_, h⟩ | ⟨h, _⟩
                  · rw [h q haq hqp] at hl; cases hl
                  · exact prev_new h HF1.out)
                clear hl
                go_wp2
                go_roundg (gO - 1)
                case measure => have := HP.out; omega
                case rel => exact ⟨p + 1, p, by have := HP.out; omega, rfl, by go_num, HN.out, by trivial⟩
            · have HN := hidd (show (scan (fb F) (fb L) 16384).isSome = false from by
                rcases HAB.out with ⟨h, _⟩ | ⟨_, r, h1, h2, h3⟩
                · rw [scan_none (scan_fail h HF1.out) (by omega)]; rfl
                · rw [HA.out r h1 (by omega)] at h3; cases h3)
              go_wp2
              go_ret
              rw [HN.out]
              exact ⟨rfl, rfl⟩
    · have hpp : p = 16384 := by omega
      have HN := hidd (show (scan (fb F) (fb L) 16384).isSome = true from by
        have := HV.out
        rw [hpp] at this
        rcases this with ⟨_, h⟩ | ⟨_, _, _, ⟨h, _⟩ | ⟨h, _⟩⟩ <;> rw [h] <;> rfl)
      have HPP := hidd hpp
      clear hpp
      go_wp2
      go_ret
      rw [HN.out]
      exact ⟨rfl, rfl⟩

end Go.Proofs.Qxb6600446a
