import Derived.Test.Qxb6600446aWalk
namespace Go.Proofs.Qxb6600446a
open Go.RowKit

/-- no bit is left -/
theorem or_none {f l : Nat} (h : f ||| l = 0) (i : Nat) : f.testBit i = false ∧ l.testBit i = false := by
  have := congrArg (fun u : Nat => u.testBit i) h
  simp only [Nat.testBit_or, Nat.zero_testBit, Bool.or_eq_false_iff] at this
  exact this

theorem hi_bit_ge {x s i : Nat} (h : s ≤ i) : (hi x s).testBit i = x.testBit i := by rw [hi_bit]; simp [h]

theorem pow_lt64 {t : Nat} (h : t < 64) : 2 ^ t < 18446744073709551616 := by
  have : 2 ^ t < 2 ^ 64 := Nat.pow_lt_pow_right (by decide) h
  exact this

theorem word_done {F L : Nat → Nat} {k s : Nat} {o : Bool} (h : hi (F k) s ||| hi (L k) s = 0) (hs : s ≤ 64) (hsc : scan (fb F) (fb L) (64 * k + s) = some o) : scan (fb F) (fb L) (64 * (k + 1)) = some o := by
  rw [← hsc]
  refine scan_skip (by omega) (fun p h1 h2 => ?_) (fun p h1 h2 => ?_)
  · have := (or_none h (p - 64 * k)).1
    rw [hi_bit_ge (by omega)] at this
    rw [show p = 64 * k + (p - 64 * k) by omega, fb_at F k _ (by omega)]
    exact this
  · have := (or_none h (p - 64 * k)).2
    rw [hi_bit_ge (by omega)] at this
    rw [show p = 64 * k + (p - 64 * k) by omega, fb_at L k _ (by omega)]
    exact this

/-- what a round of the inner loop meets -/
theorem word_step {F L : Nat → Nat} {k s : Nat} {o : Bool} (hF : F k < 18446744073709551616) (hL : L k < 18446744073709551616) (h0 : hi (F k) s ||| hi (L k) s ≠ 0) (hsc : scan (fb F) (fb L) (64 * k + s) = some o) :
    ∃ t, s ≤ t ∧ t < 64 ∧ scan (fb F) (fb L) (64 * k + t) = some o ∧ (hi (F k) s ||| hi (L k) s) &&& (18446744073709551616 - (hi (F k) s ||| hi (L k) s)) = 2 ^ t ∧
      (∀ i, s ≤ i → i < t → (F k).testBit i = false) ∧ (∀ i, s ≤ i → i < t → (L k).testBit i = false) ∧ ((F k).testBit t = true ∨ (L k).testBit t = true) := by
  have h1 := hi_le (F k) s
  have h2 := hi_le (L k) s
  have hu : hi (F k) s ||| hi (L k) s < 18446744073709551616 := by
    have : hi (F k) s ||| hi (L k) s < 2 ^ 64 := Nat.or_lt_two_pow (by omega) (by omega)
    exact this
  obtain ⟨t, ht, hb, hz, hlow⟩ := low_bit _ h0 hu
  rw [Nat.testBit_or, hi_bit, hi_bit] at hb
  have hst : s ≤ t := by
    rcases Nat.lt_or_ge t s with h | h
    · simp [show ¬ s ≤ t by omega] at hb
    · exact h
  have hzf : ∀ i, s ≤ i → i < t → (F k).testBit i = false ∧ (L k).testBit i = false := fun i h3 h4 => by
    have := hz i h4
    rw [Nat.testBit_or, hi_bit_ge h3, hi_bit_ge h3, Bool.or_eq_false_iff] at this
    exact this
  refine ⟨t, hst, ht, ?_, hlow, fun i h3 h4 => (hzf i h3 h4).1, fun i h3 h4 => (hzf i h3 h4).2, ?_⟩
  · rw [← hsc]
    refine scan_skip (by omega) (fun p h3 h4 => ?_) (fun p h3 h4 => ?_)
    · rw [show p = 64 * k + (p - 64 * k) by omega, fb_at F k _ (by omega)]
      exact (hzf _ (by omega) (by omega)).1
    · rw [show p = 64 * k + (p - 64 * k) by omega, fb_at L k _ (by omega)]
      exact (hzf _ (by omega) (by omega)).2
  · simp [hst] at hb
    exact hb

/-- the word's bit cleared -/
theorem clear_bit {x s t : Nat} (hx : x < 18446744073709551616) (hst : s ≤ t) (ht : t < 64) (h : ∀ i, s ≤ i → i < t → x.testBit i = false) : bits .andNot .u64 (hi x s : Int) ((2 ^ t : Nat) : Int) = (hi x (t + 1) : Int) := by
  have := hi_le x s
  rw [bits_andNot_u64_nat _ _ (by omega) (pow_lt64 ht), andNot_hi hx hst h]

theorem test_bit {x s t : Nat} (hx : x < 18446744073709551616) (hst : s ≤ t) (ht : t < 64) : bits .and .u64 (hi x s : Int) ((2 ^ t : Nat) : Int) = if x.testBit t then ((2 ^ t : Nat) : Int) else 0 := by
  have := hi_le x s
  rw [bits_and_u64_nat _ _ (by omega) (pow_lt64 ht), and_pow, hi_bit_ge hst]
  cases x.testBit t <;> simp

theorem keep_bits {x s t : Nat} (hst : s ≤ t) (h : ∀ i, s ≤ i → i < t → x.testBit i = false) (hb : x.testBit t = false) : hi x s = hi x (t + 1) := hi_skip (by omega) (fun i h1 h2 => by
  by_cases e : i = t
  · subst e; exact hb
  · exact h i h1 (by omega))

set_option maxHeartbeats 1600000 in
set_option maxRecDepth 100000 in
theorem apart33 (b1 b2 : Nat) (F L : Nat → Nat) (w : World) (hF : Words w b1 F) (hL : Words w b2 L) :
    Calls Try.prog 33 #[.pointer (some ⟨b1, 0, none⟩), .pointer (some ⟨b2, 0, none⟩)] w fun e w' => e = .returned (.bool (scan (fb F) (fb L) 16384).isSome) ∧ ∃ q, w' = w.drewN q := by
  have HF := hidd hF
  have HL := hidd hL
  clear hF hL
  go_enter Try.func33, Try.ntmps33
  go_wp2_with fail
  go_loopg [5, 10] 256 (fun gk ov iv wr => ∃ (k : Nat) (o : Bool), k + gk = 256 ∧ ov = .bool o ∧ iv = .int .i64 k ∧ scan (fb F) (fb L) (64 * k) = some o ∧ ∃ q, wr = w.drewN q)
  case atStart => exact ⟨0, false, by omega, rfl, rfl, rfl, 0, rfl⟩
  case round =>
    obtain ⟨k, o, hk, rfl, rfl, hs, q, hq⟩ := hrel
    have HK := hidd hk
    have HS := hidd hs
    have HQ := hidd hq
    have hkb : k ≤ 256 := by omega
    clear hk hs hq
    obtain ⟨gO, rfl⟩ : ∃ gO, gO = gk := ⟨_, rfl⟩
    by_cases hlt : k < 256
    · have hx : wr.cell? ⟨b1, k, none⟩ = some (.int .u64 (F k : Int)) := by rw [HQ.out]; exact (HF.out k hlt).1
      have hy : wr.cell? ⟨b2, k, none⟩ = some (.int .u64 (L k : Int)) := by rw [HQ.out]; exact (HL.out k hlt).1
      have hfk := (HF.out k hlt).2
      have hlk := (HL.out k hlt).2
      go_wp2
      go_quiet (fail)
      have hwq : ∃ q', wr.drewN nq = w.drewN q' := by rw [HQ.out]; exact ⟨_, World.drewN_drewN ..⟩
      generalize wr.drewN nq = wx at hwq ⊢
      clear hx hy
      have HW := hidd hwq
      clear hwq
      go_wp2_with fail
      go_loopg [5, 7, 8] 64 (fun gk ov fv lv wy => ∃ (s f l : Nat) (o : Bool), s + gk = 64 ∧ ov = .bool o ∧ fv = .int .u64 (f : Int) ∧ lv = .int .u64 (l : Int) ∧ f = hi (F k) s ∧ l = hi (L k) s ∧ scan (fb F) (fb L) (64 * k + s) = some o ∧ wy = wx)
      case atStart => exact ⟨0, F k, L k, o, by omega, rfl, rfl, rfl, (hi_zero _).symm, (hi_zero _).symm, HS.out, rfl⟩
      case round =>
        clear HS HQ
        obtain ⟨s, f, l, o, hsg, rfl, rfl, rfl, hf, hl, hsc, rfl⟩ := hrel
        have HG := hidd hsg
        have hs64 : s ≤ 64 := by omega
        clear hsg
        have hfl : f < 18446744073709551616 := by have := hi_le (F k) s; omega
        have hll : l < 18446744073709551616 := by have := hi_le (L k) s; omega
        have hu : f ||| l < 18446744073709551616 := by
          have : f ||| l < 2 ^ 64 := Nat.or_lt_two_pow (by omega) (by omega)
          exact this
        have hor := bits_or_u64_nat f l hfl hll
        by_cases h0 : f ||| l = 0
        · have HN := hidd (show scan (fb F) (fb L) (64 * (k + 1)) = some o from word_done (by rw [← hf, ← hl]; exact h0) hs64 hsc)
          rw [h0] at hor
          have HF1 := hidd hf
          have HL1 := hidd hl
          clear h0 hf hl hsc hu
          have t1 : (((0 : Nat) : Int) != 0) = false := by decide
          go_wp2
          go_roundg (gO - 1)
          case measure => have := HK.out; omega
          case rel => exact ⟨k + 1, o, by have := HK.out; omega, rfl, by go_num, HN.out, HW.out⟩
        · obtain ⟨t, hst, ht, hsct, hlow, hzF, hzL, hone⟩ := word_step hfk hlk (by rw [← hf, ← hl]; exact h0) hsc
          rw [← hf, ← hl] at hlow
          have hneg : IntKind.u64.wrap (-((f ||| l : Nat) : Int)) = ((18446744073709551616 - (f ||| l) : Nat) : Int) := by rw [IntKind.wrap_u64]; omega
          have hand := bits_and_u64_nat (f ||| l) (18446744073709551616 - (f ||| l)) hu (by omega)
          rw [hlow] at hand
          have t1 : (((f ||| l : Nat) : Int) != 0) = true := by rw [bne_iff_ne]; exact fun e => h0 (Int.natCast_eq_zero.1 e)
          have hp0 : 0 < 2 ^ t := Nat.two_pow_pos t
          have tF := test_bit hfk hst ht
          have tL := test_bit hlk hst ht
          have cF := clear_bit hfk hst ht hzF
          have cL := clear_bit hlk hst ht hzL
          rw [← hf] at tF cF
          rw [← hl] at tL cL
          have t2 : (((2 ^ t : Nat) : Int) != 0) = true := by rw [bne_iff_ne]; exact fun e => by have := Int.natCast_eq_zero.1 e; omega
          have HF1 := hidd hf
          have HL1 := hidd hl
          have HSC := hidd hsct
          have HZF := hidd hzF
          have HZL := hidd hzL
          clear hf hl hsc hsct hlow hzF hzL h0 hu
          generalize (f ||| l : Nat) = u at hor hneg hand t1
          generalize (18446744073709551616 - u : Nat) = nu at hneg hand
          obtain ⟨lo, HLO⟩ : ∃ lo, Hid (lo = 2 ^ t) := ⟨_, hidd rfl⟩
          rw [← HLO.out] at hand t2 tF tL cF cL
          clear hp0
          have HPF := hidd (fb_at F k t ht)
          have HPL := hidd (fb_at L k t ht)
          cases bF : (F k).testBit t with
          | true =>
            rw [bF, if_pos rfl] at tF
            rw [bF] at HPF
            cases o with
            | true =>
              have HN := hidd (show (scan (fb F) (fb L) 16384).isSome = false from by rw [scan_none (scan_fail HSC.out HPF.out) (by omega)]; rfl)
              clear tL cL cF hone
              go_wp2
              go_ret
              rw [HN.out]
              exact ⟨rfl, HW.out⟩
            | false =>
              have hnx := scan_first HSC.out HPF.out
              cases bL : (L k).testBit t with
              | true =>
                rw [bL, if_pos rfl] at tL
                rw [HPL.out, bL] at hnx
                have HNX := hidd hnx
                clear hnx hone bL bF
                go_wp2
                go_roundg (64 - (t + 1))
                case measure => have := HG.out; omega
                case rel => exact ⟨t + 1, _, _, false, by omega, rfl, rfl, rfl, rfl, rfl, HNX.out, by trivial⟩
              | false =>
                rw [bL, if_neg (by decide)] at tL
                rw [HPL.out, bL] at hnx
                have HNX := hidd hnx
                have HKL := hidd (HL1.out.trans (keep_bits hst HZL.out bL))
                clear hnx hone bL bF cL
                go_wp2
                go_roundg (64 - (t + 1))
                case measure => have := HG.out; omega
                case rel => exact ⟨t + 1, _, l, true, by omega, rfl, rfl, rfl, rfl, HKL.out, HNX.out, by trivial⟩
          | false =>
            rw [bF, if_neg (by decide)] at tF
            rw [bF] at HPF
            have bL : (L k).testBit t = true := by rcases hone with h | h; rw [bF] at h; cases h; exact h
            rw [bL, if_pos rfl] at tL
            rw [bL] at HPL
            have HNX := hidd (scan_last HSC.out HPF.out HPL.out)
            have HKF := hidd (HF1.out.trans (keep_bits hst HZF.out bF))
            clear hone bL bF cF
            go_wp2
            go_roundg (64 - (t + 1))
            case measure => have := HG.out; omega
            case rel => exact ⟨t + 1, f, _, false, by omega, rfl, rfl, rfl, HKF.out, rfl, HNX.out, by trivial⟩
    · have hkk : k = 256 := by omega
      have HN := hidd (show (scan (fb F) (fb L) 16384).isSome = true from by
        have := HS.out
        rw [hkk] at this
        rw [this]
        rfl)
      have HKK := hidd hkk
      clear hkk
      go_wp2
      go_ret
      rw [HN.out]
      exact ⟨rfl, q, HQ.out⟩

end Go.Proofs.Qxb6600446a
