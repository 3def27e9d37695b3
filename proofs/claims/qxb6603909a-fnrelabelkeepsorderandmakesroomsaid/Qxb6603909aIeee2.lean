/- Products of float64 numbers from 1 on; small whole numbers as float64. No Go program in sight. -/
import Derived.Test.Qxb6603909aIeee
set_option linter.unusedVariables false
set_option linter.unusedSimpArgs false
namespace Go.Proofs.Qxb6603909a.Fl
open Ieee

/-- the word of a number from 1 to 2^k -/
def Nrm (x k : Nat) : Prop := 4607182418800017408 ≤ x ∧ x ≤ 4607182418800017408 + k * 4503599627370496

theorem cut_bd (n d : Nat) (h : d ≤ n.log2 + 2) : n / 2 ^ d ≤ Toward.even.cut false n d ∧ Toward.even.cut false n d ≤ n / 2 ^ d + 1 ∧ (n % 2 ^ d = 0 → Toward.even.cut false n d = n / 2 ^ d) := by
  have hp := two_pos d
  have e : min d (n.log2 + 2) = d := by omega
  have hc : Toward.even.cut false n d = n / 2 ^ d + (2 ^ d < 2 * (n % 2 ^ d) || (2 ^ d == 2 * (n % 2 ^ d) && n / 2 ^ d % 2 == 1) : Bool).toNat := by
    simp only [Toward.cut, e, Nat.shiftLeft_eq, Nat.one_mul]
  rw [hc]
  generalize hb : (2 ^ d < 2 * (n % 2 ^ d) || (2 ^ d == 2 * (n % 2 ^ d) && n / 2 ^ d % 2 == 1) : Bool) = b
  refine ⟨by omega, ?_, ?_⟩
  · cases b <;> simp
  · intro h0
    rw [h0] at hb
    have : b = false := by
      rw [← hb]
      simp
    rw [this]; rfl

theorem nearest_eq (mag : Nat) (place : Int) (lg : Nat) (h0 : mag ≠ 0) (hlg : mag.log2 = lg) (h52 : 52 ≤ lg) (hpl : -1074 ≤ place + lg - 52) :
    double.nearest false mag place = min ((place + lg - 52 + 1074).toNat * 4503599627370496 + Toward.even.cut false mag (lg - 52)) 9218868437227405312 := by
  have e0 : (double.fractionBits : Int) = 52 := by decide
  have e1 : max (place + (lg : Int) - 52) (-1074) = place + lg - 52 := by omega
  have e2 : (place - (place + (lg : Int) - 52)).toNat = 0 := by omega
  have e3 : (place + (lg : Int) - 52 - place).toNat = lg - 52 := by omega
  have e4 : place + (lg : Int) - 52 - -1074 = place + lg - 52 + 1074 := by omega
  simp only [Format.nearest, if_neg h0, hlg, cP, cB, cI, e0, e1, e2, e3, e4, Nat.shiftLeft_eq, Nat.pow_zero, Nat.mul_one, Format.word, Bool.false_eq_true, if_false]

theorem bd_one (q c k B I : Nat) (hB : B = 4503599627370496) (hI : I = 9218868437227405312) (h1 : 1022 ≤ q) (h2 : B ≤ c) (h3 : q * B + c ≤ (1023 + k) * B) : Nrm (min (q * B + c) I) k := by
  have h4 : 1022 * B ≤ q * B := Nat.mul_le_mul_right _ h1
  have h5 : (1023 + k) * B = 1023 * B + k * B := Nat.add_mul _ _ _
  rw [h5] at h3
  have h6 : 1022 * B = 4602678819172646912 := by rw [hB]
  have h7 : 1023 * B = 4607182418800017408 := by rw [hB]
  have h8 : k * B = k * 4503599627370496 := by rw [hB]
  unfold Nrm
  rw [← h8, hI]
  generalize q * B = u at *
  generalize k * B = v at *
  constructor <;> omega

theorem ar1 (k j : Nat) : (1023 + k + (1023 + j) - 1024) * 4503599627370496 + 4503599627370496 ≤ (1023 + (k + j)) * 4503599627370496 := by
  have : 1023 + k + (1023 + j) - 1024 = 1022 + k + j := by omega
  rw [this]
  omega
theorem ar2 (qq ct kk : Nat) (hs : qq ≤ 1021 + kk) (hct : ct ≤ 9007199254740992) : qq * 4503599627370496 + ct ≤ (1023 + kk) * 4503599627370496 := by omega
theorem ar3 (t v : Nat) (ht : t ≤ 52) (hv : v < 9007199254740992) : min ((t + 1022) * 4503599627370496 + v) 9218868437227405312 < 9218868437227405312 := by omega
theorem ar4 (t v K : Nat) (h : K < t) (ht : t ≤ 52) (hv : 4503599627370496 ≤ v) : 4607182418800017408 + K * 4503599627370496 < min ((t + 1022) * 4503599627370496 + v) 9218868437227405312 := by omega
theorem ar5 (v K : Nat) (ht : K ≤ 52) (hv : 4503599627370496 < v) : 4607182418800017408 + K * 4503599627370496 < min ((K + 1022) * 4503599627370496 + v) 9218868437227405312 := by omega

theorem mul_norm (x g k j : Nat) (hx : Nrm x k) (hg : Nrm g j) (hkj : k + j ≤ 1000) : ∃ r, double.mul x g = some r ∧ Nrm r (k + j) := by
  obtain ⟨hx1, hx2⟩ := hx
  obtain ⟨hg1, hg2⟩ := hg
  have dx := Nat.div_add_mod x 4503599627370496
  have dg := Nat.div_add_mod g 4503599627370496
  have mx := Nat.mod_lt x (show 0 < 4503599627370496 by decide)
  have mg := Nat.mod_lt g (show 0 < 4503599627370496 by decide)
  have ex1 : mant x = 4503599627370496 + x % 4503599627370496 := by unfold mant; rw [if_neg (by omega)]
  have eg1 : mant g = 4503599627370496 + g % 4503599627370496 := by unfold mant; rw [if_neg (by omega)]
  have ex2 : ex x = x / 4503599627370496 - 1 := rfl
  have eg2 : ex g = g / 4503599627370496 - 1 := rfl
  have hm : double.mul x g = some (double.nearest false (mant x * mant g) (-1074 + (ex x : Int) + (-1074 + (ex g : Int)))) := by
    simp only [Format.mul, read_pos x (by omega), read_pos g (by omega), Datum.product, Option.map_some, Format.write, Bool.xor_self, bne_self_eq_false, Bool.false_xor]
  rw [hm]
  refine ⟨_, rfl, ?_⟩
  generalize hqx : x / 4503599627370496 = qx at *
  generalize hqg : g / 4503599627370496 = qg at *
  generalize hrx : x % 4503599627370496 = rx at *
  generalize hrg : g % 4503599627370496 = rg at *
  rw [ex1, eg1, ex2, eg2]
  have hlo : 4503599627370496 * 4503599627370496 ≤ (4503599627370496 + rx) * (4503599627370496 + rg) := Nat.mul_le_mul (by omega) (by omega)
  have hhi : (4503599627370496 + rx) * (4503599627370496 + rg) ≤ 9007199254740991 * 9007199254740991 := Nat.mul_le_mul (by omega) (by omega)
  have hz : rx = 0 → rg = 0 → (4503599627370496 + rx) * (4503599627370496 + rg) = 20282409603651670423947251286016 := by intro h1 h2; rw [h1, h2]
  have hz1 : rx = 0 → (4503599627370496 + rx) * (4503599627370496 + rg) < 40564819207303340847894502572032 := by intro h1; rw [h1]; omega
  have hz2 : rg = 0 → (4503599627370496 + rx) * (4503599627370496 + rg) < 40564819207303340847894502572032 := by intro h1; rw [h1]; omega
  generalize (4503599627370496 + rx) * (4503599627370496 + rg) = mag at *
  have hqx1 : 1023 ≤ qx := by omega
  have hqg1 : 1023 ≤ qg := by omega
  have hqx2 : qx ≤ 1023 + k := by omega
  have hqg2 : qg ≤ 1023 + j := by omega
  have hx0 : qx = 1023 + k → rx = 0 := by intro h; omega
  have hg0 : qg = 1023 + j → rg = 0 := by intro h; omega
  by_cases hb : mag < 40564819207303340847894502572032
  · have hlg : mag.log2 = 104 := (Nat.log2_eq_iff (by omega)).2 ⟨by omega, by omega⟩
    obtain ⟨c1, c2, c3⟩ := cut_bd mag 52 (by omega)
    rw [nearest_eq mag _ 104 (by omega) hlg (by decide) (by omega)]
    have d1 : mag / 2 ^ 52 ≤ 9007199254740991 := by omega
    have d2 : 4503599627370496 ≤ mag / 2 ^ 52 := by omega
    have e5 : (-1074 + ((qx - 1 : Nat) : Int) + (-1074 + ((qg - 1 : Nat) : Int)) + ((104 : Nat) : Int) - 52 + 1074).toNat = qx + qg - 1024 := by omega
    rw [e5]
    show Nrm (min ((qx + qg - 1024) * 4503599627370496 + Toward.even.cut false mag 52) 9218868437227405312) (k + j)
    by_cases hab : qx = 1023 + k ∧ qg = 1023 + j
    · have hmag := hz (hx0 hab.1) (hg0 hab.2)
      have e7 : mag / 2 ^ 52 = 4503599627370496 := by rw [hmag]
      have e8 : mag % 2 ^ 52 = 0 := by rw [hmag]
      have hc := c3 e8
      rw [e7] at hc
      rw [hc, hab.1, hab.2]
      exact bd_one _ _ _ _ _ rfl rfl (by omega) (Nat.le_refl _) (ar1 k j)
    · generalize Toward.even.cut false mag 52 = ct at *
      generalize mag / 2 ^ 52 = lw at *
      have hs : qx + qg - 1024 ≤ 1021 + (k + j) := by omega
      have hs1 : 1022 ≤ qx + qg - 1024 := by omega
      generalize qx + qg - 1024 = qq at *
      have hct : ct ≤ 9007199254740992 := by omega
      have hct2 : 4503599627370496 ≤ ct := by omega
      exact bd_one _ _ _ _ _ rfl rfl hs1 hct2 (ar2 _ _ _ hs hct)
  · have hlg : mag.log2 = 105 := (Nat.log2_eq_iff (by omega)).2 ⟨by omega, by omega⟩
    obtain ⟨c1, c2, c3⟩ := cut_bd mag 53 (by omega)
    rw [nearest_eq mag _ 105 (by omega) hlg (by decide) (by omega)]
    have d1 : mag / 2 ^ 53 ≤ 9007199254740991 := by omega
    have d2 : 4503599627370496 ≤ mag / 2 ^ 53 := by omega
    have e5 : (-1074 + ((qx - 1 : Nat) : Int) + (-1074 + ((qg - 1 : Nat) : Int)) + ((105 : Nat) : Int) - 52 + 1074).toNat = qx + qg - 1023 := by omega
    rw [e5]
    show Nrm (min ((qx + qg - 1023) * 4503599627370496 + Toward.even.cut false mag 53) 9218868437227405312) (k + j)
    have ha : qx ≠ 1023 + k := fun h => hb (hz1 (hx0 h))
    have hbb : qg ≠ 1023 + j := fun h => hb (hz2 (hg0 h))
    generalize Toward.even.cut false mag 53 = ct at *
    generalize mag / 2 ^ 53 = lw at *
    have hs : qx + qg - 1023 ≤ 1021 + (k + j) := by omega
    have hs1 : 1022 ≤ qx + qg - 1023 := by omega
    generalize qx + qg - 1023 = qq at *
    have hct : ct ≤ 9007199254740992 := by omega
    have hct2 : 4503599627370496 ≤ ct := by omega
    exact bd_one _ _ _ _ _ rfl rfl hs1 hct2 (ar2 _ _ _ hs hct)

/-- 1 * g = g -/
theorem one_mul (g : Nat) (h1 : 4607182418800017408 ≤ g) (h2 : g < 4611686018427387904) : double.mul 4607182418800017408 g = some g := by
  have dg := Nat.div_add_mod g 4503599627370496
  have mg := Nat.mod_lt g (show 0 < 4503599627370496 by decide)
  have eg1 : mant g = 4503599627370496 + g % 4503599627370496 := by unfold mant; rw [if_neg (by omega)]
  have eg2 : ex g = g / 4503599627370496 - 1 := rfl
  have e1 : mant 4607182418800017408 = 4503599627370496 := by decide
  have e2 : ex 4607182418800017408 = 1022 := by decide
  have hm : double.mul 4607182418800017408 g = some (double.nearest false (mant 4607182418800017408 * mant g) (-1074 + (ex 4607182418800017408 : Int) + (-1074 + (ex g : Int)))) := by
    simp only [Format.mul, read_pos 4607182418800017408 (by decide), read_pos g (by omega), Datum.product, Option.map_some, Format.write, Bool.xor_self, bne_self_eq_false, Bool.false_xor]
  rw [hm, e1, e2, eg1, eg2]
  have hq : g / 4503599627370496 = 1023 := by omega
  rw [hq]
  generalize hrg : g % 4503599627370496 = rg at *
  have hlg : (4503599627370496 * (4503599627370496 + rg)).log2 = 104 := (Nat.log2_eq_iff (by omega)).2 ⟨by omega, by omega⟩
  obtain ⟨c1, c2, c3⟩ := cut_bd (4503599627370496 * (4503599627370496 + rg)) 52 (by omega)
  have e6 : 4503599627370496 * (4503599627370496 + rg) / 2 ^ 52 = 4503599627370496 + rg := by omega
  have hc := c3 (by omega)
  rw [nearest_eq _ _ 104 (by omega) hlg (by decide) (by omega)]
  show some (min (_ + Toward.even.cut false (4503599627370496 * (4503599627370496 + rg)) 52) 9218868437227405312) = some g
  rw [hc, e6]
  have e5 : (-1074 + ((1022 : Nat) : Int) + (-1074 + ((1023 - 1 : Nat) : Int)) + ((104 : Nat) : Int) - 52 + 1074).toNat = 1022 := by decide
  rw [e5]
  congr 1
  omega

/-- a whole number N, as a float64: its word is above that of 2^K wherever N is above 2^K -/
theorem ofInt_word (N : Nat) (h1 : 1 ≤ N) (h2 : N ≤ 4503599627370496) :
    ∃ r, floatOfInt .f64 (N : Int) = r ∧ r < 9218868437227405312 ∧ ∀ K, K ≤ 62 → 2 ^ K < N → 4607182418800017408 + K * 4503599627370496 < r := by
  obtain ⟨t, ht⟩ : ∃ t, t = N.log2 := ⟨_, rfl⟩
  have hlg := (Nat.log2_eq_iff (n := N) (k := t) (by omega)).1 ht.symm
  have ht52 : t ≤ 52 := by
    rcases Nat.lt_or_ge 52 t with h | h
    · have : 2 ^ 53 ≤ 2 ^ t := Nat.pow_le_pow_right (by decide) h
      omega
    · exact h
  have hnear : floatOfInt .f64 (N : Int) = double.nearest false N 0 := by
    have e : decide ((N : Int) < 0) = false := by simp
    show double.write (.number (decide ((N : Int) < 0)) (N : Int).natAbs 0) = _
    rw [e, Int.natAbs_natCast]
    rfl
  have e0 : (double.fractionBits : Int) = 52 := by decide
  have e1 : max (0 + (t : Int) - 52) (-1074) = (t : Int) - 52 := by omega
  have e2 : (0 - ((t : Int) - 52)).toNat = 52 - t := by omega
  have e3 : ((t : Int) - 52 - 0).toNat = 0 := by omega
  have e4 : ((t : Int) - 52 - -1074).toNat = t + 1022 := by omega
  have hn2 : double.nearest false N 0 = min ((t + 1022) * 4503599627370496 + Toward.even.cut false (N * 2 ^ (52 - t)) 0) 9218868437227405312 := by
    simp only [Format.nearest, if_neg (show N ≠ 0 by omega), ← ht, cP, cB, cI, e0, e1, e2, e3, e4, Nat.shiftLeft_eq, Format.word, Bool.false_eq_true, if_false]
  have hc := (cut_bd (N * 2 ^ (52 - t)) 0 (by omega)).2.2 (by simp [Nat.mod_one])
  rw [Nat.pow_zero, Nat.div_one] at hc
  have hv1 : 2 ^ 52 ≤ N * 2 ^ (52 - t) := by
    have : 2 ^ t * 2 ^ (52 - t) ≤ N * 2 ^ (52 - t) := Nat.mul_le_mul_right _ hlg.1
    rw [← Nat.pow_add, show t + (52 - t) = 52 by omega] at this
    exact this
  have hv2 : N * 2 ^ (52 - t) < 2 ^ 53 := by
    have : N * 2 ^ (52 - t) < 2 ^ (t + 1) * 2 ^ (52 - t) := Nat.mul_lt_mul_of_pos_right hlg.2 (two_pos _)
    rw [← Nat.pow_add, show t + 1 + (52 - t) = 53 by omega] at this
    exact this
  refine ⟨_, hnear.trans hn2, ?_, ?_⟩
  · rw [hc]
    exact ar3 _ _ ht52 hv2
  · intro K hK hKN
    rw [hc]
    have hKt : K ≤ t := by
      rcases Nat.lt_or_ge t K with h | h
      · have : 2 ^ (t + 1) ≤ 2 ^ K := Nat.pow_le_pow_right (by decide) h
        omega
      · exact h
    rcases Nat.lt_or_ge K t with h | h
    · exact ar4 _ _ _ h ht52 hv1
    · have hKe : K = t := by omega
      subst hKe
      have : 2 ^ K * 2 ^ (52 - K) < N * 2 ^ (52 - K) := Nat.mul_lt_mul_of_pos_right hKN (two_pos _)
      rw [← Nat.pow_add, show K + (52 - K) = 52 by omega] at this
      exact ar5 _ _ ht52 this
end Go.Proofs.Qxb6603909a.Fl
