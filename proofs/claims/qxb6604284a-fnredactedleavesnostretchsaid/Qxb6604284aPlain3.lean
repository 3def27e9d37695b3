import Derived.Test.Qxb6604284aPlain2
namespace Go.Proofs.Qxb6604284a

theorem getD_left (a b : List UInt8) {i : Nat} (h : i < a.length) : (a ++ b).getD i 0 = a.getD i 0 := by
  simp [List.getD, List.getElem?_append_left h]
theorem getD_right (a b : List UInt8) {i : Nat} (h : a.length ≤ i) : (a ++ b).getD i 0 = b.getD (i - a.length) 0 := by
  simp [List.getD, List.getElem?_append_right h]

theorem M_prefix (t : Nat → UInt8) (cov : Nat → Bool) {a b : Nat} (h : a ≤ b) : ∃ r, M t cov b = M t cov a ++ r := by
  induction b with
  | zero => obtain rfl : a = 0 := by omega
            exact ⟨[], by simp⟩
  | succ b ih =>
    rcases Nat.lt_or_ge a (b + 1) with h1 | h1
    · obtain ⟨r, hr⟩ := ih (by omega)
      by_cases hc : cov b = true
      · by_cases hs : b = 0 ∨ cov (b - 1) = false
        · exact ⟨r ++ [42, 42, 42], by rw [M, if_pos hc, if_pos hs, hr, List.append_assoc]⟩
        · exact ⟨r, by rw [M, if_pos hc, if_neg hs, hr]⟩
      · exact ⟨r ++ [t b], by rw [M, if_neg hc, hr, List.append_assoc]⟩
    · obtain rfl : a = b + 1 := by omega
      exact ⟨[], by simp⟩

theorem seg_length (t : Nat → UInt8) (a b : Nat) : (seg t a b).length = b - a := by simp [seg]

theorem seg_getD (t : Nat → UInt8) {a b i : Nat} (h : i < b - a) : (seg t a b).getD i 0 = t (a + i) := by
  simp [seg, List.getD, h]

/-- ahead of the code's end the model's text is the text -/
theorem M_low {t : Nat → UInt8} {cov : Nat → Bool} {hit : Nat → Prop} {n c L : Nat} (m : Marks cov hit n c L) {p : Nat} (h : p ≤ c) : M t cov p = seg t 0 p := by
  rw [M_shown t cov (a := 0) (Nat.zero_le p) (fun q _ hq => m.not fun i h1 h2 h3 => by have := (m.low i h1).1; omega)]
  simp [M]

theorem M_code {t : Nat → UInt8} {cov : Nat → Bool} {hit : Nat → Prop} {n c L : Nat} (m : Marks cov hit n c L) (h : c ≤ L) : c ≤ (M t cov L).length ∧ ∀ k, k < c → (M t cov L).getD k 0 = t k := by
  obtain ⟨r, hr⟩ := M_prefix t cov h
  rw [hr, M_low m (Nat.le_refl c)]
  refine ⟨by rw [List.length_append, seg_length]; omega, fun k hk => ?_⟩
  rw [getD_left _ _ (by rw [seg_length]; omega), seg_getD t (by omega), Nat.zero_add]

/-- bytes of the model's text among which is no star are bytes of the text that are shown -/
theorem M_window {t : Nat → UInt8} {cov : Nat → Bool} {hit : Nat → Prop} {n c L : Nat} (mk : Marks cov hit n c L) (p : Nat) : ∀ i m, 0 < m → i + m ≤ (M t cov p).length → (∀ k, k < m → (M t cov p).getD (i + k) 0 ≠ 42) →
    ∃ q, q + m ≤ p ∧ (∀ k, k < m → (M t cov p).getD (i + k) 0 = t (q + k)) ∧ (∀ k, k < m → cov (q + k) = false) ∧ (i + m = (M t cov p).length → q + m = p) ∧ (c ≤ i → c ≤ q) := by
  induction p with
  | zero => intro i m h0 h1; simp [M] at h1; omega
  | succ p ih =>
    intro i m h0 h1 h2
    cases hc : cov p with
    | false =>
      have e : M t cov (p + 1) = M t cov p ++ [t p] := by rw [M, if_neg (by simp [hc])]
      rw [e] at h1 h2 ⊢
      rw [List.length_append, List.length_singleton] at h1
      rcases Nat.lt_or_ge (M t cov p).length (i + m) with h3 | h3
      · have h4 : i + m = (M t cov p).length + 1 := by omega
        have hlast : (M t cov p ++ [t p]).getD (i + (m - 1)) 0 = t p := by
          rw [getD_right _ _ (by omega), show i + (m - 1) - (M t cov p).length = 0 by omega]
          rfl
        rcases Nat.eq_zero_or_pos (m - 1) with h5 | h5
        · obtain rfl : m = 1 := by omega
          refine ⟨p, by omega, fun k hk => ?_, fun k hk => ?_, fun _ => rfl, fun hci => ?_⟩
          · obtain rfl : k = 0 := by omega
            exact hlast
          · obtain rfl : k = 0 := by omega
            exact hc
          · rcases Nat.lt_or_ge p c with h6 | h6
            · have := congrArg List.length (M_low (t := t) mk (Nat.le_of_lt h6))
              rw [seg_length] at this
              omega
            · exact h6
        · obtain ⟨q, g1, g2, g3, g4, g5⟩ := ih i (m - 1) h5 (by omega) (fun k hk => by have := h2 k (by omega); rwa [getD_left _ _ (by omega)] at this)
          have g6 := g4 (by omega)
          refine ⟨q, by omega, fun k hk => ?_, fun k hk => ?_, fun _ => by omega, g5⟩
          · by_cases ek : k = m - 1
            · rw [ek, hlast, show q + (m - 1) = p by omega]
            · rw [getD_left _ _ (by omega)]
              exact g2 k (by omega)
          · by_cases ek : k = m - 1
            · rw [ek, show q + (m - 1) = p by omega]
              exact hc
            · exact g3 k (by omega)
      · obtain ⟨q, g1, g2, g3, g4, g5⟩ := ih i m h0 h3 (fun k hk => by have := h2 k hk; rwa [getD_left _ _ (by omega)] at this)
        refine ⟨q, by omega, fun k hk => ?_, g3, fun h => ?_, g5⟩
        · rw [getD_left _ _ (by omega)]
          exact g2 k hk
        · rw [List.length_append, List.length_singleton] at h
          omega
    | true =>
      by_cases hs : p = 0 ∨ cov (p - 1) = false
      · have e : M t cov (p + 1) = M t cov p ++ [42, 42, 42] := by rw [M, if_pos hc, if_pos hs]
        rw [e] at h1 h2 ⊢
        rw [List.length_append] at h1
        simp only [List.length_cons, List.length_nil] at h1
        rcases Nat.lt_or_ge (M t cov p).length (i + m) with h3 | h3
        · exfalso
          apply h2 (m - 1) (by omega)
          rw [getD_right _ _ (by omega)]
          have : i + (m - 1) - (M t cov p).length < 3 := by omega
          generalize i + (m - 1) - (M t cov p).length = x at this
          match x, this with
          | 0, _ => rfl
          | 1, _ => rfl
          | 2, _ => rfl
        · obtain ⟨q, g1, g2, g3, g4, g5⟩ := ih i m h0 h3 (fun k hk => by have := h2 k hk; rwa [getD_left _ _ (by omega)] at this)
          refine ⟨q, by omega, fun k hk => ?_, g3, fun h => ?_, g5⟩
          · rw [getD_left _ _ (by omega)]
            exact g2 k hk
          · rw [List.length_append] at h
            simp only [List.length_cons, List.length_nil] at h
            omega
      · have e : M t cov (p + 1) = M t cov p := by rw [M, if_pos hc, if_neg hs]
        rw [e] at h1 h2 ⊢
        obtain ⟨q, g1, g2, g3, g4, g5⟩ := ih i m h0 h1 h2
        refine ⟨q, by omega, g2, g3, fun h => ?_, g5⟩
        exfalso
        have g6 := g4 h
        have g7 := g3 (m - 1) (by omega)
        apply hs
        right
        rw [← g7]
        congr 1
        omega

theorem tb_out (l : List UInt8) (i : Nat) : tb ⟨l.toArray⟩ i = l.getD i 0 := rfl
theorem out_size (l : List UInt8) : (⟨l.toArray⟩ : ByteArray).size = l.length := by simp [ByteArray.size]

theorem out_code (tx pw : ByteArray) (c : Nat) (hp : 0 < pw.size) (hc : c ≤ tx.size) : c ≤ (Out tx pw c).length ∧ ∀ k, k < c → (Out tx pw c).getD k 0 = tb tx k := M_code (marks tx pw (min 4 pw.size) c (by omega)) hc

theorem out_no (tx pw : ByteArray) (c i : Nat) (hp : 0 < pw.size) (hstar : ∀ j, j < pw.size → tb pw j ≠ 42) (hi : c ≤ i) (hl : i + min 4 pw.size ≤ (Out tx pw c).length) :
    ¬ Win (fun k => (Out tx pw c).getD k 0) i (min 4 pw.size) (tb pw) pw.size := by
  rintro ⟨j, h1, h2⟩
  have mk := marks tx pw (min 4 pw.size) c (by omega)
  obtain ⟨q, g1, g2, g3, _, g5⟩ := M_window (t := tb tx) mk tx.size i (min 4 pw.size) (by omega) hl (fun k hk => by
    have := h2 k hk
    rw [show (M (tb tx) (Cov tx pw (min 4 pw.size) c) tx.size).getD (i + k) 0 = _ from this]
    exact hstar _ (by omega))
  have hq : Hit tx pw (min 4 pw.size) c q := ⟨g5 hi, g1, j, h1, fun k hk => (g2 k hk).symm.trans (h2 k hk)⟩
  have := covered mk hq q (Nat.le_refl _) (by omega)
  have h3 := g3 0 (by omega)
  rw [Nat.add_zero, this] at h3
  cases h3

end Go.Proofs.Qxb6604284a
