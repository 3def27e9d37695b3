/- The plain mathematics of the ring laws: no Go in sight. -/
set_option linter.unusedVariables false
set_option linter.unusedSimpArgs false
namespace Go.Proofs.Qxb6603909a.Pl

/-- A ring: nodes nd 0 (the head), nd 1, .., nd m, linked by N and P, their labels growing. -/
structure Ring (L P N : Nat → Int) (n m : Nat) (nd : Nat → Nat) : Prop where
  lt : ∀ i, i ≤ m → nd i < n
  nx : ∀ i, i < m → N (nd i) = nd (i + 1)
  back : N (nd m) = nd 0
  pv : ∀ i, i < m → P (nd (i + 1)) = nd i
  pv0 : P (nd 0) = nd m
  l0 : L (nd 0) = 0
  up : ∀ i, i < m → L (nd i) < L (nd (i + 1))
  lim : ∀ i, i ≤ m → L (nd i) < 4611686018427387904
  mn : m < n

def ringGo (L P N : Nat → Int) (n head : Nat) : Nat → Nat → (Nat → Bool) → Option (Nat → Bool)
  | 0, _, _ => none
  | f + 1, x, on =>
    if N x < 0 ∨ (n : Int) ≤ N x ∨ P (N x).toNat ≠ x then none
    else if N x = head then some on
    else if on (N x).toNat = true ∨ L (N x).toNat ≤ L x ∨ 4611686018427387904 ≤ L (N x).toNat then none
    else ringGo L P N n head f (N x).toNat (fun j => if j = (N x).toNat then true else on j)

def ringB (L P N : Nat → Int) (n : Nat) (head at' : Int) : Bool :=
  if 0 ≤ head ∧ head < n ∧ L head.toNat = 0 then
    match ringGo L P N n head.toNat n head.toNat (fun _ => false) with
    | none => false
    | some on => decide (at' = head) || (decide (0 ≤ at') && (decide (at' < n) && on at'.toNat))
  else false

theorem ringGo_sound (L P N : Nat → Int) (n head : Nat) : ∀ (f x : Nat) (on on' : Nat → Bool), x < n → L x < 4611686018427387904 → ringGo L P N n head f x on = some on' →
    ∃ (m : Nat) (nd : Nat → Nat), nd 0 = x ∧ m < f ∧ (∀ i, i ≤ m → nd i < n) ∧ (∀ i, i < m → N (nd i) = nd (i + 1)) ∧ N (nd m) = head ∧ (∀ i, i < m → P (nd (i + 1)) = nd i) ∧ P head = nd m ∧
      (∀ i, i < m → L (nd i) < L (nd (i + 1))) ∧ (∀ i, i ≤ m → L (nd i) < 4611686018427387904) ∧ ∀ j, on' j = true ↔ on j = true ∨ ∃ i, 1 ≤ i ∧ i ≤ m ∧ nd i = j := by
  intro f
  induction f with
  | zero => intro x on on' _ _ h; simp [ringGo] at h
  | succ f ih =>
    intro x on on' hx hlx h
    rw [ringGo] at h
    split at h
    · simp at h
    · rename_i h1
      have h1a : 0 ≤ N x := by omega
      have h1b : N x < n := by omega
      have h1c : P (N x).toNat = x := by
        rcases Decidable.em (P (N x).toNat = x) with h | h
        · exact h
        · exact absurd (Or.inr (Or.inr h)) h1
      split at h
      · rename_i h2
        simp at h
        subst h
        refine ⟨0, fun _ => x, rfl, Nat.succ_pos _, fun _ _ => hx, fun i hi => absurd hi (Nat.not_lt_zero _), h2, fun i hi => absurd hi (Nat.not_lt_zero _), ?_, fun i hi => absurd hi (Nat.not_lt_zero _), fun _ _ => hlx, ?_⟩
        · rw [h2] at h1c; simpa using h1c
        · intro j
          constructor
          · intro h; exact Or.inl h
          · rintro (h | ⟨i, h1, h2, _⟩)
            · exact h
            · omega
      · split at h
        · simp at h
        · rename_i h2 h3
          have h3b : L x < L (N x).toNat := by omega
          have h3c : L (N x).toNat < 4611686018427387904 := by omega
          obtain ⟨m, nd, e0, hm, hlt, hnx, hbk, hpv, hp0, hup, hlim, hon⟩ := ih (N x).toNat _ on' (by omega) h3c h
          refine ⟨m + 1, fun i => if i = 0 then x else nd (i - 1), rfl, by omega, ?_, ?_, ?_, ?_, ?_, ?_, ?_, ?_⟩
          · intro i hi
            by_cases e : i = 0
            · simp [e, hx]
            · simp only [e, if_false]; exact hlt _ (by omega)
          · intro i hi
            by_cases e : i = 0
            · subst e; simp [e0]; omega
            · have e2 : i + 1 ≠ 0 := by omega
              simp only [e, e2, if_false, Nat.add_sub_cancel]
              have := hnx (i - 1) (by omega)
              rw [this]
              congr 2
              omega
          · simp [hbk]
          · intro i hi
            by_cases e : i = 0
            · subst e; simp [e0, h1c]
            · have e2 : i + 1 ≠ 0 := by omega
              simp only [e, e2, if_false, Nat.add_sub_cancel]
              have := hpv (i - 1) (by omega)
              rw [← this]
              congr 2
              omega
          · simp [hp0]
          · intro i hi
            by_cases e : i = 0
            · subst e; simp [e0, h3b]
            · have e2 : i + 1 ≠ 0 := by omega
              simp only [e, e2, if_false, Nat.add_sub_cancel]
              have := hup (i - 1) (by omega)
              rwa [show i - 1 + 1 = i by omega] at this
          · intro i hi
            by_cases e : i = 0
            · simp [e, hlx]
            · simp only [e, if_false]; exact hlim _ (by omega)
          · intro j
            rw [hon j]
            constructor
            · rintro (h | ⟨i, ha, hb, hc⟩)
              · by_cases e : j = (N x).toNat
                · exact Or.inr ⟨1, by omega, by omega, by simp [e0, e]⟩
                · simp [e] at h; exact Or.inl h
              · exact Or.inr ⟨i + 1, by omega, by omega, by simpa using hc⟩
            · rintro (h | ⟨i, ha, hb, hc⟩)
              · left
                by_cases e : j = (N x).toNat
                · simp [e]
                · simp [e, h]
              · have hi0 : i ≠ 0 := by omega
                simp only [hi0, if_false] at hc
                by_cases e1 : i = 1
                · subst e1; left; simp at hc; rw [e0] at hc; simp [hc]
                · exact Or.inr ⟨i - 1, by omega, by omega, hc⟩

theorem Ring.mono {L P N : Nat → Int} {n m : Nat} {nd : Nat → Nat} (R : Ring L P N n m nd) : ∀ i j, i < j → j ≤ m → L (nd i) < L (nd j) := by
  intro i j
  induction j with
  | zero => intro h; omega
  | succ j ih =>
    intro h1 h2
    have := R.up j (by omega)
    by_cases e : i = j
    · subst e; exact this
    · have := ih (by omega) (by omega); omega

theorem Ring.inj {L P N : Nat → Int} {n m : Nat} {nd : Nat → Nat} (R : Ring L P N n m nd) {i j : Nat} (hi : i ≤ m) (hj : j ≤ m) (h : nd i = nd j) : i = j := by
  rcases Nat.lt_trichotomy i j with h1 | h1 | h1
  · have := R.mono i j h1 hj; rw [h] at this; omega
  · exact h1
  · have := R.mono j i h1 hi; rw [h] at this; omega

theorem ringGo_complete {L P N : Nat → Int} {n m : Nat} {nd : Nat → Nat} (R : Ring L P N n m nd) : ∀ (d f k : Nat) (on : Nat → Bool), k + d = m → d < f → (∀ j, on j = true ↔ ∃ i, 1 ≤ i ∧ i ≤ k ∧ nd i = j) →
    ∃ on', ringGo L P N n (nd 0) f (nd k) on = some on' ∧ ∀ j, on' j = true ↔ ∃ i, 1 ≤ i ∧ i ≤ m ∧ nd i = j := by
  intro d
  induction d with
  | zero =>
    intro f k on hk hf hon
    obtain ⟨f, rfl⟩ : ∃ g, f = g + 1 := ⟨f - 1, by omega⟩
    have hkm : k = m := by omega
    subst hkm
    refine ⟨on, ?_, hon⟩
    have h0 := R.lt 0 (by omega)
    rw [ringGo, if_neg, if_pos R.back]
    rw [R.back]
    have := R.pv0
    simp only [Int.toNat_natCast, this]
    omega
  | succ d ih =>
    intro f k on hk hf hon
    obtain ⟨f, rfl⟩ : ∃ g, f = g + 1 := ⟨f - 1, by omega⟩
    have hn := R.nx k (by omega)
    have hp := R.pv k (by omega)
    have h1 := R.lt (k + 1) (by omega)
    have hne : nd (k + 1) ≠ nd 0 := fun h => by have := R.inj (by omega) (by omega) h; omega
    have hoff : ¬ on (nd (k + 1)) = true := by
      rw [hon]
      rintro ⟨i, ha, hb, hc⟩
      have := R.inj (by omega) (by omega) hc
      omega
    have hup := R.up k (by omega)
    have hlim := R.lim (k + 1) (by omega)
    obtain ⟨on', g1, g2⟩ := ih f (k + 1) (fun j => if j = nd (k + 1) then true else on j) (by omega) (by omega) (by
      intro j
      by_cases e : j = nd (k + 1)
      · simp only [e, if_true, true_iff]
        exact ⟨k + 1, by omega, by omega, rfl⟩
      · simp only [e, if_false, hon]
        constructor
        · rintro ⟨i, ha, hb, hc⟩; exact ⟨i, ha, by omega, hc⟩
        · rintro ⟨i, ha, hb, hc⟩
          have : i ≠ k + 1 := fun h => e (by rw [← hc, h])
          exact ⟨i, ha, by omega, hc⟩)
    refine ⟨on', ?_, g2⟩
    rw [ringGo, hn]
    simp only [Int.toNat_natCast, hp]
    rw [if_neg (by omega), if_neg (by omega), if_neg (by rintro (h | h | h); exact hoff h; omega; omega)]
    exact g1

/-- What ringOK finds out. -/
theorem ringB_iff (L P N : Nat → Int) (n : Nat) (head at' : Int) :
    ringB L P N n head at' = true ↔ ∃ (m : Nat) (nd : Nat → Nat) (p : Nat), Ring L P N n m nd ∧ head = nd 0 ∧ p ≤ m ∧ at' = nd p := by
  constructor
  · intro h
    unfold ringB at h
    split at h
    · rename_i h0
      split at h
      · simp at h
      · rename_i on hgo
        obtain ⟨m, nd, e0, hm, hlt, hnx, hbk, hpv, hp0, hup, hlim, hon⟩ := ringGo_sound L P N n head.toNat n head.toNat (fun _ => false) on (by omega) (by omega) hgo
        have R : Ring L P N n m nd := ⟨hlt, hnx, by rw [hbk, e0], hpv, by rw [e0]; exact hp0, by rw [e0]; exact h0.2.2, hup, hlim, hm⟩
        have hh : head = nd 0 := by rw [e0]; omega
        simp only [Bool.or_eq_true, Bool.and_eq_true, decide_eq_true_eq] at h
        rcases h with h | ⟨h1, h2, h3⟩
        · exact ⟨m, nd, 0, R, hh, Nat.zero_le _, by omega⟩
        · rw [hon] at h3
          rcases h3 with h3 | ⟨i, ha, hb, hc⟩
          · simp at h3
          · exact ⟨m, nd, i, R, hh, hb, by omega⟩
    · simp at h
  · rintro ⟨m, nd, p, R, rfl, hp, rfl⟩
    have h0 := R.lt 0 (by omega)
    have hl := R.l0
    obtain ⟨on', g1, g2⟩ := ringGo_complete R m n 0 (fun _ => false) (by omega) R.mn (by intro j; simp; intro x hx hx0; omega)
    unfold ringB
    rw [if_pos (by simp only [Int.toNat_natCast]; omega)]
    simp only [Int.toNat_natCast, g1]
    by_cases e : p = 0
    · subst e; simp
    · have hq := R.lt p hp
      have : on' (nd p) = true := (g2 _).2 ⟨p, by omega, hp, rfl⟩
      simp [this]
      omega

end Go.Proofs.Qxb6603909a.Pl
