import Derived.Test.Qxb6603909aPair3
namespace Go.Proofs.Qxb6603909a
open Go.RowKit
set_option linter.unusedVariables false
set_option linter.unusedSimpArgs false

theorem index_any (bg : Nat) (aW : Option Addr) (nW np : Nat) (ix : Nat → Int) (w : World) (hc : w.cell? ⟨bg, 1, none⟩ = some (.slice aW nW nW)) (hI : Idx w aW nW np ix) (hn : np ≤ 4096) (x : Int) (h1 : 0 ≤ x) (h2 : x < np) :
    Calls Try.prog 37 #[.pointer (some ⟨bg, 0, none⟩), .int .i32 x] w fun e w' => w = w' ∧ e = .returned (.int .i64 (ix x.toNat)) := by
  obtain ⟨p, rfl⟩ : ∃ p : Nat, x = p := ⟨x.toNat, by omega⟩
  rw [Int.toNat_natCast]
  obtain ⟨⟨h3, h4⟩, h⟩ := hI p (by omega)
  rcases h with ⟨rfl, h5⟩ | ⟨b, rfl, rfl, hr⟩
  · rw [h5]
    have hq := fun w => Lib.run_eql_slice_nil (P := Try.prog) w 23 21 none nW nW 0 0 Try.underlying23
    clear h5
    go_enter Try.func37, Try.ntmps37
    go_wp2
    go_ret
    exact ⟨rfl, rfl⟩
  · have hq := fun w => Lib.run_eql_slice_nil (P := Try.prog) w 23 21 (some ⟨b, 0, none⟩) nW nW 0 0 Try.underlying23
    have cW := hr.cell (i := p) (by omega)
    go_enter Try.func37, Try.ntmps37
    go_wp2
    go_ret
    exact ⟨rfl, rfl⟩

theorem of_any (bS bV nS nV k lo hi : Nat) (S V : Nat → Int) (w : World) (hS : w.rowIs bS 3 nS (fun i => .int .i64 (S i))) (hV : w.rowIs bV 21 nV (fun i => .int .i32 (V i)))
    (hk : k + 1 < nS) (hn : nS ≤ 4096) (hnV : nV ≤ 4096) (e1 : S k = lo) (e2 : S (k + 1) = hi) (h1 : lo < hi) (h2 : hi ≤ nV) :
    Calls Try.prog 36 #[.agg #[.slice (some ⟨bS, 0, none⟩) nS nS, .slice (some ⟨bV, 0, none⟩) nV nV], .int .i32 k] w fun e w' => Below w.heap.size w w' ∧ e = .returned (.slice (some ⟨bV, lo, none⟩) (hi - lo) (nV - lo)) := by
  have cA := hS.cell (i := k) (by omega)
  have cB := hS.cell (i := k + 1) hk
  rw [e1] at cA
  rw [e2] at cB
  have zS := hS.lt
  clear e1 e2
  go_enter Try.func36, Try.ntmps36
  go_wp2
  go_quiet (fail)
  go_wp2
  go_ret
  exact ⟨below_drewN ((Below.refl _ _).alloc (Nat.le_refl _) _) _, rfl⟩

/-! ### plain: the least index so far -/
def BIx (c : Nat → Prop) (v : Nat → Nat) (ix : Nat → Int) (lo hi : Nat) (x : Int) : Prop :=
  (x = -1 ∧ ∀ j, lo ≤ j → j < hi → ¬ c j) ∨ ∃ j, lo ≤ j ∧ j < hi ∧ c j ∧ x = v j ∧ ∀ j', lo ≤ j' → j' < hi → c j' → ix (v j) ≤ ix (v j')

theorem BIx.pass {c : Nat → Prop} {v : Nat → Nat} {ix : Nat → Int} {lo hi : Nat} {x : Int} (h : BIx c v ix lo hi x) (hn : ¬ c hi) : BIx c v ix lo (hi + 1) x := by
  rcases h with ⟨h1, h2⟩ | ⟨j, h1, h2, h3, h4, h5⟩
  · refine .inl ⟨h1, fun j ha hb => ?_⟩
    by_cases e : j = hi
    · subst e; exact hn
    · exact h2 j ha (by omega)
  · refine .inr ⟨j, h1, by omega, h3, h4, fun j' ha hb hc => ?_⟩
    by_cases e : j' = hi
    · subst e; exact absurd hc hn
    · exact h5 j' ha (by omega) hc

theorem BIx.take {c : Nat → Prop} {v : Nat → Nat} {ix : Nat → Int} {lo hi : Nat} {x : Int} (h : BIx c v ix lo hi x) (hlo : lo ≤ hi) (hc : c hi) (hb : x < 0 ∨ ix (v hi) < ix x.toNat) : BIx c v ix lo (hi + 1) (v hi) := by
  refine .inr ⟨hi, hlo, by omega, hc, rfl, fun j' ha hb' hc' => ?_⟩
  by_cases e : j' = hi
  · subst e; exact Int.le_refl _
  · rcases h with ⟨h1, h2⟩ | ⟨j, h1, h2, h3, rfl, h5⟩
    · exact absurd hc' (h2 j' ha (by omega))
    · rw [Int.toNat_natCast] at hb
      have := h5 j' ha (by omega) hc'
      omega

theorem BIx.keep {c : Nat → Prop} {v : Nat → Nat} {ix : Nat → Int} {lo hi : Nat} {x : Int} (h : BIx c v ix lo hi x) (hb : ¬ (x < 0 ∨ ix (v hi) < ix x.toNat)) : BIx c v ix lo (hi + 1) x := by
  rcases h with ⟨h1, h2⟩ | ⟨j, h1, h2, h3, rfl, h5⟩
  · omega
  · rw [Int.toNat_natCast] at hb
    refine .inr ⟨j, h1, by omega, h3, rfl, fun j' ha hb' hc' => ?_⟩
    by_cases e : j' = hi
    · subst e; omega
    · exact h5 j' ha (by omega) hc'

/-- the test by which pairInto knows a step of m that has a step of n to pair with -/
theorem test_iff {act S V A I F G W L : Nat → Int} {np nS nV nA nW nl : Nat} {aW : Option Addr} {n m : Int} {nlo nhi mlo mhi : Nat} (P : PairP act S V A I F G W L np nS nV nA nW nl aW n m nlo nhi mlo mhi)
    (hV : ∀ i, nlo ≤ i → i < nhi → V i = vv V i) (j : Nat) (hj1 : mlo ≤ j) (hj2 : j < mhi) (hvj : vv V j < np) (h0 : 0 ≤ L (it V A I j)) :
    ∃ a : Nat, L (it V A I j) = a ∧ a < nA ∧ ((if act (vv V j) = 1 then F a else G a) < (vv V j : Int) ↔ ∃ i, nlo ≤ i ∧ i < nhi ∧ Cf act V A I i j) := by
  obtain ⟨i, hi1, hi2, hit⟩ := P.lvM j hj1 hj2 h0
  have hLi := P.lvN i hi1 hi2
  have hacc := P.accN i hi1 hi2
  have e1 : L (it V A I j) = ac V A i := by rw [← hit]; exact hLi
  -- the steps of n on that item are those of the access
  have hsame : ∀ i', nlo ≤ i' → i' < nhi → (it V A I i' = it V A I j ↔ ac V A i' = ac V A i) := by
    intro i' h1 h2
    constructor
    · intro h
      have := P.lvN i' h1 h2
      rw [h, e1] at this
      omega
    · intro h
      rw [← hit]
      unfold it
      rw [h]
  refine ⟨ac V A i, e1, by have := hacc.2.1; unfold ac vv; have := hacc.1; omega, ?_⟩
  have hF := P.fst i hi1 hi2
  have hG := P.wrt i hi1 hi2
  by_cases hw : act (vv V j) = 1
  · rw [if_pos hw]
    rcases hF with ⟨f1, f2⟩ | ⟨f1, ⟨i', g1, g2, g3, g4⟩, f3⟩
    · exact absurd rfl (f2 i hi1 hi2)
    · constructor
      · intro hlt
        refine ⟨i', g1, g2, ?_, (hsame i' g1 g2).2 g3, .inr hw⟩
        have := hV i' g1 g2
        omega
      · rintro ⟨i2, p1, p2, c1, c2, c3⟩
        have := f3 i2 p1 p2 ((hsame i2 p1 p2).1 c2)
        have := hV i2 p1 p2
        omega
  · rw [if_neg hw]
    rcases hG with ⟨hno, hbig⟩ | ⟨h0', hmin⟩
    · have hno' : ∀ i', nlo ≤ i' → i' < nhi → ¬ (ac V A i' = ac V A i ∧ act (vv V i') = 1) := by
        rcases hno with ⟨_, h⟩ | ⟨h, _⟩
        · exact h
        · omega
      constructor
      · intro hlt; omega
      · rintro ⟨i2, p1, p2, c1, c2, c3⟩
        rcases c3 with c3 | c3
        · exact absurd ⟨(hsame i2 p1 p2).1 c2, c3⟩ (hno' i2 p1 p2)
        · exact absurd c3 hw
    · rcases hmin with ⟨f1, f2⟩ | ⟨f1, ⟨i', g1, g2, g3, g4⟩, f3⟩
      · omega
      · constructor
        · intro hlt
          refine ⟨i', g1, g2, ?_, (hsame i' g1 g2).2 g3.1, .inl g3.2⟩
          have := hV i' g1 g2
          omega
        · rintro ⟨i2, p1, p2, c1, c2, c3⟩
          rcases c3 with c3 | c3
          · have := f3 i2 p1 p2 ⟨(hsame i2 p1 p2).1 c2, c3⟩
            have := hV i2 p1 p2
            omega
          · exact absurd c3 hw
end Go.Proofs.Qxb6603909a
