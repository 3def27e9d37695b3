import Derived.Test.Qxb6603909aPairDefs
namespace Go.Proofs.Qxb6603909a
open Go.RowKit
set_option linter.unusedVariables false
set_option linter.unusedSimpArgs false

/-- the index of the step at place p: p itself, or what `written` holds there -/
def Idx (w : World) (aW : Option Addr) (nW np : Nat) (ix : Nat → Int) : Prop :=
  ∀ p, p < np → (0 ≤ ix p ∧ ix p < np) ∧ ((aW = none ∧ ix p = p) ∨ ∃ b, aW = some ⟨b, 0, none⟩ ∧ nW = np ∧ w.rowIs b 21 np (fun i => .int .i32 (ix i)))

theorem stepIndex_any (aW : Option Addr) (nW np : Nat) (ix : Nat → Int) (w : World) (hI : Idx w aW nW np ix) (hn : np ≤ 4096) (x : Int) (h1 : 0 ≤ x) (h2 : x < np) :
    Calls Try.prog 33 #[.slice aW nW nW, .int .i32 x] w fun e w' => w = w' ∧ e = .returned (.int .i64 (ix x.toNat)) := by
  obtain ⟨p, rfl⟩ : ∃ p : Nat, x = p := ⟨x.toNat, by omega⟩
  rw [Int.toNat_natCast]
  obtain ⟨⟨h3, h4⟩, h⟩ := hI p (by omega)
  rcases h with ⟨rfl, h5⟩ | ⟨b, rfl, rfl, hr⟩
  · rw [h5]; exact stepIndex_nil nW nW p w (by omega)
  · exact stepIndex_some b nW nW p ix w (by omega) hn hr (by omega)

/-! ### plain: the best pair so far -/
def Cf (act V A I : Nat → Int) (i j : Nat) : Prop := vv V i < vv V j ∧ it V A I i = it V A I j ∧ (act (vv V i) = 1 ∨ act (vv V j) = 1)

def BestSt (cf D : Nat → Nat → Prop) (v : Nat → Nat) (ix : Nat → Int) (bp bq : Int) : Prop :=
  (bq = -1 ∧ ∀ i j, D i j → ¬ cf i j) ∨
  ∃ i j, D i j ∧ cf i j ∧ bp = v i ∧ bq = v j ∧ ∀ i' j', D i' j' → cf i' j' → ix (v j) ≤ ix (v j') ∧ (v j' = v j → ix (v i) ≤ ix (v i'))

theorem BestSt.congr {cf D D' : Nat → Nat → Prop} {v : Nat → Nat} {ix : Nat → Int} {bp bq : Int} (h : BestSt cf D v ix bp bq) (e : ∀ i j, D i j ↔ D' i j) : BestSt cf D' v ix bp bq := by
  have : D = D' := by funext i j; exact propext (e i j)
  rw [← this]; exact h

theorem BestSt.no {cf D D' : Nat → Nat → Prop} {v : Nat → Nat} {ix : Nat → Int} {bp bq : Int} (h : BestSt cf D v ix bp bq) (i0 j0 : Nat) (e : ∀ i j, D' i j ↔ D i j ∨ (i = i0 ∧ j = j0)) (hn : ¬ cf i0 j0) : BestSt cf D' v ix bp bq := by
  rcases h with ⟨h1, h2⟩ | ⟨i, j, h1, h2, h3, h4, h5⟩
  · refine .inl ⟨h1, fun i j hd => ?_⟩
    rcases (e i j).1 hd with h | ⟨rfl, rfl⟩
    · exact h2 i j h
    · exact hn
  · refine .inr ⟨i, j, (e i j).2 (.inl h1), h2, h3, h4, fun i' j' hd hc => ?_⟩
    rcases (e i' j').1 hd with h | ⟨rfl, rfl⟩
    · exact h5 i' j' h hc
    · exact absurd hc hn

theorem BestSt.take {cf D D' : Nat → Nat → Prop} {v : Nat → Nat} {ix : Nat → Int} {bp bq : Int} (h : BestSt cf D v ix bp bq) (i0 j0 : Nat) (e : ∀ i j, D' i j ↔ D i j ∨ (i = i0 ∧ j = j0)) (hc : cf i0 j0)
    (hb : bq < 0 ∨ ix (v j0) < ix bq.toNat ∨ ((v j0 : Int) = bq ∧ ix (v i0) < ix bp.toNat)) : BestSt cf D' v ix (v i0) (v j0) := by
  refine .inr ⟨i0, j0, (e i0 j0).2 (.inr ⟨rfl, rfl⟩), hc, rfl, rfl, fun i' j' hd hc' => ?_⟩
  rcases (e i' j').1 hd with h' | ⟨rfl, rfl⟩
  · rcases h with ⟨h1, h2⟩ | ⟨i, j, h1, h2, rfl, rfl, h5⟩
    · exact absurd hc' (h2 i' j' h')
    · rw [Int.toNat_natCast, Int.toNat_natCast] at hb
      obtain ⟨h6, h7⟩ := h5 i' j' h' hc'
      rcases hb with hb | hb | ⟨hb1, hb2⟩
      · omega
      · refine ⟨by omega, fun he => ?_⟩
        rw [he] at h6; omega
      · have hb1' : v j0 = v j := by omega
        rw [hb1']
        refine ⟨h6, fun he => ?_⟩
        have := h7 he
        omega
  · exact ⟨Int.le_refl _, fun _ => Int.le_refl _⟩

theorem BestSt.keep {cf D D' : Nat → Nat → Prop} {v : Nat → Nat} {ix : Nat → Int} {bp bq : Int} (h : BestSt cf D v ix bp bq) (i0 j0 : Nat) (e : ∀ i j, D' i j ↔ D i j ∨ (i = i0 ∧ j = j0))
    (hb : ¬ (bq < 0 ∨ ix (v j0) < ix bq.toNat ∨ ((v j0 : Int) = bq ∧ ix (v i0) < ix bp.toNat))) : BestSt cf D' v ix bp bq := by
  rcases h with ⟨h1, h2⟩ | ⟨i, j, h1, h2, rfl, rfl, h5⟩
  · omega
  · rw [Int.toNat_natCast, Int.toNat_natCast] at hb
    refine .inr ⟨i, j, (e i j).2 (.inl h1), h2, rfl, rfl, fun i' j' hd hc' => ?_⟩
    rcases (e i' j').1 hd with h' | ⟨rfl, rfl⟩
    · exact h5 i' j' h' hc'
    · refine ⟨by omega, fun he => ?_⟩
      omega

def DonePairs (nlo nhi mlo jq jp : Nat) (i j : Nat) : Prop := (nlo ≤ i ∧ i < nhi ∧ mlo ≤ j ∧ j < jq) ∨ (j = jq ∧ nlo ≤ i ∧ i < jp)

theorem done_step {nlo nhi mlo jq jp : Nat} (h : nlo ≤ jp) (i j : Nat) : DonePairs nlo nhi mlo jq (jp + 1) i j ↔ DonePairs nlo nhi mlo jq jp i j ∨ (i = jp ∧ j = jq) := by unfold DonePairs; omega
theorem done_next {nlo nhi mlo jq : Nat} (h : mlo ≤ jq) (h2 : nlo ≤ nhi) (i j : Nat) : DonePairs nlo nhi mlo jq nhi i j ↔ DonePairs nlo nhi mlo (jq + 1) nlo i j := by unfold DonePairs; omega
end Go.Proofs.Qxb6603909a
