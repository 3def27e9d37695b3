import Derived.Test.Qxb6603909aPair1
namespace Go.Proofs.Qxb6603909a
open Go.RowKit
set_option linter.unusedVariables false
set_option linter.unusedSimpArgs false

/-- written is nil, or a permutation of the places -/
def WOk (aW : Option Addr) (nW np : Nat) (W : Nat → Int) : Prop :=
  aW = none ∨ (nW = np ∧ (∀ p, p < np → 0 ≤ W p ∧ W p < np) ∧ ∀ p q, p < np → q < np → W p = W q → p = q)

def vv (V : Nat → Int) (j : Nat) : Nat := (V j).toNat
def ac (V A : Nat → Int) (j : Nat) : Nat := (A (vv V j)).toNat
def it (V A I : Nat → Int) (j : Nat) : Nat := (I (ac V A j)).toNat

/-- what pairOK finds out -/
structure PairP (act S V A I F G W L : Nat → Int) (np nS nV nA nW nl : Nat) (aW : Option Addr) (n m : Int) (nlo nhi mlo mhi : Nat) : Prop where
  wok : WOk aW nW np W
  nn : NodeP S V nS nV np n
  nm : NodeP S V nS nV np m
  en : S n.toNat = nlo ∧ S (n.toNat + 1) = nhi
  em : S m.toNat = mlo ∧ S (m.toNat + 1) = mhi
  accN : ∀ j, nlo ≤ j → j < nhi → AccP V A I nA nl j
  accM : ∀ j, mlo ≤ j → j < mhi → AccP V A I nA nl j
  lvN : ∀ j, nlo ≤ j → j < nhi → L (it V A I j) = ac V A j
  lvM : ∀ j, mlo ≤ j → j < mhi → 0 ≤ L (it V A I j) → ∃ i, nlo ≤ i ∧ i < nhi ∧ it V A I i = it V A I j
  fst : ∀ j, nlo ≤ j → j < nhi → MinSt (fun i => ac V A i = ac V A j) V nlo nhi (F (ac V A j))
  wrt : ∀ j, nlo ≤ j → j < nhi → (MinSt (fun i => ac V A i = ac V A j ∧ act (vv V i) = 1) V nlo nhi (-1) ∧ (np : Int) ≤ G (ac V A j)) ∨
    (0 ≤ G (ac V A j) ∧ MinSt (fun i => ac V A i = ac V A j ∧ act (vv V i) = 1) V nlo nhi (G (ac V A j)))

/-- what the step listed at j leads to, in whatever later world -/
def CellsAt (B : Nat) (a0 aV aA aI aF aG aL : Option Addr) (np nA nl : Nat) (act V A I F G L : Nat → Int) (wr : World) (j : Nat) : Prop :=
  ∃ b0 bV bA bI bF bG bL, a0 = some ⟨b0, 0, none⟩ ∧ aV = some ⟨bV, 0, none⟩ ∧ aA = some ⟨bA, 0, none⟩ ∧ aI = some ⟨bI, 0, none⟩ ∧ aF = some ⟨bF, 0, none⟩ ∧ aG = some ⟨bG, 0, none⟩ ∧ aL = some ⟨bL, 0, none⟩ ∧
    wr.cell? ⟨bV, j, none⟩ = some (.int .i32 (vv V j)) ∧ wr.cell? ⟨bA, vv V j, none⟩ = some (.int .i32 (ac V A j)) ∧ wr.cell? ⟨bI, ac V A j, none⟩ = some (.int .i32 (it V A I j)) ∧
    wr.cell? ⟨bL, it V A I j, none⟩ = some (.int .i32 (L (it V A I j))) ∧ wr.cell? ⟨bF, ac V A j, none⟩ = some (.int .i32 (F (ac V A j))) ∧ wr.cell? ⟨bG, ac V A j, none⟩ = some (.int .i32 (G (ac V A j))) ∧
    wr.cell? ⟨b0, vv V j, none⟩ = some (.int .u8 (act (vv V j))) ∧ vv V j < np ∧ ac V A j < nA ∧ it V A I j < nl ∧ V j = vv V j ∧ (b0 < B ∧ bV < B ∧ bA < B ∧ bI < B ∧ bF < B ∧ bG < B ∧ bL < B)

theorem cellsAt_of {a0 aV aA aI aF aG aL : Option Addr} {np nV nA nl : Nat} {act V A I F G L : Nat → Int} {w wr : World} {j : Nat}
    (h0 : Arr .u8 5 w a0 np act) (hV : Arr .i32 21 w aV nV V) (hA : Arr .i32 21 w aA np A) (hI : Arr .i32 21 w aI nA I) (hF : Arr .i32 21 w aF nA F) (hG : Arr .i32 21 w aG nA G) (hL : Arr .i32 21 w aL nl L)
    (hj : j < nV) (hv : 0 ≤ V j ∧ V j < np) (ha : AccP V A I nA nl j) (hb : Below w.heap.size w wr) : CellsAt w.heap.size a0 aV aA aI aF aG aL np nA nl act V A I F G L wr j := by
  obtain ⟨a1, a2, a3, a4⟩ := ha
  have e1 : V j = vv V j := by unfold vv; omega
  have l1 : vv V j < np := by omega
  have e2 : A (vv V j) = ac V A j := by unfold ac; unfold vv at *; omega
  have l2 : ac V A j < nA := by unfold vv at *; omega
  have e3 : I (ac V A j) = it V A I j := by unfold it; unfold ac vv at *; omega
  have l3 : it V A I j < nl := by unfold ac vv at *; omega
  obtain ⟨b0, rfl, r0⟩ := h0 (by omega)
  obtain ⟨bV, rfl, rV⟩ := hV (by omega)
  obtain ⟨bA, rfl, rA⟩ := hA (by omega)
  obtain ⟨bI, rfl, rI⟩ := hI (by omega)
  obtain ⟨bF, rfl, rF⟩ := hF (by omega)
  obtain ⟨bG, rfl, rG⟩ := hG (by omega)
  obtain ⟨bL, rfl, rL⟩ := hL (by omega)
  refine ⟨b0, bV, bA, bI, bF, bG, bL, rfl, rfl, rfl, rfl, rfl, rfl, rfl, ?_, ?_, ?_, ?_, ?_, ?_, ?_, l1, l2, l3, e1, r0.lt, rV.lt, rA.lt, rI.lt, rF.lt, rG.lt, rL.lt⟩
  · rw [hb.cell (by exact rV.lt), rV.cell hj, e1]
  · rw [hb.cell (by exact rA.lt), rA.cell l1, e2]
  · rw [hb.cell (by exact rI.lt), rI.cell l2, e3]
  · rw [hb.cell (by exact rL.lt), rL.cell l3]
  · rw [hb.cell (by exact rF.lt), rF.cell l2]
  · rw [hb.cell (by exact rG.lt), rG.cell l2]
  · rw [hb.cell (by exact r0.lt), r0.cell l1]

/-- block `blk` holds, for each access, the least place so far among those that meet c -/
def MinRow (blk nA : Nat) (c : Nat → Nat → Prop) (V : Nat → Int) (nlo j : Nat) (wr : World) (mf : Nat → Int) : Prop :=
  wr.rowIs blk 21 nA (fun x => .int .i32 (mf x)) ∧ ∀ x, MinSt (fun i => c i x) V nlo j (mf x)

theorem MinRow.take {blk nA : Nat} {c : Nat → Nat → Prop} {V : Nat → Int} {nlo j : Nat} {wr : World} {mf : Nat → Int} (h : MinRow blk nA c V nlo j wr mf) (a v : Nat) (hlo : nlo ≤ j) (hv : V j = v) (hc : c j a) (hn : ∀ x, x ≠ a → ¬ c j x)
    (hlt : mf a < 0 ∨ (v : Int) < mf a) : MinRow blk nA c V nlo (j + 1) (wr.setCell ⟨blk, a, none⟩ (.int .i32 v)) (fun x => if x = a then (v : Int) else mf x) := by
  refine ⟨(h.1.set a (.int .i32 v)).congr (fun y _ => by show (if y = a then Value.int .i32 v else .int .i32 (mf y)) = .int .i32 (if y = a then (v : Int) else mf y); split <;> rfl), fun x => ?_⟩
  by_cases e : x = a
  · subst e
    show MinSt _ V nlo (j + 1) (if x = x then (v : Int) else mf x)
    rw [if_pos rfl]
    have := (h.2 x).take hlo hc (by omega) (by omega)
    rw [hv] at this
    exact this
  · show MinSt _ V nlo (j + 1) (if x = a then (v : Int) else mf x)
    rw [if_neg e]
    exact (h.2 x).pass (hn x e)

theorem MinRow.keep {blk nA : Nat} {c : Nat → Nat → Prop} {V : Nat → Int} {nlo j : Nat} {wr : World} {mf : Nat → Int} (h : MinRow blk nA c V nlo j wr mf) (a v : Nat) (hv : V j = v) (hn : ∀ x, x ≠ a → ¬ c j x)
    (hlt : ¬ (mf a < 0 ∨ (v : Int) < mf a)) : MinRow blk nA c V nlo (j + 1) wr mf := by
  refine ⟨h.1, fun x => ?_⟩
  by_cases e : x = a
  · subst e
    exact (h.2 x).keep (by omega)
  · exact (h.2 x).pass (hn x e)

theorem MinRow.pass {blk nA : Nat} {c : Nat → Nat → Prop} {V : Nat → Int} {nlo j : Nat} {wr : World} {mf : Nat → Int} (h : MinRow blk nA c V nlo j wr mf) (hn : ∀ x, ¬ c j x) : MinRow blk nA c V nlo (j + 1) wr mf :=
  ⟨h.1, fun x => (h.2 x).pass (hn x)⟩

theorem MinRow.other {blk nA : Nat} {c : Nat → Nat → Prop} {V : Nat → Int} {nlo j : Nat} {wr : World} {mf : Nat → Int} (h : MinRow blk nA c V nlo j wr mf) (a : Addr) (ha : blk ≠ a.block) (u : Value) : MinRow blk nA c V nlo j (wr.setCell a u) mf :=
  ⟨h.1.setOther ha u, h.2⟩

end Go.Proofs.Qxb6603909a
