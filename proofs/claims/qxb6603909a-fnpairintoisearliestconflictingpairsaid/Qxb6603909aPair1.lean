import Derived.Test.Qxb6603909aArr
namespace Go.Proofs.Qxb6603909a
open Go.RowKit
set_option linter.unusedVariables false
set_option linter.unusedSimpArgs false

/-- the access of the step listed at j, and its item, lie within their slices -/
def AccP (V A I : Nat → Int) (nA nl : Nat) (j : Nat) : Prop :=
  0 ≤ A (V j).toNat ∧ A (V j).toNat < nA ∧ 0 ≤ I (A (V j).toNat).toNat ∧ I (A (V j).toNat).toNat < nl

/-- the call answers a bool; where it says yes, p holds -/
def SaysIf (p : Prop) (e : Ending) : Prop := ∃ r, e = .returned (.bool r) ∧ (r = true → p)
theorem SaysIf.no (p : Prop) : SaysIf p (.returned (.bool false)) := ⟨false, rfl, fun h => by cases h⟩
theorem SaysIf.yes {p : Prop} (h : p) : SaysIf p (.returned (.bool true)) := ⟨true, rfl, fun _ => h⟩

set_option maxHeartbeats 800000 in
theorem stepsHave_any (aV aA aI : Option Addr) (nV cV np cA nA cI nl l h : Nat) (V A I : Nat → Int) (w : World) (hV : Arr .i32 21 w aV nV V) (hA : Arr .i32 21 w aA np A) (hI : Arr .i32 21 w aI nA I)
    (hlh : l ≤ h) (hhV : h ≤ nV) (h2 : nV ≤ 4096) (h3 : np ≤ 4096) (h4 : nA ≤ 4096) (h5 : nl ≤ 4096)
    (hVb : ∀ j, l ≤ j → j < h → 0 ≤ V j ∧ V j < np) (hAb : ∀ i, i < np → -2147483648 ≤ A i ∧ A i ≤ 2147483647) (hIb : ∀ i, i < nA → -2147483648 ≤ I i ∧ I i ≤ 2147483647) :
    Calls Try.prog 32 #[.slice aV nV cV, .int .i64 l, .int .i64 h, .slice aA np cA, .slice aI nA cI, .int .i64 nl] w fun e w' => w = w' ∧ SaysIf (∀ j, l ≤ j → j < h → AccP V A I nA nl j) e := by
  go_enter Try.func32, Try.ntmps32
  go_wp2_with fail
  go_loopg [13] (h - l) (fun gk j wr => ∃ jj : Nat, jj + gk = h ∧ l ≤ jj ∧ j = .int .i64 jj ∧ w = wr ∧ ∀ i : Nat, l ≤ i → i < jj → AccP V A I nA nl i)
  case atStart => exact ⟨l, by omega, Nat.le_refl _, rfl, rfl, fun i h1 h2 => by omega⟩
  case round =>
    obtain ⟨j, hj, hlj, rfl, rfl, hall⟩ := hrel
    have HJ := hidd hj
    have HA := hidd hall
    clear hj hall
    by_cases hlt : j < h
    · obtain ⟨v1, v2⟩ := hVb j hlj hlt
      obtain ⟨bV, rfl, rV⟩ := hV (by omega)
      obtain ⟨v, hv⟩ : ∃ v : Nat, V j = v := ⟨(V j).toNat, by omega⟩
      have cV := rV.cell (i := j) (by omega)
      have hvn : v < np := by omega
      obtain ⟨bA, rfl, rA⟩ := hA (by omega)
      have cA := rA.cell hvn
      have ba := hAb v hvn
      rw [hv] at cV
      have HV := hidd hv
      clear hv v1 v2
      have HP : Hid (AccP V A I nA nl j ↔ (0 ≤ A v ∧ A v < nA ∧ 0 ≤ I (A v).toNat ∧ I (A v).toNat < nl)) := by
        show _ ↔ _
        unfold AccP
        rw [HV.out, Int.toNat_natCast]
      by_cases d1 : A v < 0
      · go_wp2
        go_ret
        exact ⟨rfl, SaysIf.no _⟩
      by_cases d2 : (nA : Int) ≤ A v
      · go_wp2
        go_ret
        exact ⟨rfl, SaysIf.no _⟩
      obtain ⟨a, ha⟩ : ∃ a : Nat, A v = a := ⟨(A v).toNat, by omega⟩
      have han : a < nA := by omega
      obtain ⟨bI, rfl, rI⟩ := hI (by omega)
      have cI := rI.cell han
      have bi := hIb a han
      rw [ha] at cA HP
      rw [Int.toNat_natCast] at HP
      clear ha d1 d2 ba
      by_cases d3 : I a < 0
      · go_wp2
        go_ret
        exact ⟨rfl, SaysIf.no _⟩
      by_cases d4 : (nl : Int) ≤ I a
      · go_wp2
        go_ret
        exact ⟨rfl, SaysIf.no _⟩
      go_wp2
      go_roundg (gk - 1)
      case measure => have := HJ.out; omega
      case rel =>
        refine ⟨j + 1, by have := HJ.out; omega, by omega, by go_num, rfl, fun i h1 h2 => ?_⟩
        by_cases e : i = j
        · subst e; exact HP.out.2 (by omega)
        · exact HA.out i h1 (by omega)
    · go_wp2
      go_ret
      exact ⟨rfl, SaysIf.yes (fun i h1 h2 => HA.out i h1 (by have := HJ.out; omega))⟩

/-! ### plain: the least value so far -/
def MinSt (cond : Nat → Prop) (val : Nat → Int) (lo j : Nat) (x : Int) : Prop :=
  (x = -1 ∧ ∀ i, lo ≤ i → i < j → ¬ cond i) ∨ (0 ≤ x ∧ (∃ i, lo ≤ i ∧ i < j ∧ cond i ∧ x = val i) ∧ ∀ i, lo ≤ i → i < j → cond i → x ≤ val i)

theorem MinSt.start (cond : Nat → Prop) (val : Nat → Int) (lo : Nat) : MinSt cond val lo lo (-1) := .inl ⟨rfl, fun i h1 h2 => by omega⟩

theorem MinSt.pass {cond : Nat → Prop} {val : Nat → Int} {lo j : Nat} {x : Int} (h : MinSt cond val lo j x) (hn : ¬ cond j) : MinSt cond val lo (j + 1) x := by
  rcases h with ⟨h1, h2⟩ | ⟨h0, ⟨i, a, b, c, d⟩, h3⟩
  · refine .inl ⟨h1, fun i ha hb => ?_⟩
    by_cases e : i = j
    · subst e; exact hn
    · exact h2 i ha (by omega)
  · refine .inr ⟨h0, ⟨i, a, by omega, c, d⟩, fun i' ha hb hc => ?_⟩
    by_cases e : i' = j
    · subst e; exact absurd hc hn
    · exact h3 i' ha (by omega) hc

theorem MinSt.take {cond : Nat → Prop} {val : Nat → Int} {lo j : Nat} {x : Int} (h : MinSt cond val lo j x) (hlo : lo ≤ j) (hc : cond j) (hv : 0 ≤ val j) (hlt : x < 0 ∨ val j < x) : MinSt cond val lo (j + 1) (val j) := by
  refine .inr ⟨hv, ⟨j, hlo, by omega, hc, rfl⟩, fun i ha hb hci => ?_⟩
  by_cases e : i = j
  · subst e; exact Int.le_refl _
  · rcases h with ⟨h1, h2⟩ | ⟨h0, _, h3⟩
    · exact absurd hci (h2 i ha (by omega))
    · have := h3 i ha (by omega) hci; omega

theorem MinSt.keep {cond : Nat → Prop} {val : Nat → Int} {lo j : Nat} {x : Int} (h : MinSt cond val lo j x) (hlt : ¬ (x < 0 ∨ val j < x)) : MinSt cond val lo (j + 1) x := by
  rcases h with ⟨h1, h2⟩ | ⟨h0, ⟨i, a, b, c, d⟩, h3⟩
  · omega
  · refine .inr ⟨h0, ⟨i, a, by omega, c, d⟩, fun i' ha hb hc => ?_⟩
    by_cases e : i' = j
    · subst e; omega
    · exact h3 i' ha (by omega) hc
end Go.Proofs.Qxb6603909a
