import Derived.Test.Qxb6603909aPair7
import Derived.Test.Qxb6603909aPair2
import Derived.Test.Qxb6603909aPair4
namespace Go.Proofs.Qxb6603909a
open Go.RowKit
set_option linter.unusedVariables false
set_option linter.unusedSimpArgs false

theorem isRow_len {k : IntKind} {w : World} {a : Option Addr} {len cap : Nat} {zs : List Int} (h : IsRow k w a len cap zs) : len ≤ 9223372036854775807 := by
  rcases h with ⟨_, h, _⟩ | ⟨x, _, h1, h2, _⟩
  · omega
  · unfold maxLen at h2; omega

theorem isRow_wf {k : IntKind} {w : World} {a : Option Addr} {len cap : Nat} {zs : List Int} (h : IsRow k w a len cap zs) (i : Nat) (hi : i < len) : (Lit.int k (zs.getD i 0)).wf = true := by
  rcases h with ⟨_, h, _⟩ | ⟨x, _, h1, h2, h3, _, h4⟩
  · omega
  · refine h4 _ ?_
    rw [List.getD_eq_getElem?_getD, List.getElem?_eq_getElem (by omega)]
    simp

theorem b32 {x : Int} (h : (Lit.int .i32 x).wf = true) : -2147483648 ≤ x ∧ x ≤ 2147483647 := by
  have h2 : decide (IntKind.i32.min ≤ x ∧ x ≤ IntKind.i32.max) = true := by simpa [Lit.wf] using h
  have h3 := of_decide_eq_true h2
  simpa [IntKind.min, IntKind.max, IntKind.bits, IntKind.signed] using h3

theorem b64 {x : Int} (h : (Lit.int .i64 x).wf = true) : -9223372036854775808 ≤ x ∧ x ≤ 9223372036854775807 := by
  have h2 : decide (IntKind.i64.min ≤ x ∧ x ≤ IntKind.i64.max) = true := by simpa [Lit.wf] using h
  have h3 := of_decide_eq_true h2
  simpa [IntKind.min, IntKind.max, IntKind.bits, IntKind.signed] using h3

/-- the index function that `written` gives -/
theorem idx_of (w : World) (aW : Option Addr) (nW np : Nat) (W : Nat → Int) (h : WOk aW nW np W) (hW : Arr .i32 21 w aW nW W) :
    ∃ ix : Nat → Int, Idx w aW nW np ix ∧ ∀ p q, p < np → q < np → ix p = ix q → p = q := by
  rcases h with h | ⟨h1, h2, h3⟩
  · exact ⟨fun p => (p : Int), fun p hp => ⟨⟨by simp, by simp; omega⟩, .inl ⟨h, rfl⟩⟩, fun p q _ _ e => by have e' : (p : Int) = q := e; omega⟩
  · subst h1
    refine ⟨W, fun p hp => ⟨h2 p hp, .inr ?_⟩, h3⟩
    obtain ⟨b, e, r⟩ := hW (by omega)
    exact ⟨b, e, rfl, r⟩

/-- the two searches agree -/
theorem agree {act V A I : Nat → Int} {ix : Nat → Int} {np nlo nhi mlo mhi : Nat} (hinj : ∀ p q, p < np → q < np → ix p = ix q → p = q)
    (hv : ∀ j, mlo ≤ j → j < mhi → vv V j < np) {i j i' j' : Nat} (hi1 : nlo ≤ i) (hi2 : i < nhi) (hj1 : mlo ≤ j) (hj2 : j < mhi) (hi1' : nlo ≤ i') (hi2' : i' < nhi) (hj1' : mlo ≤ j') (hj2' : j' < mhi)
    (hc : Cf act V A I i j) (hc' : Cf act V A I i' j')
    (hm : ∀ a b, nlo ≤ a → a < nhi → mlo ≤ b → b < mhi → Cf act V A I a b → ix (vv V j) ≤ ix (vv V b) ∧ (vv V b = vv V j → ix (vv V i) ≤ ix (vv V a)))
    (hm1 : ∀ a b, nlo ≤ a → a < nhi → mlo ≤ b → b < mhi → Cf act V A I a b → ix (vv V j') ≤ ix (vv V b)) (hm2 : ∀ a, nlo ≤ a → a < nhi → Cf act V A I a j' → ix (vv V i') ≤ ix (vv V a)) :
    ix (vv V i') = ix (vv V i) ∧ ix (vv V j') = ix (vv V j) := by
  have e1 : ix (vv V j') = ix (vv V j) := by
    have h1 := (hm i' j' hi1' hi2' hj1' hj2' hc').1
    have h2 := hm1 i j hi1 hi2 hj1 hj2 hc
    omega
  have e2 : vv V j' = vv V j := hinj _ _ (hv j' hj1' hj2') (hv j hj1 hj2) e1
  have e3 : it V A I j' = it V A I j := by unfold it ac; rw [e2]
  refine ⟨?_, e1⟩
  have h1 := (hm i' j' hi1' hi2' hj1' hj2' hc').2 e2
  have h2 := hm2 i hi1 hi2 ⟨by rw [e2]; exact hc.1, by rw [e3]; exact hc.2.1, by rw [e2]; exact hc.2.2⟩
  omega

set_option maxRecDepth 100000 in
theorem zzBytes21 (a0 a1 a2 a3 a4 a5 a6 a7 a10 : Option Addr) (l0 l1 l2 l3 l4 l5 l6 l7 l10 c0 c1 c2 c3 c4 c5 c6 c7 c10 : Nat) (n m : Int) (w : World)
    (h0 : l0 ≤ 9223372036854775807) (h1 : l1 ≤ 9223372036854775807) (h2 : l2 ≤ 9223372036854775807) (h3 : l3 ≤ 9223372036854775807) (h4 : l4 ≤ 9223372036854775807) (h5 : l5 ≤ 9223372036854775807) (h6 : l6 ≤ 9223372036854775807) (h7 : l7 ≤ 9223372036854775807) (h10 : l10 ≤ 9223372036854775807) :
    Calls Try.prog 21 #[.slice a0 l0 c0, .slice a1 l1 c1, .slice a2 l2 c2, .slice a3 l3 c3, .slice a4 l4 c4, .slice a5 l5 c5, .slice a6 l6 c6, .slice a7 l7 c7, .int .i32 n, .int .i32 m, .slice a10 l10 c10] w fun e w' => w = w' ∧ SaysIf True e := by
  go_enter Try.func21, Try.ntmps21
  go_wp2
  all_goals go_ret
  all_goals first | exact ⟨rfl, SaysIf.no _⟩ | exact ⟨rfl, SaysIf.yes trivial⟩


set_option maxHeartbeats 3200000 in
set_option maxRecDepth 100000 in
theorem pair_walk (a0 : Option Addr) (len0 cap0 : Nat) (z0 : List Int) (a1 : Option Addr) (len1 cap1 : Nat) (z1 : List Int) (a2 : Option Addr) (len2 cap2 : Nat) (z2 : List Int) (a3 : Option Addr) (len3 cap3 : Nat) (z3 : List Int) (a4 : Option Addr) (len4 cap4 : Nat) (z4 : List Int) (a5 : Option Addr) (len5 cap5 : Nat) (z5 : List Int) (a6 : Option Addr) (len6 cap6 : Nat) (z6 : List Int) (a7 : Option Addr) (len7 cap7 : Nat) (z7 : List Int) (a8 : Int) (a9 : Int) (a10 : Option Addr) (len10 cap10 : Nat) (z10 : List Int) (w : World) (w0 : IsRow .u8 w a0 len0 cap0 z0) (w1 : IsRow .i64 w a1 len1 cap1 z1) (w2 : IsRow .i32 w a2 len2 cap2 z2) (w3 : IsRow .i32 w a3 len3 cap3 z3) (w4 : IsRow .i32 w a4 len4 cap4 z4) (w5 : IsRow .i32 w a5 len5 cap5 z5) (w6 : IsRow .i32 w a6 len6 cap6 z6) (w7 : IsRow .i32 w a7 len7 cap7 z7) (w8 : (Lit.int .i32 a8).wf = true) (w9 : (Lit.int .i32 a9).wf = true) (w10 : IsRow .i32 w a10 len10 cap10 z10) :
    Calls Try.prog 6 #[.slice a0 len0 cap0, .slice a1 len1 cap1, .slice a2 len2 cap2, .slice a3 len3 cap3, .slice a4 len4 cap4, .slice a5 len5 cap5, .slice a6 len6 cap6, .slice a7 len7 cap7, .int .i32 a8, .int .i32 a9, .slice a10 len10 cap10] w fun e w' => e = .returned (.bool true) ∧ Below w.heap.size w w' := by
  have b8 := b32 w8
  have b9 := b32 w9
  go_enter Try.func6, Try.ntmps6
  go_wp2_with fail
  refine (zzBytes21 a0 a1 a2 a3 a4 a5 a6 a7 a10 len0 len1 len2 len3 len4 len5 len6 len7 len10 cap0 cap1 cap2 cap3 cap4 cap5 cap6 cap7 cap10 a8 a9 w (isRow_len w0) (isRow_len w1) (isRow_len w2) (isRow_len w3) (isRow_len w4) (isRow_len w5) (isRow_len w6) (isRow_len w7) (isRow_len w10)).mono ?_
  rintro e w' ⟨rfl, b, rfl, -⟩
  cases b with
  | false =>
    go_wp2
    go_ret
    exact ⟨rfl, Below.refl _ _⟩
  | true =>
  by_cases s0 : 4096 < len0
  · go_wp2
    go_ret
    exact ⟨rfl, Below.refl _ _⟩
  by_cases s1 : 4096 < len1
  · go_wp2
    go_ret
    exact ⟨rfl, Below.refl _ _⟩
  by_cases s2 : 4096 < len2
  · go_wp2
    go_ret
    exact ⟨rfl, Below.refl _ _⟩
  by_cases s3 : 4096 < len3
  · go_wp2
    go_ret
    exact ⟨rfl, Below.refl _ _⟩
  by_cases s4 : 4096 < len4
  · go_wp2
    go_ret
    exact ⟨rfl, Below.refl _ _⟩
  by_cases s5 : 4096 < len5
  · go_wp2
    go_ret
    exact ⟨rfl, Below.refl _ _⟩
  by_cases s6 : 4096 < len6
  · go_wp2
    go_ret
    exact ⟨rfl, Below.refl _ _⟩
  by_cases s7 : 4096 < len7
  · go_wp2
    go_ret
    exact ⟨rfl, Below.refl _ _⟩
  by_cases s10 : 4096 < len10
  · go_wp2
    go_ret
    exact ⟨rfl, Below.refl _ _⟩
  go_wp2_with fail
  refine (clone22_any a0 len0 cap0 z0 w w0 (by omega)).mono ?_
  rintro e x1 ⟨c0, rfl, hnil0, hc1, hr0⟩
  have ar0 : Arr .u8 5 x1 c0 len0 (fun j => z0.getD j 0) := fun hp => ⟨_, (hr0 hp).1, (hr0 hp).2.1⟩
  have hb1 : Below w.heap.size w x1 := hc1
  clear hr0 hnil0
  go_wp2_with fail
  refine (clone8_any a1 len1 cap1 z1 x1 (w1.below hb1) (by omega)).mono ?_
  rintro e x2 ⟨c1, rfl, hnil1, hc2, hr1⟩
  have ar1 : Arr .i64 3 x2 c1 len1 (fun j => z1.getD j 0) := fun hp => ⟨_, (hr1 hp).1, (hr1 hp).2.1⟩
  have hb2 : Below w.heap.size w x2 := hb1.trans (hc2.mono hb1.size)
  clear hr1 hnil1
  go_wp2_with fail
  refine (clone9_any a2 len2 cap2 z2 x2 (w2.below hb2) (by omega)).mono ?_
  rintro e x3 ⟨c2, rfl, hnil2, hc3, hr2⟩
  have ar2 : Arr .i32 21 x3 c2 len2 (fun j => z2.getD j 0) := fun hp => ⟨_, (hr2 hp).1, (hr2 hp).2.1⟩
  have hb3 : Below w.heap.size w x3 := hb2.trans (hc3.mono hb2.size)
  clear hr2 hnil2
  go_wp2_with fail
  refine (clone9_any a3 len3 cap3 z3 x3 (w3.below hb3) (by omega)).mono ?_
  rintro e x4 ⟨c3, rfl, hnil3, hc4, hr3⟩
  have ar3 : Arr .i32 21 x4 c3 len3 (fun j => z3.getD j 0) := fun hp => ⟨_, (hr3 hp).1, (hr3 hp).2.1⟩
  have hb4 : Below w.heap.size w x4 := hb3.trans (hc4.mono hb3.size)
  clear hr3 hnil3
  go_wp2_with fail
  refine (clone9_any a4 len4 cap4 z4 x4 (w4.below hb4) (by omega)).mono ?_
  rintro e x5 ⟨c4, rfl, hnil4, hc5, hr4⟩
  have ar4 : Arr .i32 21 x5 c4 len4 (fun j => z4.getD j 0) := fun hp => ⟨_, (hr4 hp).1, (hr4 hp).2.1⟩
  have hb5 : Below w.heap.size w x5 := hb4.trans (hc5.mono hb4.size)
  clear hr4 hnil4
  go_wp2_with fail
  refine (clone9_any a5 len5 cap5 z5 x5 (w5.below hb5) (by omega)).mono ?_
  rintro e x6 ⟨c5, rfl, hnil5, hc6, hr5⟩
  have ar5 : Arr .i32 21 x6 c5 len5 (fun j => z5.getD j 0) := fun hp => ⟨_, (hr5 hp).1, (hr5 hp).2.1⟩
  have hb6 : Below w.heap.size w x6 := hb5.trans (hc6.mono hb5.size)
  clear hr5 hnil5
  go_wp2_with fail
  refine (clone9_any a6 len6 cap6 z6 x6 (w6.below hb6) (by omega)).mono ?_
  rintro e x7 ⟨c6, rfl, hnil6, hc7, hr6⟩
  have ar6 : Arr .i32 21 x7 c6 len6 (fun j => z6.getD j 0) := fun hp => ⟨_, (hr6 hp).1, (hr6 hp).2.1⟩
  have hb7 : Below w.heap.size w x7 := hb6.trans (hc7.mono hb6.size)
  clear hr6 hnil6
  go_wp2_with fail
  refine (clone9_any a7 len7 cap7 z7 x7 (w7.below hb7) (by omega)).mono ?_
  rintro e x8 ⟨c7, rfl, hnil7, hc8, hr7⟩
  have ar7 : Arr .i32 21 x8 c7 len7 (fun j => z7.getD j 0) := fun hp => ⟨_, (hr7 hp).1, (hr7 hp).2.1⟩
  have hb8 : Below w.heap.size w x8 := hb7.trans (hc8.mono hb7.size)
  clear hr7 hnil7
  go_wp2_with fail
  refine (clone9_any a10 len10 cap10 z10 x8 (w10.below hb8) (by omega)).mono ?_
  rintro e x9 ⟨c10, rfl, hnil10, hc9, hr10⟩
  have ar10 : Arr .i32 21 x9 c10 len10 (fun j => z10.getD j 0) := fun hp => ⟨_, (hr10 hp).1, (hr10 hp).2.1⟩
  have hb9 : Below w.heap.size w x9 := hb8.trans (hc9.mono hb8.size)
  clear hr10 hnil10
  have A0 := ((((((((ar0.below hc2).below hc3).below hc4).below hc5).below hc6).below hc7).below hc8).below hc9)
  have A1 := (((((((ar1.below hc3).below hc4).below hc5).below hc6).below hc7).below hc8).below hc9)
  have A2 := ((((((ar2.below hc4).below hc5).below hc6).below hc7).below hc8).below hc9)
  have A3 := (((((ar3.below hc5).below hc6).below hc7).below hc8).below hc9)
  have A4 := ((((ar4.below hc6).below hc7).below hc8).below hc9)
  have A5 := (((ar5.below hc7).below hc8).below hc9)
  have A6 := ((ar6.below hc8).below hc9)
  have A7 := (ar7.below hc9)
  have A10 := ar10
  clear ar0 ar1 ar2 ar3 ar4 ar5 ar6 ar7 ar10 hc1 hc2 hc3 hc4 hc5 hc6 hc7 hc8 hc9 hb1 hb2 hb3 hb4 hb5 hb6 hb7 hb8
  have HB := hidd (show (∀ i, i < len1 → -9223372036854775808 ≤ z1.getD i 0 ∧ z1.getD i 0 ≤ 9223372036854775807) ∧ (∀ i, i < len2 → -2147483648 ≤ z2.getD i 0 ∧ z2.getD i 0 ≤ 2147483647) ∧ (∀ i, i < len3 → -2147483648 ≤ z3.getD i 0 ∧ z3.getD i 0 ≤ 2147483647) ∧
      (∀ i, i < len4 → -2147483648 ≤ z4.getD i 0 ∧ z4.getD i 0 ≤ 2147483647) ∧ (∀ i, i < len7 → -2147483648 ≤ z7.getD i 0 ∧ z7.getD i 0 ≤ 2147483647) ∧ (∀ i, i < len6 → -2147483648 ≤ z6.getD i 0 ∧ z6.getD i 0 ≤ 2147483647) from
    ⟨fun i hi => b64 (isRow_wf w1 i hi), fun i hi => b32 (isRow_wf w2 i hi), fun i hi => b32 (isRow_wf w3 i hi), fun i hi => b32 (isRow_wf w4 i hi), fun i hi => b32 (isRow_wf w7 i hi), fun i hi => b32 (isRow_wf w6 i hi)⟩)
  clear w0 w1 w2 w3 w4 w5 w6 w7 w8 w9 w10
  generalize hz0 : (fun j => z0.getD j 0) = act at *
  generalize hz1 : (fun j => z1.getD j 0) = S at *
  generalize hz2 : (fun j => z2.getD j 0) = V at *
  generalize hz3 : (fun j => z3.getD j 0) = A at *
  generalize hz4 : (fun j => z4.getD j 0) = I at *
  generalize hz5 : (fun j => z5.getD j 0) = F at *
  generalize hz6 : (fun j => z6.getD j 0) = G at *
  generalize hz7 : (fun j => z7.getD j 0) = W at *
  generalize hz10 : (fun j => z10.getD j 0) = L at *
  have HB2 := hidd (show (∀ i, i < len1 → -9223372036854775808 ≤ S i ∧ S i ≤ 9223372036854775807) ∧ (∀ i, i < len2 → -2147483648 ≤ V i ∧ V i ≤ 2147483647) ∧ (∀ i, i < len3 → -2147483648 ≤ A i ∧ A i ≤ 2147483647) ∧
      (∀ i, i < len4 → -2147483648 ≤ I i ∧ I i ≤ 2147483647) ∧ (∀ i, i < len7 → -2147483648 ≤ W i ∧ W i ≤ 2147483647) ∧ (∀ i, i < len6 → -2147483648 ≤ G i ∧ G i ≤ 2147483647) from by
    subst hz1 hz2 hz3 hz4 hz6 hz7
    exact HB.out)
  clear HB hz0 hz1 hz2 hz3 hz4 hz5 hz6 hz7 hz10
  go_wp2_with fail
  by_cases hlen : len3 = len0 ∧ len5 = len4 ∧ len6 = len4
  · obtain ⟨e1, e2, e3⟩ := hlen
    have e1' := e1.symm
    have e2' := e2.symm
    have e3' := e3.symm
    subst e1' e2' e3'
    obtain ⟨q1, q2, q3, q4, q5, q6⟩ := HB2.out
    refine (pairOK_any c0 c1 c2 c3 c4 c5 c6 c7 c10 len0 len1 len2 len4 len7 len10 act S V A I F G W L a8 a9 x9 (by omega) (by omega) (by omega) (by omega) (by omega) (by omega) b8 b9 A0 A1 A2 A3 A4 A5 A6 A7 A10 q1 q2 q3 q4 q5 q6).mono ?_
    rintro e y1 ⟨hby, r, rfl, hr⟩
    have hb10 : Below w.heap.size w y1 := hb9.trans (hby.mono hb9.size)
    cases r with
    | false =>
      clear hr q1 q2 q3 q4 q5 q6
      go_wp2
      go_ret
      exact ⟨rfl, hb10⟩
    | true =>
    obtain ⟨nlo, nhi, mlo, mhi, P⟩ := hr rfl
    have B0 := A0.below hby
    have B1 := A1.below hby
    have B2 := A2.below hby
    have B3 := A3.below hby
    have B4 := A4.below hby
    have B5 := A5.below hby
    have B6 := A6.below hby
    have B7 := A7.below hby
    have B10 := A10.below hby
    clear hr A0 A1 A2 A3 A4 A5 A6 A7 A10 hby
    have HP := hidd P
    have hS2 := hidd (And.intro q1 q2)
    clear P q1 q2 q3 q4 q5 q6
    go_wp2_with fail
    refine (nodeSteps_any c1 c2 len1 len2 len1 len2 len0 S V a8 y1 B1 B2 (by omega) (by omega) (by omega) b8 hS2.out.1 hS2.out.2).mono ?_
    rintro e w' ⟨rfl, hres⟩
    obtain ⟨-, rfl⟩ : NodeP S V len1 len2 len0 a8 ∧ e = .returned (.tuple #[.int .i64 nlo, .int .i64 nhi, .bool true]) := by
      rcases hres with ⟨h1, h2⟩ | ⟨h1, _⟩
      · rw [HP.out.en.1, HP.out.en.2] at h2; exact ⟨h1, h2⟩
      · exact absurd HP.out.nn h1
    clear hres
    go_wp2_with fail
    refine (nodeSteps_any c1 c2 len1 len2 len1 len2 len0 S V a9 y1 B1 B2 (by omega) (by omega) (by omega) b9 hS2.out.1 hS2.out.2).mono ?_
    rintro e w' ⟨rfl, hres⟩
    obtain ⟨-, rfl⟩ : NodeP S V len1 len2 len0 a9 ∧ e = .returned (.tuple #[.int .i64 mlo, .int .i64 mhi, .bool true]) := by
      rcases hres with ⟨h1, h2⟩ | ⟨h1, _⟩
      · rw [HP.out.em.1, HP.out.em.2] at h2; exact ⟨h1, h2⟩
      · exact absurd HP.out.nm h1
    clear hres
    -- the bounds of the two lists
    obtain ⟨f1, f2, f3, f4, f5, f6⟩ := HP.out.nn
    obtain ⟨f7, f8, f9, f10, f11, f12⟩ := HP.out.nm
    rw [HP.out.en.1] at f3 f4 f6
    rw [HP.out.en.2] at f4 f5 f6
    rw [HP.out.em.1] at f9 f10 f12
    rw [HP.out.em.2] at f10 f11 f12
    have k1 : nlo ≤ nhi := by omega
    have k2 : nhi ≤ len2 := by omega
    have k3 : mlo ≤ mhi := by omega
    have k4 : mhi ≤ len2 := by omega
    have vN : ∀ j, nlo ≤ j → j < nhi → 0 ≤ V j ∧ V j < len0 := fun j h1 h2 => f6 j (by omega) (by omega)
    have vM : ∀ j, mlo ≤ j → j < mhi → 0 ≤ V j ∧ V j < len0 := fun j h1 h2 => f12 j (by omega) (by omega)
    have HCN := hidd (show ∀ j, nlo ≤ j → j < nhi → CellsAt y1.heap.size c0 c2 c3 c4 c5 c6 c10 len0 len4 len10 act V A I F G L y1 j from
      fun j h1 h2 => cellsAt_of B0 B2 B3 B4 B5 B6 B10 (by omega) (vN j h1 h2) (HP.out.accN j h1 h2) (Below.refl _ _))
    have HCM := hidd (show ∀ j, mlo ≤ j → j < mhi → CellsAt y1.heap.size c0 c2 c3 c4 c5 c6 c10 len0 len4 len10 act V A I F G L y1 j from
      fun j h1 h2 => cellsAt_of B0 B2 B3 B4 B5 B6 B10 (by omega) (vM j h1 h2) (HP.out.accM j h1 h2) (Below.refl _ _))
    obtain ⟨ix, hIdx, hinj⟩ := idx_of y1 c7 len7 len0 W HP.out.wok B7
    have HIX := hidd (And.intro hIdx hinj)
    have HVM := hidd vM
    clear f3 f4 f5 f6 f9 f10 f11 f12 vN vM hIdx hinj
    go_wp2_with fail
    refine (earliestPair_any c0 c2 c3 c4 c5 c6 c7 c10 len0 len2 len4 len7 len10 act V A I F G L ix y1 nlo nhi mlo mhi (by omega) (by omega) (by omega) k1 k2 k3 k4 HIX.out.1 HCN.out HCM.out).mono ?_
    rintro e w' ⟨rfl, hres⟩
    rcases hres with rfl | ⟨i, j, i1, i2, j1, j2, hcf, rfl, hmin⟩
    · go_wp2
      go_ret
      exact ⟨rfl, hb10⟩
    · have HMIN := hidd (And.intro hcf hmin)
      clear hmin hcf
      obtain ⟨l1, l2, l3⟩ : vv V i < len0 ∧ ac V A i < len4 ∧ it V A I i < len10 := by
        obtain ⟨_, _, _, _, _, _, _, _, _, _, _, _, _, _, _, _, _, _, _, _, _, l1, l2, l3, _⟩ := HCN.out i i1 i2
        exact ⟨l1, l2, l3⟩
      obtain ⟨d0, rfl, r0⟩ := B0 (by omega)
      obtain ⟨d1, rfl, r1⟩ := B1 (by omega)
      obtain ⟨d2, rfl, r2⟩ := B2 (by omega)
      obtain ⟨d3, rfl, r3⟩ := B3 (by omega)
      obtain ⟨d4, rfl, r4⟩ := B4 (by omega)
      obtain ⟨d5, rfl, r5⟩ := B5 (by omega)
      obtain ⟨d6, rfl, r6⟩ := B6 (by omega)
      obtain ⟨d10, rfl, r10⟩ := B10 (by omega)
      obtain ⟨kn, rfl⟩ : ∃ kn : Nat, a8 = kn := ⟨a8.toNat, by omega⟩
      obtain ⟨km, rfl⟩ : ∃ km : Nat, a9 = km := ⟨a9.toNat, by omega⟩
      go_wp2_with fail
      refine (zzPairInto_any d0 d1 d2 d3 d4 d5 d6 d10 c7 len1 len2 len0 len4 len7 len10 act S V A I F G W L ix y1 kn km nlo nhi mlo mhi r0 r1 r2 r3 r4 r5 r6 r10 HIX.out.1 (by omega) (by omega) (by omega) (by omega) (by omega) HP.out ⟨by omega, by omega⟩ ⟨i, j, i1, i2, j1, j2, HMIN.out.1⟩).mono ?_
      rintro e y2 ⟨hb11, i', j', i1', i2', j1', j2', hcf', rfl, hmin1, hmin2⟩
      obtain ⟨ea, eb⟩ := agree HIX.out.2 (fun j h1 h2 => by have := HVM.out j h1 h2; unfold vv; omega) i1 i2 j1 j2 i1' i2' j1' j2' HMIN.out.1 hcf' HMIN.out.2 hmin1 hmin2
      rw [ea, eb]
      have t1 : (ix (vv V i) == ix (vv V i)) = true := by simp
      have t2 : (ix (vv V j) == ix (vv V j)) = true := by simp
      clear ea eb hmin1 hmin2 hcf'
      go_wp2
      go_ret
      exact ⟨rfl, hb10.trans (hb11.mono hb10.size)⟩
  · refine (pairOK_len c0 c1 c2 c3 c4 c5 c6 c7 c10 len1 len2 len4 len7 len10 a8 a9 x9 len0 len3 len5 len6 (by omega)).mono ?_
    rintro e w' ⟨rfl, rfl⟩
    go_wp2
    go_ret
    exact ⟨rfl, hb9⟩
end Go.Proofs.Qxb6603909a
