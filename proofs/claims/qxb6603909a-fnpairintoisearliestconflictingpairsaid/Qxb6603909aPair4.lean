import Derived.Test.Qxb6603909aPair3
namespace Go.Proofs.Qxb6603909a
open Go.RowKit
set_option linter.unusedVariables false
set_option linter.unusedSimpArgs false

set_option maxHeartbeats 3200000 in
set_option maxRecDepth 100000 in
theorem earliestPair_any (a0 aV aA aI aF aG aW aL : Option Addr) (np nV nA nW nl : Nat) (act V A I F G L ix : Nat → Int) (w : World) (nlo nhi mlo mhi : Nat)
    (b0 : np ≤ 4096) (b2 : nV ≤ 4096) (b3 : nA ≤ 4096) (k1 : nlo ≤ nhi) (k2 : nhi ≤ nV) (k3 : mlo ≤ mhi) (k4 : mhi ≤ nV)
    (hI : Idx w aW nW np ix)
    (hN : ∀ j, nlo ≤ j → j < nhi → CellsAt w.heap.size a0 aV aA aI aF aG aL np nA nl act V A I F G L w j)
    (hM : ∀ j, mlo ≤ j → j < mhi → CellsAt w.heap.size a0 aV aA aI aF aG aL np nA nl act V A I F G L w j) :
    Calls Try.prog 25 #[.slice a0 np np, .slice aV nV nV, .int .i64 nlo, .int .i64 nhi, .int .i64 mlo, .int .i64 mhi, .slice aA np np, .slice aI nA nA, .slice aW nW nW] w fun e w' => w = w' ∧
      ((e = .returned (.tuple #[.int .i64 0, .int .i64 0, .bool false])) ∨
       ∃ i j, nlo ≤ i ∧ i < nhi ∧ mlo ≤ j ∧ j < mhi ∧ Cf act V A I i j ∧ e = .returned (.tuple #[.int .i64 (ix (vv V i)), .int .i64 (ix (vv V j)), .bool true]) ∧
         ∀ i' j', nlo ≤ i' → i' < nhi → mlo ≤ j' → j' < mhi → Cf act V A I i' j' → ix (vv V j) ≤ ix (vv V j') ∧ (vv V j' = vv V j → ix (vv V i) ≤ ix (vv V i'))) := by
  have HI := hidd hI
  have HCN := hidd hN
  have HCM := hidd hM
  clear hI hN hM
  -- a place of the best pair so far lies within the places
  have hrng := hidd (show ∀ (D : Nat → Nat → Prop) bp bq, (∀ i j, D i j → nlo ≤ i ∧ i < nhi ∧ mlo ≤ j ∧ j < mhi) → BestSt (Cf act V A I) D (vv V) ix bp bq → bq = -1 ∨ (0 ≤ bp ∧ bp < np ∧ 0 ≤ bq ∧ bq < np) from by
    intro D bp bq hD hb
    rcases hb with ⟨h1, _⟩ | ⟨i, j, h1, _, rfl, rfl, _⟩
    · exact .inl h1
    · obtain ⟨g1, g2, g3, g4⟩ := hD i j h1
      obtain ⟨_, _, _, _, _, _, _, _, _, _, _, _, _, _, _, _, _, _, _, _, _, l1, _⟩ := HCN.out i g1 g2
      obtain ⟨_, _, _, _, _, _, _, _, _, _, _, _, _, _, _, _, _, _, _, _, _, l2, _⟩ := HCM.out j g3 g4
      exact .inr ⟨by omega, by omega, by omega, by omega⟩)
  go_enter Try.func25, Try.ntmps25
  go_wp2_with fail
  go_loopg [21, 22, 23] (mhi - mlo) (fun gk bpv bqv jv wr => ∃ (jq : Nat) (bp bq : Int), jq + gk = mhi ∧ mlo ≤ jq ∧ bpv = .int .i32 bp ∧ bqv = .int .i32 bq ∧ jv = .int .i64 jq ∧ w = wr ∧
    BestSt (Cf act V A I) (DonePairs nlo nhi mlo jq nlo) (vv V) ix bp bq)
  case atStart => exact ⟨mlo, -1, -1, by omega, Nat.le_refl _, rfl, rfl, rfl, rfl, .inl ⟨rfl, fun i j h => by unfold DonePairs at h; omega⟩⟩
  case round =>
    obtain ⟨jq, bp, bq, hj, hlj, rfl, rfl, rfl, rfl, hbest⟩ := hrel
    have HJ := hidd hj
    have HB := hidd hbest
    clear hj hbest
    by_cases hlt : jq < mhi
    · obtain ⟨b0', bV, bA, bI, bF, bG, bL, rfl, rfl, rfl, rfl, rfl, rfl, rfl, cV, cA, cI, -, -, -, c0, l1, l2, l3, -, -⟩ := HCM.out jq hlj hlt
      obtain ⟨gO, rfl⟩ : ∃ gO, gO = gk := ⟨_, rfl⟩
      go_wp2_with fail
      go_loopg [21, 22, 26] (nhi - nlo) (fun gk bpv bqv jv wr => ∃ (jp : Nat) (bp bq : Int), jp + gk = nhi ∧ nlo ≤ jp ∧ bpv = .int .i32 bp ∧ bqv = .int .i32 bq ∧ jv = .int .i64 jp ∧ w = wr ∧
        BestSt (Cf act V A I) (DonePairs nlo nhi mlo jq jp) (vv V) ix bp bq)
      case atStart => exact ⟨nlo, bp, bq, by omega, Nat.le_refl _, rfl, rfl, rfl, rfl, HB.out⟩
      case round =>
        clear HB
        obtain ⟨jp, bp, bq, hj, hljp, rfl, rfl, rfl, rfl, hbest⟩ := hrel
        have HJP := hidd hj
        have HB := hidd hbest
        clear hj
        by_cases hltp : jp < nhi
        · obtain ⟨b0'', bV', bA', bI', bF', bG', bL', e1, e2, e3, e4, -, -, -, dV, dA, dI, -, -, -, d0, m1, m2, m3, -, -⟩ := HCN.out jp hljp hltp
          cases e1
          cases e2
          cases e3
          cases e4
          have hr := hrng.out _ bp bq (fun i j h => by unfold DonePairs at h; omega) hbest
          clear hbest
          have HST := hidd (done_step (nlo := nlo) (nhi := nhi) (mlo := mlo) (jq := jq) hljp)
          by_cases d1 : vv V jq ≤ vv V jp
          · have HN := hidd (HB.out.no jp jq HST.out (fun h => by have := h.1; omega))
            go_wp2
            go_roundg (gk - 1)
            case measure => have := HJP.out; omega
            case rel => exact ⟨jp + 1, bp, bq, by have := HJP.out; omega, by omega, rfl, rfl, by go_num, rfl, HN.out⟩
          by_cases d2 : it V A I jp ≠ it V A I jq
          · have t2 : ((it V A I jp : Int) != it V A I jq) = true := by rw [bne_iff_ne]; omega
            have HN := hidd (HB.out.no jp jq HST.out (fun h => d2 h.2.1))
            go_wp2_with (go_at_call 33; refine (stepIndex_any aW nW np ix _ HI.out b0 _ (by omega) (by omega)).mono ?_; rintro e w' ⟨rfl, rfl⟩; simp only [Int.toNat_natCast])
            go_roundg (gk - 1)
            case measure => have := HJP.out; omega
            case rel => exact ⟨jp + 1, _, _, by have := HJP.out; omega, by omega, rfl, rfl, by go_num, rfl, HN.out⟩
          have d2' : it V A I jp = it V A I jq := Decidable.not_not.1 d2
          have t2 : ((it V A I jq : Int) != it V A I jq) = false := by simp
          have HD2 := hidd d2'
          rw [d2'] at dI
          clear d2 d2'
          by_cases d3 : act (vv V jp) ≠ 1 ∧ act (vv V jq) ≠ 1
          · have t3 : (act (vv V jp) != 1) = true := by rw [bne_iff_ne]; exact d3.1
            have t4 : (act (vv V jq) != 1) = true := by rw [bne_iff_ne]; exact d3.2
            have HN := hidd (HB.out.no jp jq HST.out (fun h => by rcases h.2.2 with h | h; exact d3.1 h; exact d3.2 h))
            clear d3
            go_wp2_with (go_at_call 33; refine (stepIndex_any aW nW np ix _ HI.out b0 _ (by omega) (by omega)).mono ?_; rintro e w' ⟨rfl, rfl⟩; simp only [Int.toNat_natCast])
            go_roundg (gk - 1)
            case measure => have := HJP.out; omega
            case rel => exact ⟨jp + 1, _, _, by have := HJP.out; omega, by omega, rfl, rfl, by go_num, rfl, HN.out⟩
          have hcf := hidd (show Cf act V A I jp jq from ⟨by omega, HD2.out, by omega⟩)
          have tw : (act (vv V jp) != 1) = false ∨ ((act (vv V jp) != 1) = true ∧ (act (vv V jq) != 1) = false) := by
            by_cases e : act (vv V jp) = 1
            · left; rw [e]; rfl
            · right; refine ⟨by rw [bne_iff_ne]; exact e, ?_⟩
              have : act (vv V jq) = 1 := by omega
              rw [this]; rfl
          clear d3
          by_cases u0 : bq < 0
          · have HN := hidd (HB.out.take jp jq HST.out hcf.out (.inl u0))
            rcases tw with t3 | ⟨t3, t4⟩
            all_goals
              go_wp2_with (go_at_call 33; refine (stepIndex_any aW nW np ix _ HI.out b0 _ (by omega) (by omega)).mono ?_; rintro e w' ⟨rfl, rfl⟩; simp only [Int.toNat_natCast])
              go_roundg (gk - 1)
              case measure => have := HJP.out; omega
              case rel => exact ⟨jp + 1, _, _, by have := HJP.out; omega, by omega, rfl, rfl, by go_num, rfl, HN.out⟩
          have hr' : 0 ≤ bp ∧ bp < np ∧ 0 ≤ bq ∧ bq < np := by omega
          clear hr
          obtain ⟨r1, r2, r3, r4⟩ := hr'
          obtain ⟨P, rfl⟩ : ∃ P : Nat, bp = P := ⟨bp.toNat, by omega⟩
          obtain ⟨Q, rfl⟩ : ∃ Q : Nat, bq = Q := ⟨bq.toNat, by omega⟩
          by_cases u1 : ix (vv V jq) < ix Q
          · have HN := hidd (HB.out.take jp jq HST.out hcf.out (.inr (.inl (by rw [Int.toNat_natCast]; exact u1))))
            rcases tw with t3 | ⟨t3, t4⟩
            all_goals
              go_wp2_with (go_at_call 33; refine (stepIndex_any aW nW np ix _ HI.out b0 _ (by omega) (by omega)).mono ?_; rintro e w' ⟨rfl, rfl⟩; simp only [Int.toNat_natCast])
              go_roundg (gk - 1)
              case measure => have := HJP.out; omega
              case rel => exact ⟨jp + 1, _, _, by have := HJP.out; omega, by omega, rfl, rfl, by go_num, rfl, HN.out⟩
          by_cases u2 : vv V jq = Q
          · have HQ := hidd u2
            by_cases u3 : ix (vv V jp) < ix P
            · have HN := hidd (HB.out.take jp jq HST.out hcf.out (.inr (.inr (by rw [Int.toNat_natCast]; exact ⟨by omega, u3⟩))))
              have t5 : ((vv V jq : Int) == (Q : Int)) = true := by rw [beq_iff_eq]; omega
              clear u2
              rcases tw with t3 | ⟨t3, t4⟩
              all_goals
                go_wp2_with (go_at_call 33; refine (stepIndex_any aW nW np ix _ HI.out b0 _ (by omega) (by omega)).mono ?_; rintro e w' ⟨rfl, rfl⟩; simp only [Int.toNat_natCast])
                go_roundg (gk - 1)
                case measure => have := HJP.out; omega
                case rel => exact ⟨jp + 1, _, _, by have := HJP.out; omega, by omega, rfl, rfl, by go_num, rfl, HN.out⟩
            · have HN := hidd (HB.out.keep jp jq HST.out (by rw [Int.toNat_natCast, Int.toNat_natCast]; omega))
              have t5 : ((vv V jq : Int) == (Q : Int)) = true := by rw [beq_iff_eq]; omega
              clear u2
              rcases tw with t3 | ⟨t3, t4⟩
              all_goals
                go_wp2_with (go_at_call 33; refine (stepIndex_any aW nW np ix _ HI.out b0 _ (by omega) (by omega)).mono ?_; rintro e w' ⟨rfl, rfl⟩; simp only [Int.toNat_natCast])
                go_roundg (gk - 1)
                case measure => have := HJP.out; omega
                case rel => exact ⟨jp + 1, _, _, by have := HJP.out; omega, by omega, rfl, rfl, by go_num, rfl, HN.out⟩
          · have HN := hidd (HB.out.keep jp jq HST.out (by rw [Int.toNat_natCast, Int.toNat_natCast]; omega))
            have t5 : ((vv V jq : Int) == (Q : Int)) = false := by rw [beq_eq_false_iff_ne]; omega
            rcases tw with t3 | ⟨t3, t4⟩
            all_goals
              go_wp2_with (go_at_call 33; refine (stepIndex_any aW nW np ix _ HI.out b0 _ (by omega) (by omega)).mono ?_; rintro e w' ⟨rfl, rfl⟩; simp only [Int.toNat_natCast])
              go_roundg (gk - 1)
              case measure => have := HJP.out; omega
              case rel => exact ⟨jp + 1, _, _, by have := HJP.out; omega, by omega, rfl, rfl, by go_num, rfl, HN.out⟩
        · have hjn : jp = nhi := by have := HJP.out; omega
          subst hjn
          clear hbest
          have HN := hidd (HB.out.congr (done_next hlj k1))
          go_wp2
          go_roundg (gO - 1)
          case measure => have := HJ.out; omega
          case rel => exact ⟨jq + 1, bp, bq, by have := HJ.out; omega, by omega, rfl, rfl, by go_num, rfl, HN.out⟩
    · have hjn : jq = mhi := by have := HJ.out; omega
      subst hjn
      have hall : ∀ i j, nlo ≤ i → i < nhi → mlo ≤ j → j < jq → DonePairs nlo nhi mlo jq nlo i j := fun i j h1 h2 h3 h4 => .inl ⟨h1, h2, h3, h4⟩
      have hback : ∀ i j, DonePairs nlo nhi mlo jq nlo i j → nlo ≤ i ∧ i < nhi ∧ mlo ≤ j ∧ j < jq := fun i j h => by unfold DonePairs at h; omega
      rcases HB.out with ⟨rfl, h2⟩ | ⟨i, j, h1, h2, rfl, rfl, h5⟩
      · clear hall hback h2
        go_wp2
        go_ret3
        exact ⟨rfl, .inl rfl⟩
      · obtain ⟨g1, g2, g3, g4⟩ := hback i j h1
        obtain ⟨_, _, _, _, _, _, _, _, _, _, _, _, _, _, _, _, _, _, _, _, _, l1, _⟩ := HCN.out i g1 g2
        obtain ⟨_, _, _, _, _, _, _, _, _, _, _, _, _, _, _, _, _, _, _, _, _, l2, _⟩ := HCM.out j g3 g4
        have HF := hidd (And.intro h2 (And.intro h5 hall))
        clear h1 h2 h5 hall hback
        go_wp2_with (go_at_call 33; refine (stepIndex_any aW nW np ix _ HI.out b0 _ (by omega) (by omega)).mono ?_; rintro e w' ⟨rfl, rfl⟩; simp only [Int.toNat_natCast])
        go_ret3
        exact ⟨rfl, .inr ⟨i, j, g1, g2, g3, g4, HF.out.1, rfl, fun i' j' p1 p2 p3 p4 pc => HF.out.2.1 i' j' (HF.out.2.2 i' j' p1 p2 p3 p4) pc⟩⟩
end Go.Proofs.Qxb6603909a
