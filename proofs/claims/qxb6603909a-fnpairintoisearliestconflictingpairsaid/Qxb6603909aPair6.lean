import Derived.Test.Qxb6603909aPair5
namespace Go.Proofs.Qxb6603909a
open Go.RowKit
set_option linter.unusedVariables false
set_option linter.unusedSimpArgs false

/-- the graph that pairInto is given, as it lies in memory -/
structure Graph (w : World) (bg bt bs ba bS bV bA : Nat) (aW : Option Addr) (nS nV np nA nW : Nat) (act I F G : Nat → Int) : Prop where
  g0 : w.cell? ⟨bg, 0, none⟩ = some (.pointer (some ⟨bt, 0, none⟩))
  g1 : w.cell? ⟨bg, 1, none⟩ = some (.slice aW nW nW)
  t0 : w.cell? ⟨bt, 0, none⟩ = some (.slice (some ⟨bs, 0, none⟩) np np)
  t4 : w.cell? ⟨bt, 4, none⟩ = some (.slice (some ⟨bS, 0, none⟩) nS nS)
  t5 : w.cell? ⟨bt, 5, none⟩ = some (.slice (some ⟨bV, 0, none⟩) nV nV)
  t6 : w.cell? ⟨bt, 6, none⟩ = some (.slice (some ⟨bA, 0, none⟩) np np)
  t8 : w.cell? ⟨bt, 8, none⟩ = some (.slice (some ⟨ba, 0, none⟩) nA nA)
  st : ∀ j, j < np → w.cell? ⟨bs, j * 5, none⟩ = some (.int .u8 (act j))
  acc : ∀ a, a < nA → w.cell? ⟨ba, a * 6, none⟩ = some (.int .i32 0) ∧ w.cell? ⟨ba, a * 6 + 1, none⟩ = some (.int .i32 (I a)) ∧ w.cell? ⟨ba, a * 6 + 2, none⟩ = some (.int .i32 (F a)) ∧
    w.cell? ⟨ba, a * 6 + 3, none⟩ = some (.int .i32 (G a)) ∧ w.cell? ⟨ba, a * 6 + 4, none⟩ = some (.int .i32 (-1)) ∧ w.cell? ⟨ba, a * 6 + 5, none⟩ = some (.int .i32 (-1))

theorem Graph.below {w w' : World} {bg bt bs ba bS bV bA : Nat} {aW : Option Addr} {nS nV np nA nW : Nat} {act I F G : Nat → Int} (h : Graph w bg bt bs ba bS bV bA aW nS nV np nA nW act I F G) (hb : Below w.heap.size w w') :
    Graph w' bg bt bs ba bS bV bA aW nS nV np nA nW act I F G :=
  ⟨cell_later hb h.g0, cell_later hb h.g1, cell_later hb h.t0, cell_later hb h.t4, cell_later hb h.t5, cell_later hb h.t6, cell_later hb h.t8, fun j hj => cell_later hb (h.st j hj),
    fun a ha => ⟨cell_later hb (h.acc a ha).1, cell_later hb (h.acc a ha).2.1, cell_later hb (h.acc a ha).2.2.1, cell_later hb (h.acc a ha).2.2.2.1, cell_later hb (h.acc a ha).2.2.2.2.1, cell_later hb (h.acc a ha).2.2.2.2.2⟩⟩

theorem Idx.below {w w' : World} {aW : Option Addr} {nW np : Nat} {ix : Nat → Int} (h : Idx w aW nW np ix) (hb : Below w.heap.size w w') : Idx w' aW nW np ix := fun p hp => by
  obtain ⟨h1, h2⟩ := h p hp
  refine ⟨h1, ?_⟩
  rcases h2 with h2 | ⟨b, e1, e2, r⟩
  · exact .inl h2
  · exact .inr ⟨b, e1, e2, r.of_block (hb.block _ r.lt)⟩

theorem index_q (bg : Nat) (aW : Option Addr) (nW np : Nat) (ix : Nat → Int) (w : World) (q : Nat) (hc : w.cell? ⟨bg, 1, none⟩ = some (.slice aW nW nW)) (hI : Idx w aW nW np ix) (hn : np ≤ 4096) (x : Nat) (h2 : x < np) :
    Calls Try.prog 37 #[.pointer (some ⟨bg, 0, none⟩), .int .i32 x] (w.drewN q) fun e w' => e = .returned (.int .i64 (ix x)) ∧ w' = w.drewN q := by
  refine (index_any bg aW nW np ix (w.drewN q) hc (hI.below (below_drewN (Below.refl _ _) _)) hn x (by omega) (by omega)).mono ?_
  rintro e w' ⟨h, rfl⟩
  exact ⟨by rw [Int.toNat_natCast], h.symm⟩

set_option maxHeartbeats 20000000 in
set_option maxRecDepth 100000 in
theorem pairInto_any (bg bt bs ba bS bV bA bL : Nat) (aW : Option Addr) (nS nV np nA nW nl : Nat) (act S V A I F G W L ix : Nat → Int) (w : World) (kn km nlo nhi mlo mhi : Nat)
    (gr : Graph w bg bt bs ba bS bV bA aW nS nV np nA nW act I F G)
    (rS : w.rowIs bS 3 nS (fun i => .int .i64 (S i))) (rV : w.rowIs bV 21 nV (fun i => .int .i32 (V i))) (rA : w.rowIs bA 21 np (fun i => .int .i32 (A i))) (rL : w.rowIs bL 21 nl (fun i => .int .i32 (L i)))
    (hI : Idx w aW nW np ix)
    (b0 : np ≤ 4096) (b1 : nS ≤ 4096) (b2 : nV ≤ 4096) (b3 : nA ≤ 4096) (b5 : nl ≤ 4096)
    (P : PairP act S V A I F G W L np nS nV nA nW nl aW kn km nlo nhi mlo mhi) (hnm : nlo < nhi ∧ mlo < mhi)
    (hCf : ∃ i j, nlo ≤ i ∧ i < nhi ∧ mlo ≤ j ∧ j < mhi ∧ Cf act V A I i j) :
    Calls Try.prog 34 #[.pointer (some ⟨bg, 0, none⟩), .int .i32 kn, .int .i32 km, .slice (some ⟨bL, 0, none⟩) nl nl] w fun e w' => Below w.heap.size w w' ∧
      ∃ i j, nlo ≤ i ∧ i < nhi ∧ mlo ≤ j ∧ j < mhi ∧ Cf act V A I i j ∧ e = .returned (.agg #[.int .i64 (ix (vv V i)), .int .i64 (ix (vv V j))]) ∧
        (∀ i' j', nlo ≤ i' → i' < nhi → mlo ≤ j' → j' < mhi → Cf act V A I i' j' → ix (vv V j) ≤ ix (vv V j')) ∧ ∀ i', nlo ≤ i' → i' < nhi → Cf act V A I i' j → ix (vv V i) ≤ ix (vv V i') := by
  obtain ⟨g0, g1, t0, t4, t5, t6, t8, st, acc⟩ := gr
  have gr : Graph w bg bt bs ba bS bV bA aW nS nV np nA nW act I F G := ⟨g0, g1, t0, t4, t5, t6, t8, st, acc⟩
  have HGR := hidd gr
  have zg := World.block_lt_of_cell? _ _ g0
  have zt := World.block_lt_of_cell? _ _ t0
  have bl1 : Below w.heap.size w (w.alloc (.cells #[.int .i64 0, .int .i64 0] 77)) := (Below.refl _ _).alloc (Nat.le_refl _) _
  have hkm : km + 1 < nS := by have := P.nm.2.1; omega
  have hkn : kn + 1 < nS := by have := P.nn.2.1; omega
  have em := P.em
  have en := P.en
  rw [Int.toNat_natCast] at em en
  have hmV : mhi ≤ nV := by have := P.nm.2.2.2.2.1; rw [Int.toNat_natCast, em.2] at this; omega
  have hnV : nhi ≤ nV := by have := P.nn.2.2.2.2.1; rw [Int.toNat_natCast, en.2] at this; omega
  clear gr st acc
  go_enter Try.func34, Try.ntmps34
  go_wp2_with fail
  refine (of_any bS bV nS nV km mlo mhi S V _ (rS.alloc _) (rV.alloc _) hkm b1 b2 em.1 em.2 hnm.2 hmV).mono ?_
  rintro e w1 ⟨hb1, rfl⟩
  have hbw1 : Below w.heap.size w w1 := bl1.trans (hb1.mono (by simp))
  have ro : w1.rowIs w.heap.size 77 2 (fun _ => .int .i64 0) := by
    refine World.rowIs.of_block (w := w.alloc (.cells #[.int .i64 0, .int .i64 0] 77)) ?_ (hb1.block _ (by simp))
    refine World.rowIs_alloc w #[.int .i64 0, .int .i64 0] 77 _ (fun i hi => ?_)
    match i, hi with
    | 0, _ => rfl
    | 1, _ => rfl
  have hzw := ro.lt
  clear g0 g1 t0 t4 t5 t6 t8 hb1
  -- what a step of m or n leads to, in any later world
  have hRow := hidd (show ∀ wr, Below w.heap.size w wr → Graph wr bg bt bs ba bS bV bA aW nS nV np nA nW act I F G ∧ wr.rowIs bV 21 nV (fun i => .int .i32 (V i)) ∧ wr.rowIs bA 21 np (fun i => .int .i32 (A i)) ∧ wr.rowIs bL 21 nl (fun i => .int .i32 (L i)) ∧ Idx wr aW nW np ix from
    fun wr h => ⟨HGR.out.below h, rV.of_block (h.block _ rV.lt), rA.of_block (h.block _ rA.lt), rL.of_block (h.block _ rL.lt), hI.below h⟩)
  have vM := hidd (show ∀ j, mlo ≤ j → j < mhi → V j = vv V j ∧ vv V j < np ∧ A (vv V j) = ac V A j ∧ ac V A j < nA ∧ I (ac V A j) = it V A I j ∧ it V A I j < nl from by
    intro j h1 h2
    have hv := P.nm.2.2.2.2.2 j (by rw [Int.toNat_natCast, em.1]; omega) (by rw [Int.toNat_natCast, em.2]; omega)
    obtain ⟨a1, a2, a3, a4⟩ := P.accM j h1 h2
    unfold it ac vv
    omega)
  have vN := hidd (show ∀ j, nlo ≤ j → j < nhi → V j = vv V j ∧ vv V j < np ∧ A (vv V j) = ac V A j ∧ ac V A j < nA ∧ I (ac V A j) = it V A I j ∧ it V A I j < nl from by
    intro j h1 h2
    have hv := P.nn.2.2.2.2.2 j (by rw [Int.toNat_natCast, en.1]; omega) (by rw [Int.toNat_natCast, en.2]; omega)
    obtain ⟨a1, a2, a3, a4⟩ := P.accN j h1 h2
    unfold it ac vv
    omega)
  have HP := hidd P
  have HE := hidd (And.intro em en)
  clear P em en rV rA rL hI
  go_upto_block 0 with fail
  go_cut [9] (fun tv wx => ∃ t : Int, tv = .int .i32 t ∧ Below w1.heap.size w1 wx ∧ BIx (fun j => ∃ i, nlo ≤ i ∧ i < nhi ∧ Cf act V A I i j) (vv V) ix mlo mhi t)
  case first => as_aux_lemma =>
    go_wp2_with fail
    go_loopg [9, 29] (mhi - mlo) (fun gk tv kv wr => ∃ (k : Nat) (t : Int), mlo + k + gk = mhi ∧ tv = .int .i32 t ∧ kv = .int .i64 k ∧ Below w1.heap.size w1 wr ∧ BIx (fun j => ∃ i, nlo ≤ i ∧ i < nhi ∧ Cf act V A I i j) (vv V) ix mlo (mlo + k) t)
    case atStart => exact ⟨0, -1, by omega, rfl, rfl, Below.refl _ _, .inl ⟨rfl, fun j h1 h2 => by omega⟩⟩
    case round =>
      obtain ⟨k, t, hk, rfl, rfl, hbr, hst⟩ := hrel
      have HK := hidd hk
      have HST := hidd hst
      have hbe : Below w.heap.size w wr := hbw1.trans (hbr.mono hbw1.size)
      have hzr := hbr.size
      clear hk
      by_cases hlt : mlo + k < mhi
      · obtain ⟨gr, rV, rA, rL, hIx⟩ := hRow.out wr hbe
        obtain ⟨g0, g1, t0, t4, t5, t6, t8, st, acc⟩ := gr
        obtain ⟨e1, l1, e2, l2, e3, l3⟩ := vM.out (mlo + k) (by omega) hlt
        have cV := rV.cell (i := mlo + k) (by omega)
        have cA := rA.cell l1
        have cL := rL.cell l3
        have cI := (acc _ l2).2.1
        have cS := st _ l1
        rw [e1] at cV
        rw [e2] at cA
        rw [e3] at cI
        have HACC := hidd acc
        have hkl : k < mhi - mlo := by omega
        clear e1 e2 e3 rV rA rL st acc
        have tr : t = -1 ∨ (0 ≤ t ∧ t < np) := by
          rcases hst with ⟨h, _⟩ | ⟨j, h1, h2, _, rfl, _⟩
          · exact .inl h
          · have := (vM.out j h1 (by omega)).2.1
            exact .inr ⟨by omega, by omega⟩
        clear hst
        by_cases d0 : L (it V A I (mlo + k)) < 0
        · have HN := hidd (HST.out.pass (fun ⟨i, i1, i2, ic⟩ => by
            have h1 := HP.out.lvN i i1 i2
            rw [ic.2.1] at h1
            omega))
          go_wp2
          go_quiet (fail)
          go_wp2
          go_roundg (gk - 1)
          case measure => have := HK.out; omega
          case rel => exact ⟨k + 1, t, by have := HK.out; omega, rfl, by go_num, below_drewN hbr _, HN.out⟩
        · obtain ⟨a, ea, la, hiff⟩ := test_iff HP.out (fun i i1 i2 => (vN.out i i1 i2).1) (mlo + k) (by omega) hlt l1 (by omega)
          rw [ea] at cL
          obtain ⟨x0, x1, x2, x3, x4, x5⟩ := HACC.out a la
          have HIFF := hidd hiff
          clear hiff ea d0
          go_wp2
          go_quiet (fail)
          have hbq := below_drewN hbr nq
          generalize wr.drewN nq = wq at hbq ⊢
          clear g0 g1 t0 t4 t5 t6 t8 cV cA cL cI cS x0 x1 x2 x3 x4 x5 hIx HACC hbe hzr hbr
          have hbe : Below w.heap.size w wq := hbw1.trans (hbq.mono hbw1.size)
          obtain ⟨gr, -, -, -, hIx⟩ := hRow.out wq hbe
          obtain ⟨g0, g1, t0, t4, t5, t6, t8, st, acc⟩ := gr
          obtain ⟨x0, x1, x2, x3, x4, x5⟩ := acc a la
          have cS := st _ l1
          have hzq := hbq.size
          have zba : ba < wq.heap.size := World.block_lt_of_cell? _ _ x0
          have zbs : bs < wq.heap.size := World.block_lt_of_cell? _ _ cS
          have zbt : bt < wq.heap.size := World.block_lt_of_cell? _ _ t0
          have zbg : bg < wq.heap.size := World.block_lt_of_cell? _ _ g0
          clear st acc
          have HG1 := hidd (show ∀ o, (wq.alloc o).cell? ⟨bg, 1, none⟩ = some (.slice aW nW nW) ∧ Idx (wq.alloc o) aW nW np ix from
            fun o => ⟨(Below.refl _ wq |>.alloc (Nat.le_refl _) o).cell (by exact zbg) |>.trans g1, hIx.below ((Below.refl _ _).alloc (Nat.le_refl _) o)⟩)
          have HB2 := hidd (show ∀ o, Below w1.heap.size w1 (wq.alloc o) from fun o => hbq.alloc hzq o)
          by_cases hw : act (vv V (mlo + k)) = 1
          · rw [hw] at cS
            have tw : ((1 : Int) == 1) = true := by simp
            have HIF2 := hidd (show F a < (vv V (mlo + k) : Int) ↔ ∃ i, nlo ≤ i ∧ i < nhi ∧ Cf act V A I i (mlo + k) from by have := HIFF.out; rw [if_pos hw] at this; exact this)
            clear HIFF hw
            by_cases d1 : F a < (vv V (mlo + k) : Int)
            · have hc := hidd (HIF2.out.1 d1)
              by_cases d2 : t < 0
              · have HN := hidd (HST.out.take (by omega) hc.out (.inl d2))
                go_wp2
                go_roundg (gk - 1)
                case measure => have := HK.out; omega
                case rel => exact ⟨k + 1, _, by have := HK.out; omega, rfl, by go_num, HB2.out _, HN.out⟩
              · obtain ⟨T, rfl⟩ : ∃ T : Nat, t = T := ⟨t.toNat, by omega⟩
                by_cases d3 : ix (vv V (mlo + k)) < ix T
                · have HN := hidd (HST.out.take (by omega) hc.out (.inr (by rw [Int.toNat_natCast]; exact d3)))
                  go_wp2_with (go_at_call 37; refine (index_any bg aW nW np ix _ (HG1.out _).1 (HG1.out _).2 b0 _ (by omega) (by omega)).mono ?_; rintro e w' ⟨rfl, rfl⟩; simp only [Int.toNat_natCast])
                  go_roundg (gk - 1)
                  case measure => have := HK.out; omega
                  case rel => exact ⟨k + 1, _, by have := HK.out; omega, rfl, by go_num, HB2.out _, HN.out⟩
                · have HN := hidd (HST.out.keep (by rw [Int.toNat_natCast]; omega))
                  go_wp2_with (go_at_call 37; refine (index_any bg aW nW np ix _ (HG1.out _).1 (HG1.out _).2 b0 _ (by omega) (by omega)).mono ?_; rintro e w' ⟨rfl, rfl⟩; simp only [Int.toNat_natCast])
                  go_roundg (gk - 1)
                  case measure => have := HK.out; omega
                  case rel => exact ⟨k + 1, _, by have := HK.out; omega, rfl, by go_num, HB2.out _, HN.out⟩
            · have HN := hidd (HST.out.pass (fun h => d1 (HIF2.out.2 h)))
              go_wp2
              go_roundg (gk - 1)
              case measure => have := HK.out; omega
              case rel => exact ⟨k + 1, _, by have := HK.out; omega, rfl, by go_num, HB2.out _, HN.out⟩
          · have tw : (act (vv V (mlo + k)) == 1) = false := by rw [beq_eq_false_iff_ne]; exact hw
            have HIF2 := hidd (show G a < (vv V (mlo + k) : Int) ↔ ∃ i, nlo ≤ i ∧ i < nhi ∧ Cf act V A I i (mlo + k) from by have := HIFF.out; rw [if_neg hw] at this; exact this)
            clear HIFF hw
            by_cases d1 : G a < (vv V (mlo + k) : Int)
            · have hc := hidd (HIF2.out.1 d1)
              by_cases d2 : t < 0
              · have HN := hidd (HST.out.take (by omega) hc.out (.inl d2))
                go_wp2
                go_roundg (gk - 1)
                case measure => have := HK.out; omega
                case rel => exact ⟨k + 1, _, by have := HK.out; omega, rfl, by go_num, HB2.out _, HN.out⟩
              · obtain ⟨T, rfl⟩ : ∃ T : Nat, t = T := ⟨t.toNat, by omega⟩
                by_cases d3 : ix (vv V (mlo + k)) < ix T
                · have HN := hidd (HST.out.take (by omega) hc.out (.inr (by rw [Int.toNat_natCast]; exact d3)))
                  go_wp2_with (go_at_call 37; refine (index_any bg aW nW np ix _ (HG1.out _).1 (HG1.out _).2 b0 _ (by omega) (by omega)).mono ?_; rintro e w' ⟨rfl, rfl⟩; simp only [Int.toNat_natCast])
                  go_roundg (gk - 1)
                  case measure => have := HK.out; omega
                  case rel => exact ⟨k + 1, _, by have := HK.out; omega, rfl, by go_num, HB2.out _, HN.out⟩
                · have HN := hidd (HST.out.keep (by rw [Int.toNat_natCast]; omega))
                  go_wp2_with (go_at_call 37; refine (index_any bg aW nW np ix _ (HG1.out _).1 (HG1.out _).2 b0 _ (by omega) (by omega)).mono ?_; rintro e w' ⟨rfl, rfl⟩; simp only [Int.toNat_natCast])
                  go_roundg (gk - 1)
                  case measure => have := HK.out; omega
                  case rel => exact ⟨k + 1, _, by have := HK.out; omega, rfl, by go_num, HB2.out _, HN.out⟩
            · have HN := hidd (HST.out.pass (fun h => d1 (HIF2.out.2 h)))
              go_wp2
              go_roundg (gk - 1)
              case measure => have := HK.out; omega
              case rel => exact ⟨k + 1, _, by have := HK.out; omega, rfl, by go_num, HB2.out _, HN.out⟩
      · have hjn : mlo + k = mhi := by have := HK.out; omega
        rw [hjn] at HST
        clear hst
        go_wp2
        go_meet
        case rel => exact ⟨t, rfl, hbr, HST.out⟩
  case rest =>
    obtain ⟨t, rfl, hbT, hst⟩ := hcut
    obtain ⟨wT, rfl⟩ : ∃ wT, wT = wc := ⟨_, rfl⟩
    obtain ⟨j1, hj1, hj2, hc1, rfl, hmin⟩ : ∃ j, mlo ≤ j ∧ j < mhi ∧ (∃ i, nlo ≤ i ∧ i < nhi ∧ Cf act V A I i j) ∧ t = vv V j ∧ ∀ j', mlo ≤ j' → j' < mhi → (∃ i, nlo ≤ i ∧ i < nhi ∧ Cf act V A I i j') → ix (vv V j) ≤ ix (vv V j') := by
      rcases hst with ⟨h1, h2⟩ | h
      · obtain ⟨i, j, i1, i2, i3, i4, i5⟩ := hCf
        exact absurd ⟨i, i1, i2, i5⟩ (h2 j i3 i4)
      · exact h
    have HMIN := hidd (And.intro hc1 hmin)
    have hbe : Below w.heap.size w wT := hbw1.trans (hbT.mono hbw1.size)
    obtain ⟨gr, rV, rA, rL, hIx⟩ := hRow.out wT hbe
    obtain ⟨g0, g1, t0, t4, t5, t6, t8, st, acc⟩ := gr
    obtain ⟨e1, l1, e2, l2, e3, l3⟩ := vM.out j1 hj1 hj2
    have cA := rA.cell l1
    have cI := (acc _ l2).2.1
    rw [e2] at cA
    rw [e3] at cI
    clear e1 e2 e3 rV rA rL st acc hst hc1 hmin hCf
    go_wp2
    go_quiet (fail)
    have hbq := below_drewN hbT nq
    generalize wT.drewN nq = wq at hbq ⊢
    clear g0 g1 t0 t4 t5 t6 t8 cA cI hIx hbe hbT
    have hbe : Below w.heap.size w wq := hbw1.trans (hbq.mono hbw1.size)
    obtain ⟨gr, rV, -, -, -⟩ := hRow.out wq hbe
    obtain ⟨g0, g1, t0, t4, t5, t6, t8, -, -⟩ := gr
    have rS' := rS.of_block (hbe.block _ rS.lt)
    obtain ⟨⟨em1, em2⟩, en1, en2⟩ := HE.out
    have HEN := hidd (And.intro en1 en2)
    clear em1 em2 en1 en2
    go_wp2_with fail
    refine (of_any bS bV nS nV kn nlo nhi S V _ rS' rV hkn b1 b2 HEN.out.1 HEN.out.2 hnm.1 hnV).mono ?_
    rintro e w2 ⟨hb2, rfl⟩
    have hbw2 : Below w1.heap.size w1 w2 := hbq.trans (hb2.mono hbq.size)
    clear g0 g1 t0 t4 t5 t6 t8 rS' rV hbq hb2 hbe
    go_upto_block 2 with fail
    go_cut [16] (fun fv wx => ∃ t : Int, fv = .int .i32 t ∧ Below w1.heap.size w1 wx ∧ BIx (fun i => Cf act V A I i j1) (vv V) ix nlo nhi t)
    case first => as_aux_lemma =>
      go_wp2_with fail
      go_loopg [16, 138] (nhi - nlo) (fun gk tv kv wr => ∃ (k : Nat) (t : Int), nlo + k + gk = nhi ∧ tv = .int .i32 t ∧ kv = .int .i64 k ∧ Below w1.heap.size w1 wr ∧ BIx (fun i => Cf act V A I i j1) (vv V) ix nlo (nlo + k) t)
      case atStart => exact ⟨0, -1, by omega, rfl, rfl, hbw2, .inl ⟨rfl, fun j h1 h2 => by omega⟩⟩
      case round =>
        obtain ⟨k, t, hk, rfl, rfl, hbr, hst⟩ := hrel
        have HK := hidd hk
        have HST := hidd hst
        have hbe : Below w.heap.size w wr := hbw1.trans (hbr.mono hbw1.size)
        clear hk
        by_cases hlt : nlo + k < nhi
        · obtain ⟨gr, rV, rA, rL, hIx⟩ := hRow.out wr hbe
          obtain ⟨g0, g1, t0, t4, t5, t6, t8, st, acc⟩ := gr
          obtain ⟨e1, m1, e2, m2, e3, m3⟩ := vN.out (nlo + k) (by omega) hlt
          have cV := rV.cell (i := nlo + k) (by omega)
          have cA := rA.cell m1
          have cI := (acc _ m2).2.1
          have cS := st _ m1
          have cT := st _ l1
          rw [e1] at cV
          rw [e2] at cA
          rw [e3] at cI
          have hkl : k < nhi - nlo := by omega
          clear e1 e2 e3 rV rA rL st acc
          have tr : t = -1 ∨ (0 ≤ t ∧ t < np) := by
            rcases hst with ⟨h, _⟩ | ⟨j, h1, h2, _, rfl, _⟩
            · exact .inl h
            · have := (vN.out j h1 (by omega)).2.1
              exact .inr ⟨by omega, by omega⟩
          have HIX := hidd hIx
          clear hst hIx
          by_cases d1 : vv V j1 ≤ vv V (nlo + k)
          · have td1 : decide ((vv V (nlo + k) : Int) < (vv V j1 : Int)) = false := by simp; omega
            have td2 : decide (vv V (nlo + k) < vv V j1) = false := by simp; omega
            have HN := hidd (HST.out.pass (fun h => by have := h.1; omega))
            as_aux_lemma =>
              go_wp2
              try simp only [List.append_eq, List.cons_append, List.nil_append]
              go_quiet ((go_at_call 37; exact Calls.quiet_of_same (index_q bg aW nW np ix _ _ g1 HIX.out b0 _ (by omega))))
              go_wp2
              go_roundg (gk - 1)
              case measure => have := HK.out; omega
              case rel => exact ⟨k + 1, _, by have := HK.out; omega, rfl, by go_num, below_drewN hbr _, HN.out⟩
          have td1 : decide ((vv V (nlo + k) : Int) < (vv V j1 : Int)) = true := by simp; omega
          have td2 : decide (vv V (nlo + k) < vv V j1) = true := by simp; omega
          by_cases d2 : it V A I (nlo + k) ≠ it V A I j1
          · have t2 : ((it V A I (nlo + k) : Int) == it V A I j1) = false := by rw [beq_eq_false_iff_ne]; omega
            have HN := hidd (HST.out.pass (fun h => d2 h.2.1))
            as_aux_lemma =>
              go_wp2
              try simp only [List.append_eq, List.cons_append, List.nil_append]
              go_quiet ((go_at_call 37; exact Calls.quiet_of_same (index_q bg aW nW np ix _ _ g1 HIX.out b0 _ (by omega))))
              go_wp2
              go_roundg (gk - 1)
              case measure => have := HK.out; omega
              case rel => exact ⟨k + 1, _, by have := HK.out; omega, rfl, by go_num, below_drewN hbr _, HN.out⟩
          have d2' : it V A I (nlo + k) = it V A I j1 := Decidable.not_not.1 d2
          have t2 : ((it V A I j1 : Int) == it V A I j1) = true := by simp
          have HD2 := hidd d2'
          rw [d2'] at cI
          clear d2 d2'
          by_cases d3 : act (vv V (nlo + k)) ≠ 1 ∧ act (vv V j1) ≠ 1
          · have t3 : (act (vv V (nlo + k)) == 1) = false := by rw [beq_eq_false_iff_ne]; exact d3.1
            have t4 : (act (vv V j1) == 1) = false := by rw [beq_eq_false_iff_ne]; exact d3.2
            have HN := hidd (HST.out.pass (fun h => by rcases h.2.2 with h | h; exact d3.1 h; exact d3.2 h))
            clear d3
            as_aux_lemma =>
              go_wp2
              try simp only [List.append_eq, List.cons_append, List.nil_append]
              go_quiet ((go_at_call 37; exact Calls.quiet_of_same (index_q bg aW nW np ix _ _ g1 HIX.out b0 _ (by omega))))
              go_wp2
              go_roundg (gk - 1)
              case measure => have := HK.out; omega
              case rel => exact ⟨k + 1, _, by have := HK.out; omega, rfl, by go_num, below_drewN hbr _, HN.out⟩
          have hcf := hidd (show Cf act V A I (nlo + k) j1 from ⟨by omega, HD2.out, by omega⟩)
          have tw : (act (vv V (nlo + k)) == 1) = true ∨ ((act (vv V (nlo + k)) == 1) = false ∧ (act (vv V j1) == 1) = true) := by
            by_cases e : act (vv V (nlo + k)) = 1
            · left; rw [e]; rfl
            · right; refine ⟨by rw [beq_eq_false_iff_ne]; exact e, ?_⟩
              have : act (vv V j1) = 1 := by omega
              rw [this]; rfl
          clear d3
          by_cases u0 : t < 0
          · have tu : decide (t < 0) = true := by simp; omega
            have HN := hidd (HST.out.take (by omega) hcf.out (.inl u0))
            rcases tw with t3 | ⟨t3, t4⟩
            all_goals
              as_aux_lemma =>
                go_wp2
                try simp only [List.append_eq, List.cons_append, List.nil_append]
                go_quiet ((go_at_call 37; exact Calls.quiet_of_same (index_q bg aW nW np ix _ _ g1 HIX.out b0 _ (by omega))))
                go_wp2
                go_roundg (gk - 1)
                case measure => have := HK.out; omega
                case rel => exact ⟨k + 1, _, by have := HK.out; omega, rfl, by go_num, below_drewN hbr _, HN.out⟩
          obtain ⟨T, rfl⟩ : ∃ T : Nat, t = T := ⟨t.toNat, by omega⟩
          have tu : decide ((T : Int) < 0) = false := by simp
          by_cases u1 : ix (vv V (nlo + k)) < ix T
          · have tu1 : decide (ix (vv V (nlo + k)) < ix T) = true := by simp; omega
            have HN := hidd (HST.out.take (by omega) hcf.out (.inr (by rw [Int.toNat_natCast]; exact u1)))
            rcases tw with t3 | ⟨t3, t4⟩
            all_goals
              as_aux_lemma =>
                go_wp2
                try simp only [List.append_eq, List.cons_append, List.nil_append]
                go_quiet ((go_at_call 37; exact Calls.quiet_of_same (index_q bg aW nW np ix _ _ g1 HIX.out b0 _ (by omega))))
                go_wp2
                go_roundg (gk - 1)
                case measure => have := HK.out; omega
                case rel => exact ⟨k + 1, _, by have := HK.out; omega, rfl, by go_num, below_drewN hbr _, HN.out⟩
          · have tu1 : decide (ix (vv V (nlo + k)) < ix T) = false := by simp; omega
            have HN := hidd (HST.out.keep (by rw [Int.toNat_natCast]; omega))
            rcases tw with t3 | ⟨t3, t4⟩
            all_goals
              as_aux_lemma =>
                go_wp2
                try simp only [List.append_eq, List.cons_append, List.nil_append]
                go_quiet ((go_at_call 37; exact Calls.quiet_of_same (index_q bg aW nW np ix _ _ g1 HIX.out b0 _ (by omega))))
                go_wp2
                go_roundg (gk - 1)
                case measure => have := HK.out; omega
                case rel => exact ⟨k + 1, _, by have := HK.out; omega, rfl, by go_num, below_drewN hbr _, HN.out⟩
        · have hjn : nlo + k = nhi := by have := HK.out; omega
          rw [hjn] at HST
          clear hst
          go_wp2
          go_meet
          case rel => exact ⟨t, rfl, hbr, HST.out⟩
    case rest =>
      obtain ⟨t, rfl, hbF, hst⟩ := hcut
      obtain ⟨wF, rfl⟩ : ∃ wF, wF = wc := ⟨_, rfl⟩
      obtain ⟨i1, hi1, hi2, hcf, rfl, hmin⟩ : ∃ i, nlo ≤ i ∧ i < nhi ∧ Cf act V A I i j1 ∧ t = vv V i ∧ ∀ i', nlo ≤ i' → i' < nhi → Cf act V A I i' j1 → ix (vv V i) ≤ ix (vv V i') := by
        rcases hst with ⟨h1, h2⟩ | h
        · obtain ⟨i, p1, p2, p3⟩ := HMIN.out.1
          exact absurd p3 (h2 i p1 p2)
        · exact h
      have HF := hidd (And.intro hcf hmin)
      have m1 := (vN.out i1 hi1 hi2).2.1
      have hbe : Below w.heap.size w wF := hbw1.trans (hbF.mono hbw1.size)
      obtain ⟨gr, -, -, -, hIx⟩ := hRow.out wF hbe
      have g1 := gr.g1
      have HIX := hidd hIx
      have ro' := ro.of_block (hbF.block _ hzw)
      have c0 := ro'.cell (i := 0) (by omega)
      have c1 := ro'.cell (i := 1) (by omega)
      have f0 := ro'.frozen 0
      have f1 := ro'.frozen 1
      clear hst hcf hmin hIx gr ro'
      go_wp2_with (go_at_call 37; refine (index_any bg aW nW np ix _ g1 HIX.out b0 _ (by omega) (by omega)).mono ?_; rintro e w' ⟨rfl, rfl⟩; simp only [Int.toNat_natCast])
      refine bodyPost_ret (v := .agg #[.int .i64 (ix (vv V i1)), .int .i64 (ix (vv V j1))]) (by simp [results, Try.results34, go_sem, c0, c1, f0, f1]) rfl ⟨?_, i1, j1, hi1, hi2, hj1, hj2, HF.out.1, rfl, ?_, HF.out.2⟩
      · exact (hbe.setCell (by exact Nat.le_refl _) _).setCell (by exact Nat.le_refl _) _
      · intro i' j' p1 p2 p3 p4 p5
        exact HMIN.out.2 j' p3 p4 ⟨i', p1, p2, p5⟩
end Go.Proofs.Qxb6603909a
