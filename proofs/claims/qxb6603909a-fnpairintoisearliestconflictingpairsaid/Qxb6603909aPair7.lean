import Derived.Test.Qxb6603909aPair6
import Derived.StillTailTactics
namespace Go.Proofs.Qxb6603909a
open Go.RowKit
set_option linter.unusedVariables false
set_option linter.unusedSimpArgs false

theorem info64 : (Try.prog.info? 64).map (fun i => (i.zero, i.size, i.bytes)) = some (some (.agg #[.int .u8 0, .int .i32 0, .string ByteArray.empty, .int .i32 0, .bool false]), 5, 32) := by kernel_rfl
theorem info67 : (Try.prog.info? 67).map (fun i => (i.zero, i.size, i.bytes)) = some (some (.agg #[.int .i32 0, .int .i32 0, .int .i32 0, .int .i32 0, .int .i32 0, .int .i32 0]), 6, 24) := by kernel_rfl

/-- 'make' of n structs of several cells -/
theorem make_structs (t e : TypeId) (z : Value) (size bytes n : Nat) (ht : Try.prog.underlying t = some (.slice e)) (hinfo : (Try.prog.info? e).map (fun i => (i.zero, i.size, i.bytes)) = some (some z, size, bytes)) (hb : bytes * n ≤ 281474976710656) (h63 : n ≤ 4096) (w : World) :
    ∃ w1 f, (Instr.makeSlice t (.int .i64 (n : Int)) (.int .i64 (n : Int))).run Try.prog w = .ok (.slice (some ⟨w.heap.size, 0, none⟩) n n) w1 ∧ w1.rowIs w.heap.size e (n * size) f ∧ Below w.heap.size w w1 ∧ w1.heap.size = w.heap.size + 1 := by
  obtain ⟨i, hi, hzz⟩ := Option.map_eq_some_iff.1 hinfo
  simp only [Prod.mk.injEq] at hzz
  obtain ⟨hz, hs, hby⟩ := hzz
  have hb' : (i.bytes : Int) * (n : Int) ≤ 281474976710656 := by
    have h : ((i.bytes * n : Nat) : Int) ≤ 281474976710656 := by rw [hby]; omega
    rwa [Int.natCast_mul] at h
  have hr := run_make (P := Try.prog) w t e i z ht hi hz .i64 .i64 n n (by omega) (Int.le_refl _) hb' (by omega)
  rw [Int.toNat_natCast, hs] at hr
  refine ⟨_, fun j => ((madeCells z.cells (n * size))[j]?).getD undef, hr, ?_, (Below.refl _ _).alloc (Nat.le_refl _) _, by simp⟩
  have h := World.rowIs_alloc w (madeCells z.cells (n * size)) e (fun j => ((madeCells z.cells (n * size))[j]?).getD undef) (fun j hj => by
    rw [Array.getElem?_eq_getElem hj]; rfl)
  rwa [size_madeCells] at h

theorem run_exec_build67 (ρ : Operand → Value) (o : Oper) (x y z : Int) (ho : o.op = .build 67 #[(1, .tmp 60), (2, .tmp 64), (3, .tmp 68), (4, .const (.int .i32 (-1))), (5, .const (.int .i32 (-1)))])
    (h1 : ρ (.tmp 60) = .int .i32 x) (h2 : ρ (.tmp 64) = .int .i32 y) (h3 : ρ (.tmp 68) = .int .i32 z) (h4 : ρ (.const (.int .i32 (-1))) = .int .i32 (-1)) (w : World) :
    (execOp ρ o).run Try.prog w = .ok (.value (.agg #[.int .i32 0, .int .i32 x, .int .i32 y, .int .i32 z, .int .i32 (-1), .int .i32 (-1)])) w := by
  unfold execOp
  rw [ho]
  simp only [List.map_toArray, List.map_cons, List.map_nil, h1, h2, h3, h4]
  kernel_rfl

theorem still_val {P : Program} {o : Oper} {a : Act} {w : World} {K : Act → Prop} (v : Value) (h : (execOp a.eval o).run P w = .ok (.value v) w) (hk : K (a.put o.dst v)) : o.still P a w K := by
  show o.stillUpon P a w K ((execOp a.eval o).run P w)
  rw [h]
  exact ⟨rfl, hk⟩

set_option maxHeartbeats 3200000 in
set_option maxRecDepth 100000 in
theorem zzPairInto_any (bact bS bV bA bI bF bG bL : Nat) (aW : Option Addr) (nS nV np nA nW nl : Nat) (act S V A I F G W L ix : Nat → Int) (w : World) (kn km nlo nhi mlo mhi : Nat)
    (r0 : w.rowIs bact 5 np (fun i => .int .u8 (act i))) (rS : w.rowIs bS 3 nS (fun i => .int .i64 (S i))) (rV : w.rowIs bV 21 nV (fun i => .int .i32 (V i))) (rA : w.rowIs bA 21 np (fun i => .int .i32 (A i)))
    (rI : w.rowIs bI 21 nA (fun i => .int .i32 (I i))) (rF : w.rowIs bF 21 nA (fun i => .int .i32 (F i))) (rG : w.rowIs bG 21 nA (fun i => .int .i32 (G i))) (rL : w.rowIs bL 21 nl (fun i => .int .i32 (L i)))
    (hI : Idx w aW nW np ix)
    (b0 : np ≤ 4096) (b1 : nS ≤ 4096) (b2 : nV ≤ 4096) (b3 : nA ≤ 4096) (b5 : nl ≤ 4096)
    (P : PairP act S V A I F G W L np nS nV nA nW nl aW kn km nlo nhi mlo mhi) (hnm : nlo < nhi ∧ mlo < mhi)
    (hCf : ∃ i j, nlo ≤ i ∧ i < nhi ∧ mlo ≤ j ∧ j < mhi ∧ Cf act V A I i j) :
    Calls Try.prog 26 #[.slice (some ⟨bact, 0, none⟩) np np, .slice (some ⟨bS, 0, none⟩) nS nS, .slice (some ⟨bV, 0, none⟩) nV nV, .slice (some ⟨bA, 0, none⟩) np np, .slice (some ⟨bI, 0, none⟩) nA nA,
      .slice (some ⟨bF, 0, none⟩) nA nA, .slice (some ⟨bG, 0, none⟩) nA nA, .slice aW nW nW, .int .i32 kn, .int .i32 km, .slice (some ⟨bL, 0, none⟩) nl nl] w fun e w' => Below w.heap.size w w' ∧
      ∃ i j, nlo ≤ i ∧ i < nhi ∧ mlo ≤ j ∧ j < mhi ∧ Cf act V A I i j ∧ e = .returned (.tuple #[.int .i64 (ix (vv V i)), .int .i64 (ix (vv V j))]) ∧
        (∀ i' j', nlo ≤ i' → i' < nhi → mlo ≤ j' → j' < mhi → Cf act V A I i' j' → ix (vv V j) ≤ ix (vv V j')) ∧ ∀ i', nlo ≤ i' → i' < nhi → Cf act V A I i' j → ix (vv V i) ≤ ix (vv V i') := by
  obtain ⟨w1, f1, hrun1, r1, bl1, hsz1⟩ := make_structs 61 64 _ 5 32 np Try.underlying61 info64 (by omega) b0 w
  have HP := hidd P
  have HCF := hidd hCf
  have HI := hidd hI
  clear P hCf hI hsz1
  go_enter Try.func26, Try.ntmps26
  go_upto_block 0 with fail
  clear hrun1
  go_cut [35] (fun kv wx => Below w.heap.size w wx ∧ ∃ f, wx.rowIs w.heap.size 64 (np * 5) f ∧ ∀ j, j < np → f (j * 5) = .int .u8 (act j))
  case first => as_aux_lemma =>
    go_wp2_with fail
    go_loopg [35] np (fun gk kv wr => ∃ (k : Nat) (f : Nat → Value), k + gk = np ∧ kv = .int .i64 k ∧ wr.rowIs w.heap.size 64 (np * 5) f ∧ (∀ j, j < k → f (j * 5) = .int .u8 (act j)) ∧ Below w.heap.size w wr)
    case atStart => exact ⟨0, f1, by omega, rfl, r1, fun j hj => by omega, bl1⟩
    case round =>
      obtain ⟨k, f, hk, rfl, hr, hf, hb⟩ := hrel
      have HK := hidd hk
      have HF := hidd hf
      clear hf hk
      by_cases hlt : k < np
      · have cA : wr.cell? ⟨bact, k, none⟩ = some (.int .u8 (act k)) := by rw [hb.cell (by exact r0.lt), r0.cell hlt]
        have d0 := hr.cell (i := k * 5) (by omega)
        have d1 := hr.cell (i := k * 5 + 1) (by omega)
        have d2 := hr.cell (i := k * 5 + 2) (by omega)
        have d3 := hr.cell (i := k * 5 + 3) (by omega)
        have d4 := hr.cell (i := k * 5 + 4) (by omega)
        have e0 := hr.frozen (k * 5)
        have e1 := hr.frozen (k * 5 + 1)
        have e2 := hr.frozen (k * 5 + 2)
        have e3 := hr.frozen (k * 5 + 3)
        have e4 := hr.frozen (k * 5 + 4)
        go_wp2
        go_roundg (gk - 1)
        case measure => have := HK.out; omega
        case rel =>
          refine ⟨k + 1, _, by have := HK.out; omega, by go_num, ((((hr.set _ _).set _ _).set _ _).set _ _).set _ _, ?_, ((((hb.setCell (by exact Nat.le_refl _) _).setCell (by exact Nat.le_refl _) _).setCell (by exact Nat.le_refl _) _).setCell (by exact Nat.le_refl _) _).setCell (by exact Nat.le_refl _) _⟩
          intro j hj
          show (if j * 5 = k * 5 + 4 then _ else if j * 5 = k * 5 + 3 then _ else if j * 5 = k * 5 + 2 then _ else if j * 5 = k * 5 + 1 then _ else if j * 5 = k * 5 then Value.int .u8 (act k) else f (j * 5)) = _
          rw [if_neg (by omega), if_neg (by omega), if_neg (by omega), if_neg (by omega)]
          by_cases e : j = k
          · subst e; rw [if_pos rfl]
          · rw [if_neg (by omega)]; exact HF.out j (by omega)
      · have hkn : k = np := by have := HK.out; omega
        subst hkn
        go_wp2
        go_meet
        case rel => exact ⟨hb, f, hr, HF.out⟩
  case rest =>
    obtain ⟨hbS, f, hrS, hfS⟩ := hcut
    obtain ⟨wS, rfl⟩ : ∃ wS, wS = wc := ⟨_, rfl⟩
    obtain ⟨w2, f2, hrun2, r2, bl2, hsz2⟩ := make_structs 65 67 _ 6 24 nA Try.underlying65 info67 (by omega) b3 wS
    have HFS := hidd hfS
    have HSZ2 := hidd hsz2
    clear hfS hsz2 r1 bl1
    go_upto_block 2 with fail
    clear hrun2
    go_cut [52] (fun kv wx => Below wS.heap.size wS wx ∧ ∃ f, wx.rowIs wS.heap.size 67 (nA * 6) f ∧ ∀ j, j < nA → f (j * 6) = .int .i32 0 ∧ f (j * 6 + 1) = .int .i32 (I j) ∧ f (j * 6 + 2) = .int .i32 (F j) ∧ f (j * 6 + 3) = .int .i32 (G j) ∧ f (j * 6 + 4) = .int .i32 (-1) ∧ f (j * 6 + 5) = .int .i32 (-1))
    case first => as_aux_lemma =>
      go_wp2_with fail
      go_loopg [52] nA (fun gk kv wr => ∃ (k : Nat) (f : Nat → Value), k + gk = nA ∧ kv = .int .i64 k ∧ wr.rowIs wS.heap.size 67 (nA * 6) f ∧
        (∀ j, j < k → f (j * 6) = .int .i32 0 ∧ f (j * 6 + 1) = .int .i32 (I j) ∧ f (j * 6 + 2) = .int .i32 (F j) ∧ f (j * 6 + 3) = .int .i32 (G j) ∧ f (j * 6 + 4) = .int .i32 (-1) ∧ f (j * 6 + 5) = .int .i32 (-1)) ∧ Below wS.heap.size wS wr)
      case atStart => exact ⟨0, f2, by omega, rfl, r2, fun j hj => by omega, bl2⟩
      case round =>
        obtain ⟨k, f, hk, rfl, hr, hf, hb⟩ := hrel
        have HK := hidd hk
        have HF := hidd hf
        have hbe : Below w.heap.size w wr := hbS.trans (hb.mono hbS.size)
        clear hf hk
        by_cases hlt : k < nA
        · have c1 : wr.cell? ⟨bI, k, none⟩ = some (.int .i32 (I k)) := by rw [hbe.cell (by exact rI.lt), rI.cell hlt]
          have c2 : wr.cell? ⟨bF, k, none⟩ = some (.int .i32 (F k)) := by rw [hbe.cell (by exact rF.lt), rF.cell hlt]
          have c3 : wr.cell? ⟨bG, k, none⟩ = some (.int .i32 (G k)) := by rw [hbe.cell (by exact rG.lt), rG.cell hlt]
          have hki : (k : Int) < (nA : Int) := by omega
          have d0 := hr.cell (i := k * 6) (by omega)
          have d1 := hr.cell (i := k * 6 + 1) (by omega)
          have d2 := hr.cell (i := k * 6 + 2) (by omega)
          have d3 := hr.cell (i := k * 6 + 3) (by omega)
          have d4 := hr.cell (i := k * 6 + 4) (by omega)
          have d5 := hr.cell (i := k * 6 + 5) (by omega)
          have e0 := hr.frozen (k * 6)
          have e1 := hr.frozen (k * 6 + 1)
          have e2 := hr.frozen (k * 6 + 2)
          have e3 := hr.frozen (k * 6 + 3)
          have e4 := hr.frozen (k * 6 + 4)
          have e5 := hr.frozen (k * 6 + 5)
          go_wp2
          refine wp_region_still_tail 16 (by kernel_rfl) (by kernel_rfl) ?_
          simp only [List.take_succ_cons, List.take_zero, List.drop_succ_cons, List.drop_zero]
          iterate 14 still_step
          refine wpStill_step (fun K hK => ?_)
          rw [if_pos (by rfl)]
          refine still_val _ (run_exec_build67 _ _ (I k) (F k) (G k) (by rfl) (by simp [go_sem]) (by simp [go_sem]) (by simp [go_sem]) (by simp [go_sem]) _) ?_
          go_simp
          refine hK _ ?_
          clear hK K
          still_step
          refine wpStill_nil ?_
          have hbd : Below wS.heap.size wS wr.drew := hb.drew
          have hrd : wr.drew.rowIs wS.heap.size 67 (nA * 6) f := hr.drew
          show wpList Try.prog _ _ _ _ wr.drew
          generalize wr.drew = wd at hbd hrd ⊢
          clear d0 d1 d2 d3 d4 d5 e0 e1 e2 e3 e4 e5 c1 c2 c3 hr hb hbe
          have d0 := hrd.cell (i := k * 6) (by omega)
          have d1 := hrd.cell (i := k * 6 + 1) (by omega)
          have d2 := hrd.cell (i := k * 6 + 2) (by omega)
          have d3 := hrd.cell (i := k * 6 + 3) (by omega)
          have d4 := hrd.cell (i := k * 6 + 4) (by omega)
          have d5 := hrd.cell (i := k * 6 + 5) (by omega)
          have e0 := hrd.frozen (k * 6)
          have e1 := hrd.frozen (k * 6 + 1)
          have e2 := hrd.frozen (k * 6 + 2)
          have e3 := hrd.frozen (k * 6 + 3)
          have e4 := hrd.frozen (k * 6 + 4)
          have e5 := hrd.frozen (k * 6 + 5)
          go_wp2
          go_roundg (gk - 1)
          case measure => have := HK.out; omega
          case rel =>
            refine ⟨k + 1, _, by have := HK.out; omega, by go_num, (((((hrd.set _ _).set _ _).set _ _).set _ _).set _ _).set _ _, ?_, (((((hbd.setCell (by exact Nat.le_refl _) _).setCell (by exact Nat.le_refl _) _).setCell (by exact Nat.le_refl _) _).setCell (by exact Nat.le_refl _) _).setCell (by exact Nat.le_refl _) _).setCell (by exact Nat.le_refl _) _⟩
            intro j hj
            by_cases e : j = k
            · subst e
              simp
            · have hjk : j < k := by omega
              obtain ⟨p0, p1, p2, p3, p4, p5⟩ := HF.out j hjk
              have n0 : ∀ a b, a < 6 → b < 6 → j * 6 + a ≠ k * 6 + b := by intro a b ha hb; omega
              have n00 : ∀ b, b < 6 → j * 6 ≠ k * 6 + b := by intro b hb; omega
              refine ⟨?_, ?_, ?_, ?_, ?_, ?_⟩
              · show (if j * 6 = k * 6 + 5 then _ else if j * 6 = k * 6 + 4 then _ else if j * 6 = k * 6 + 3 then _ else if j * 6 = k * 6 + 2 then _ else if j * 6 = k * 6 + 1 then _ else if j * 6 = k * 6 then _ else f (j * 6)) = _
                rw [if_neg (by omega), if_neg (by omega), if_neg (by omega), if_neg (by omega), if_neg (by omega), if_neg (by omega)]; exact p0
              · show (if j * 6 + 1 = k * 6 + 5 then _ else if j * 6 + 1 = k * 6 + 4 then _ else if j * 6 + 1 = k * 6 + 3 then _ else if j * 6 + 1 = k * 6 + 2 then _ else if j * 6 + 1 = k * 6 + 1 then _ else if j * 6 + 1 = k * 6 then _ else f (j * 6 + 1)) = _
                rw [if_neg (by omega), if_neg (by omega), if_neg (by omega), if_neg (by omega), if_neg (by omega), if_neg (by omega)]; exact p1
              · show (if j * 6 + 2 = k * 6 + 5 then _ else if j * 6 + 2 = k * 6 + 4 then _ else if j * 6 + 2 = k * 6 + 3 then _ else if j * 6 + 2 = k * 6 + 2 then _ else if j * 6 + 2 = k * 6 + 1 then _ else if j * 6 + 2 = k * 6 then _ else f (j * 6 + 2)) = _
                rw [if_neg (by omega), if_neg (by omega), if_neg (by omega), if_neg (by omega), if_neg (by omega), if_neg (by omega)]; exact p2
              · show (if j * 6 + 3 = k * 6 + 5 then _ else if j * 6 + 3 = k * 6 + 4 then _ else if j * 6 + 3 = k * 6 + 3 then _ else if j * 6 + 3 = k * 6 + 2 then _ else if j * 6 + 3 = k * 6 + 1 then _ else if j * 6 + 3 = k * 6 then _ else f (j * 6 + 3)) = _
                rw [if_neg (by omega), if_neg (by omega), if_neg (by omega), if_neg (by omega), if_neg (by omega), if_neg (by omega)]; exact p3
              · show (if j * 6 + 4 = k * 6 + 5 then _ else if j * 6 + 4 = k * 6 + 4 then _ else if j * 6 + 4 = k * 6 + 3 then _ else if j * 6 + 4 = k * 6 + 2 then _ else if j * 6 + 4 = k * 6 + 1 then _ else if j * 6 + 4 = k * 6 then _ else f (j * 6 + 4)) = _
                rw [if_neg (by omega), if_neg (by omega), if_neg (by omega), if_neg (by omega), if_neg (by omega), if_neg (by omega)]; exact p4
              · show (if j * 6 + 5 = k * 6 + 5 then _ else if j * 6 + 5 = k * 6 + 4 then _ else if j * 6 + 5 = k * 6 + 3 then _ else if j * 6 + 5 = k * 6 + 2 then _ else if j * 6 + 5 = k * 6 + 1 then _ else if j * 6 + 5 = k * 6 then _ else f (j * 6 + 5)) = _
                rw [if_neg (by omega), if_neg (by omega), if_neg (by omega), if_neg (by omega), if_neg (by omega), if_neg (by omega)]; exact p5
        · have hkn : k = nA := by have := HK.out; omega
          subst hkn
          go_wp2
          go_meet
          case rel => exact ⟨hb, f, hr, HF.out⟩
    case rest =>
      obtain ⟨hbA, f', hrA, hfA⟩ := hcut
      obtain ⟨wA, rfl⟩ : ∃ wA, wA = wc := ⟨_, rfl⟩
      have HFA := hidd hfA
      have hbwA : Below w.heap.size w wA := hbS.trans (hbA.mono hbS.size)
      have hzS : wS.heap.size < wA.heap.size := hrA.lt
      have hrS' := hrS.of_block (hbA.block _ hrS.lt)
      clear hfA r2 bl2
      go_wp2_with fail
      refine (pairInto_any (wA.heap.size + 1) wA.heap.size w.heap.size wS.heap.size bS bV bA bL aW nS nV np nA nW nl act S V A I F G W L ix _ kn km nlo nhi mlo mhi ?gr ?rS ?rV ?rA ?rL ?hI b0 b1 b2 b3 b5 HP.out hnm HCF.out).mono ?_
      case gr =>
        refine Graph.mk ?_ ?_ ?_ ?_ ?_ ?_ ?_ ?_ ?_
        · simp
        · simp
        · simp
        · simp
        · simp
        · simp
        · simp
        · intro j hj
          rw [(((Below.refl wA.heap.size wA).alloc (Nat.le_refl _) _).alloc (by simp) _).cell (by exact hrS'.lt), hrS'.cell (by omega), HFS.out j hj]
        · intro a ha
          obtain ⟨p0, p1, p2, p3, p4, p5⟩ := HFA.out a ha
          have hc : ∀ o1 o2 x, x < nA * 6 → ((wA.alloc o1).alloc o2).cell? ⟨wS.heap.size, x, none⟩ = some (f' x) := fun o1 o2 x hx => by
            rw [(((Below.refl wA.heap.size wA).alloc (Nat.le_refl _) _).alloc (by simp) _).cell (by exact hzS), hrA.cell hx]
          exact ⟨by rw [hc _ _ _ (by omega), p0], by rw [hc _ _ _ (by omega), p1], by rw [hc _ _ _ (by omega), p2], by rw [hc _ _ _ (by omega), p3], by rw [hc _ _ _ (by omega), p4], by rw [hc _ _ _ (by omega), p5]⟩
      case rS => exact ((rS.of_block (hbwA.block _ rS.lt)).alloc _).alloc _
      case rV => exact ((rV.of_block (hbwA.block _ rV.lt)).alloc _).alloc _
      case rA => exact ((rA.of_block (hbwA.block _ rA.lt)).alloc _).alloc _
      case rL => exact ((rL.of_block (hbwA.block _ rL.lt)).alloc _).alloc _
      case hI => exact HI.out.below ((hbwA.alloc hbwA.size _).alloc (by have := hbwA.size; simp; omega) _)
      rintro e w3 ⟨hb3, i, j, i1, i2, j1, j2, hcf, rfl, hmin1, hmin2⟩
      have hz3 := hb3.size
      have hbw3 : Below w.heap.size w w3 := ((hbwA.alloc hbwA.size _).alloc (by have := hbwA.size; simp; omega) _).trans (hb3.mono (by have := hbwA.size; simp; omega))
      have HFIN := hidd (And.intro hcf (And.intro hmin1 hmin2))
      clear hcf hmin1 hmin2 hb3
      go_wp2
      go_quiet (fail)
      go_wp2
      go_ret2
      refine ⟨?_, i, j, i1, i2, j1, j2, HFIN.out.1, rfl, HFIN.out.2.1, HFIN.out.2.2⟩
      exact below_drewN (hbw3.alloc hbw3.size _) _
end Go.Proofs.Qxb6603909a
