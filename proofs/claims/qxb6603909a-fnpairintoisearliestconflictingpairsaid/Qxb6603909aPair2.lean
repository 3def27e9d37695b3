import Derived.Test.Qxb6603909aPairDefs
namespace Go.Proofs.Qxb6603909a
open Go.RowKit
set_option linter.unusedVariables false
set_option linter.unusedSimpArgs false

section
variable (a0 aS aV aA aI aF aG aW aL : Option Addr) (np nS nV nA nW nl : Nat) (act S V A I F G W L : Nat → Int) (n m : Int) (w : World)

set_option maxRecDepth 100000 in
theorem pairOK_len (n0 nA' nF nG : Nat) (h : nA' ≠ n0 ∨ nF ≠ nA ∨ nG ≠ nA) :
    Calls Try.prog 23 #[.slice a0 n0 n0, .slice aS nS nS, .slice aV nV nV, .slice aA nA' nA', .slice aI nA nA, .slice aF nF nF, .slice aG nG nG, .slice aW nW nW, .int .i32 n, .int .i32 m, .slice aL nl nl] w fun e w' =>
      w = w' ∧ e = .returned (.bool false) := by
  by_cases h1 : nA' = n0
  · subst h1
    have t1 : ((nA' : Int) != nA') = false := by simp
    by_cases h2 : nF = nA
    · subst h2
      have t2 : ((nF : Int) != nF) = false := by simp
      have t3 : ((nG : Int) != nF) = true := by rw [bne_iff_ne]; omega
      go_enter Try.func23, Try.ntmps23
      go_wp2
      go_ret
      exact ⟨rfl, rfl⟩
    · have t2 : ((nF : Int) != nA) = true := by rw [bne_iff_ne]; omega
      go_enter Try.func23, Try.ntmps23
      go_wp2
      go_ret
      exact ⟨rfl, rfl⟩
  · have t1 : ((nA' : Int) != n0) = true := by rw [bne_iff_ne]; omega
    go_enter Try.func23, Try.ntmps23
    go_wp2
    go_ret
    exact ⟨rfl, rfl⟩

set_option maxHeartbeats 3200000 in
set_option maxRecDepth 100000 in
theorem pairOK_any (b0 : np ≤ 4096) (b1 : nS ≤ 4096) (b2 : nV ≤ 4096) (b3 : nA ≤ 4096) (b4 : nW ≤ 4096) (b5 : nl ≤ 4096)
    (hn : -2147483648 ≤ n ∧ n ≤ 2147483647) (hm : -2147483648 ≤ m ∧ m ≤ 2147483647)
    (h0 : Arr .u8 5 w a0 np act) (hS : Arr .i64 3 w aS nS S) (hV : Arr .i32 21 w aV nV V) (hA : Arr .i32 21 w aA np A) (hI : Arr .i32 21 w aI nA I) (hF : Arr .i32 21 w aF nA F) (hG : Arr .i32 21 w aG nA G)
    (hW : Arr .i32 21 w aW nW W) (hL : Arr .i32 21 w aL nl L)
    (hSb : ∀ i, i < nS → -9223372036854775808 ≤ S i ∧ S i ≤ 9223372036854775807) (hVb : ∀ i, i < nV → -2147483648 ≤ V i ∧ V i ≤ 2147483647) (hAb : ∀ i, i < np → -2147483648 ≤ A i ∧ A i ≤ 2147483647)
    (hIb : ∀ i, i < nA → -2147483648 ≤ I i ∧ I i ≤ 2147483647) (hWb : ∀ i, i < nW → -2147483648 ≤ W i ∧ W i ≤ 2147483647) (hGb : ∀ i, i < nA → -2147483648 ≤ G i ∧ G i ≤ 2147483647) :
    Calls Try.prog 23 #[.slice a0 np np, .slice aS nS nS, .slice aV nV nV, .slice aA np np, .slice aI nA nA, .slice aF nA nA, .slice aG nA nA, .slice aW nW nW, .int .i32 n, .int .i32 m, .slice aL nl nl] w fun e w' =>
      Below w.heap.size w w' ∧ SaysIf (∃ nlo nhi mlo mhi : Nat, PairP act S V A I F G W L np nS nV nA nW nl aW n m nlo nhi mlo mhi) e := by
  have t1 : ((np : Int) != np) = false := by simp
  have t2 : ((nA : Int) != nA) = false := by simp
  go_enter Try.func23, Try.ntmps23
  go_upto_region 4 with fail
  clear t1 t2
  have hnil := fun w => run_neq_slice_nil (P := Try.prog) w 23 21 aW nW nW Try.underlying23
  go_upto_if 68 with fail
  clear hnil
  go_cut [22] (fun r wx => Below w.heap.size w wx ∧ WOk aW nW np W)
  case first => as_aux_lemma =>
    cases aW with
    | none =>
      go_wp2
      go_meet
      case rel => exact ⟨Below.refl _ _, .inl rfl⟩
    | some ad =>
      by_cases e1 : nW = np
      · subst e1
        have t1 : ((nW : Int) != nW) = false := by simp
        obtain ⟨w1, hrun, r0, bl0, hsz1⟩ : ∃ w1, (Instr.makeSlice 37 (.int .i64 (nW : Int)) (.int .i64 (nW : Int))).run Try.prog w = .ok (.slice (some ⟨w.heap.size, 0, none⟩) nW nW) w1 ∧
            w1.rowIs w.heap.size 4 nW (fun _ => .bool false) ∧ Below w.heap.size w w1 ∧ w1.heap.size = w.heap.size + 1 :=
          ⟨_, run_make_row' (P := Try.prog) 37 4 (.bool false) 1 Try.underlying37 info4 rfl .i64 .i64 nW (by omega) (by omega) w, World.rowIs_made w (.bool false) nW 4, (Below.refl _ _).alloc (Nat.le_refl _) _, by simp⟩
        clear hsz1
        go_wp2_with fail
        clear hrun t1
        go_loopg [25] nW (fun gk i wr => ∃ (k : Nat) (sn : Nat → Bool), k + gk = nW ∧ i = .int .i64 k ∧ wr.rowIs w.heap.size 4 nW (fun x => .bool (sn x)) ∧ Below w.heap.size w wr ∧
          (∀ p, p < k → 0 ≤ W p ∧ W p < nW ∧ sn (W p).toNat = true) ∧ (∀ p q, p < k → q < k → W p = W q → p = q))
        case atStart => exact ⟨0, fun _ => false, by omega, rfl, r0, bl0, fun p hp => by omega, fun p q hp => by omega⟩
        case round =>
          obtain ⟨k, sn, hk, rfl, hrow, hbel, hall, hinj⟩ := hrel
          have HK := hidd hk
          have HALL := hidd hall
          have HINJ := hidd hinj
          clear hk hall hinj
          by_cases hlt : k < nW
          · obtain ⟨bW, e, rW⟩ := hW (by omega)
            cases e
            have cW : wr.cell? ⟨bW, k, none⟩ = some (.int .i32 (W k)) := by rw [hbel.cell (by exact rW.lt), rW.cell hlt]
            have bw := hWb k hlt
            by_cases d1 : W k < 0
            · go_wp2
              go_ret
              exact ⟨hbel, SaysIf.no _⟩
            by_cases d2 : (nW : Int) ≤ W k
            · go_wp2
              go_ret
              exact ⟨hbel, SaysIf.no _⟩
            obtain ⟨x, hx⟩ : ∃ x : Nat, W k = x := ⟨(W k).toNat, by omega⟩
            have hxn : x < nW := by omega
            rw [hx] at cW
            have HX := hidd hx
            clear hx d1 d2 bw
            have cS := hrow.cell hxn
            cases hsn : sn x with
            | true =>
              rw [hsn] at cS
              clear hsn
              go_wp2
              go_ret
              exact ⟨hbel, SaysIf.no _⟩
            | false =>
              rw [hsn] at cS
              have fS := hrow.frozen x
              have hrow2 := hidd ((hrow.set x (.bool true)).congr (g := fun y => .bool (if y = x then true else sn y)) (fun y _ => by
                show (if y = x then Value.bool true else .bool (sn y)) = .bool (if y = x then true else sn y)
                split <;> rfl))
              have hne := hidd (show ∀ p, p < k → W p ≠ W k from fun p hp e => by
                have h1 := (HALL.out p hp).2.2
                rw [e, HX.out, Int.toNat_natCast, hsn] at h1
                cases h1)
              clear hsn hrow
              go_wp2
              go_roundg (gk - 1)
              case measure => have := HK.out; omega
              case rel =>
                refine ⟨k + 1, _, by have := HK.out; omega, by go_num, hrow2.out, hbel.setCell (by exact Nat.le_refl _) _, ?_, ?_⟩
                · intro p hp
                  by_cases e : p = k
                  · subst e; rw [HX.out]; simp; omega
                  · obtain ⟨h1, h2, h3⟩ := HALL.out p (by omega)
                    refine ⟨h1, h2, ?_⟩
                    simp only [h3]
                    split <;> rfl
                · intro p q hp hq e
                  by_cases e1 : p = k
                  · by_cases e2 : q = k
                    · omega
                    · subst e1; exact absurd e.symm (hne.out q (by omega))
                  · by_cases e2 : q = k
                    · subst e2; exact absurd e (hne.out p (by omega))
                    · exact HINJ.out p q (by omega) (by omega) e
          · have hkn : k = nW := by have := HK.out; omega
            subst hkn
            go_wp2
            go_meet
            case rel => exact ⟨hbel, .inr ⟨rfl, fun p hp => ⟨(HALL.out p hp).1, (HALL.out p hp).2.1⟩, HINJ.out⟩⟩
      · have t1 : ((nW : Int) != np) = true := by rw [bne_iff_ne]; omega
        go_wp2
        go_ret
        exact ⟨Below.refl _ _, SaysIf.no _⟩
  case rest =>
    obtain ⟨hb1, hwok⟩ := hcut
    have HWOK := hidd hwok
    clear hwok
    go_wp2_with fail
    have hS1 := hS.below hb1
    have hV1 := hV.below hb1
    refine (nodeSteps_any aS aV nS nV nS nV np S V n wc hS1 hV1 b1 b2 b0 hn hSb hVb).mono ?_
    rintro e w' ⟨rfl, hres⟩
    rcases hres with ⟨hnn, rfl⟩ | ⟨hnn, rfl⟩
    all_goals go_wp2_with fail
    all_goals refine (nodeSteps_any aS aV nS nV nS nV np S V m wc hS1 hV1 b1 b2 b0 hm hSb hVb).mono ?_
    all_goals rintro e w' ⟨rfl, hres⟩
    all_goals rcases hres with ⟨hnm, rfl⟩ | ⟨hnm, rfl⟩
    · obtain ⟨f1, f2, f3, f4, f5, f6⟩ := hnn
      obtain ⟨f7, f8, f9, f10, f11, f12⟩ := hnm
      have hnn : NodeP S V nS nV np n := ⟨f1, f2, f3, f4, f5, f6⟩
      have hnm : NodeP S V nS nV np m := ⟨f7, f8, f9, f10, f11, f12⟩
      obtain ⟨nlo, e1⟩ : ∃ x : Nat, S n.toNat = x := ⟨(S n.toNat).toNat, by omega⟩
      obtain ⟨nhi, e2⟩ : ∃ x : Nat, S (n.toNat + 1) = x := ⟨(S (n.toNat + 1)).toNat, by omega⟩
      obtain ⟨mlo, e3⟩ : ∃ x : Nat, S m.toNat = x := ⟨(S m.toNat).toNat, by omega⟩
      obtain ⟨mhi, e4⟩ : ∃ x : Nat, S (m.toNat + 1) = x := ⟨(S (m.toNat + 1)).toNat, by omega⟩
      rw [e1] at f3 f4 f6
      rw [e2] at f4 f5 f6
      rw [e3] at f9 f10 f12
      rw [e4] at f10 f11 f12
      rw [e1, e2, e3, e4]
      have k1 : nlo ≤ nhi := by omega
      have k2 : nhi ≤ nV := by omega
      have k3 : mlo ≤ mhi := by omega
      have k4 : mhi ≤ nV := by omega
      have vN : ∀ j, nlo ≤ j → j < nhi → 0 ≤ V j ∧ V j < np := fun j h1 h2 => f6 j (by omega) (by omega)
      have vM : ∀ j, mlo ≤ j → j < mhi → 0 ≤ V j ∧ V j < np := fun j h1 h2 => f12 j (by omega) (by omega)
      have HND := hidd (And.intro HWOK.out (And.intro hnn (And.intro hnm (And.intro (And.intro e1 e2) (And.intro e3 e4)))))
      have hA1 := hA.below hb1
      have hI1 := hI.below hb1
      clear f1 f2 f3 f4 f5 f6 f7 f8 f9 f10 f11 f12 hnn hnm e1 e2 e3 e4 HWOK hS hS1 hSb
      go_wp2_with fail
      refine (stepsHave_any aV aA aI nV nV np np nA nA nl nlo nhi V A I wc hV1 hA1 hI1 k1 k2 b2 b0 b3 b5 vN hAb hIb).mono ?_
      rintro e w' ⟨rfl, r, rfl, hr1⟩
      cases r with
      | false =>
        go_wp2
        go_ret
        exact ⟨hb1, SaysIf.no _⟩
      | true =>
      have acN := hr1 rfl
      clear hr1
      go_wp2_with fail
      refine (stepsHave_any aV aA aI nV nV np np nA nA nl mlo mhi V A I wc hV1 hA1 hI1 k3 k4 b2 b0 b3 b5 vM hAb hIb).mono ?_
      rintro e w' ⟨rfl, r, rfl, hr1⟩
      cases r with
      | false =>
        go_wp2
        go_ret
        exact ⟨hb1, SaysIf.no _⟩
      | true =>
      have acM := hr1 rfl
      clear hr1
      have HCN := hidd (show ∀ j, nlo ≤ j → j < nhi → ∀ wr, Below w.heap.size w wr → CellsAt w.heap.size a0 aV aA aI aF aG aL np nA nl act V A I F G L wr j from
        fun j h1 h2 wr hb => cellsAt_of h0 hV hA hI hF hG hL (by omega) (vN j h1 h2) (acN j h1 h2) hb)
      have HCM := hidd (show ∀ j, mlo ≤ j → j < mhi → ∀ wr, Below w.heap.size w wr → CellsAt w.heap.size a0 aV aA aI aF aG aL np nA nl act V A I F G L wr j from
        fun j h1 h2 wr hb => cellsAt_of h0 hV hA hI hF hG hL (by omega) (vM j h1 h2) (acM j h1 h2) hb)
      have HAC := hidd (And.intro acN acM)
      have hwz := hb1.size
      clear acN acM vN vM h0 hV hA hI hF hG hL hW hV1 hA1 hI1 hVb hAb hIb hWb
      obtain ⟨w1, hrun, r0, bl0, hsz1⟩ : ∃ w1, (Instr.makeSlice 37 (.int .i64 (nl : Int)) (.int .i64 (nl : Int))).run Try.prog wc = .ok (.slice (some ⟨wc.heap.size, 0, none⟩) nl nl) w1 ∧
          w1.rowIs wc.heap.size 4 nl (fun _ => .bool false) ∧ Below wc.heap.size wc w1 ∧ w1.heap.size = wc.heap.size + 1 :=
        ⟨_, run_make_row' (P := Try.prog) 37 4 (.bool false) 1 Try.underlying37 info4 rfl .i64 .i64 nl (by omega) (by omega) wc, World.rowIs_made wc (.bool false) nl 4, (Below.refl _ _).alloc (Nat.le_refl _) _, by simp⟩
      have HSZ1 := hidd hsz1
      clear hsz1
      obtain ⟨wA, rfl⟩ : ∃ wA, wA = wc := ⟨_, rfl⟩
      go_upto_block 2 with fail
      clear hrun
      go_cut [34] (fun jv wx => ∃ hN : Nat → Bool, wx.rowIs wA.heap.size 4 nl (fun x => .bool (hN x)) ∧ Below wA.heap.size wA wx ∧ (∀ i, nlo ≤ i → i < nhi → L (it V A I i) = ac V A i) ∧ ∀ x, hN x = true → ∃ i, nlo ≤ i ∧ i < nhi ∧ it V A I i = x)
      case first => as_aux_lemma =>
        go_wp2_with fail
        go_loopg [34] (nhi - nlo) (fun gk jv wr => ∃ (j : Nat) (hN : Nat → Bool), j + gk = nhi ∧ nlo ≤ j ∧ jv = .int .i64 j ∧ wr.rowIs wA.heap.size 4 nl (fun x => .bool (hN x)) ∧ Below wA.heap.size wA wr ∧
          (∀ i, nlo ≤ i → i < j → L (it V A I i) = ac V A i) ∧ ∀ x, hN x = true → ∃ i, nlo ≤ i ∧ i < j ∧ it V A I i = x)
        case atStart => exact ⟨nlo, fun _ => false, by omega, Nat.le_refl _, rfl, r0, bl0, fun i h1 h2 => by omega, fun x hx => by cases hx⟩
        case round =>
          obtain ⟨j, hN, hj, hlj, rfl, hrow, hbel, hall, hmem⟩ := hrel
          have HJ := hidd hj
          have HALL := hidd hall
          have HMEM := hidd hmem
          clear hj hall hmem
          by_cases hlt : j < nhi
          · obtain ⟨b0', bV, bA, bI, bF, bG, bL, rfl, rfl, rfl, rfl, rfl, rfl, rfl, cV, cA, cI, cL, -, -, -, l1, l2, l3, -⟩ := HCN.out j hlj hlt wr (hb1.trans (hbel.mono hwz))
            by_cases d : L (it V A I j) = ac V A j
            · rw [d] at cL
              have HD := hidd d
              have t1 : ((ac V A j : Int) != ac V A j) = false := by simp
              have cH := hrow.cell l3
              have fH := hrow.frozen (it V A I j)
              have hrow2 := hidd ((hrow.set (it V A I j) (.bool true)).congr (g := fun y => .bool (if y = it V A I j then true else hN y)) (fun y _ => by
                show (if y = it V A I j then Value.bool true else .bool (hN y)) = .bool (if y = it V A I j then true else hN y)
                split <;> rfl))
              generalize hN (it V A I j) = hv at cH
              clear d hrow
              go_wp2
              go_roundg (gk - 1)
              case measure => have := HJ.out; omega
              case rel =>
                refine ⟨j + 1, _, by have := HJ.out; omega, by omega, by go_num, hrow2.out, hbel.setCell (by exact Nat.le_refl _) _, ?_, ?_⟩
                · intro i h1 h2
                  by_cases e : i = j
                  · subst e; exact HD.out
                  · exact HALL.out i h1 (by omega)
                · intro x hx
                  by_cases e : x = it V A I j
                  · exact ⟨j, by omega, by omega, e.symm⟩
                  · rw [if_neg e] at hx
                    obtain ⟨i, h1, h2, h3⟩ := HMEM.out x hx
                    exact ⟨i, h1, by omega, h3⟩
            · have t1 : (L (it V A I j) != (ac V A j : Int)) = true := by rw [bne_iff_ne]; exact d
              go_wp2
              go_ret
              exact ⟨hb1.trans (hbel.mono hwz), SaysIf.no _⟩
          · have hjn : j = nhi := by have := HJ.out; omega
            subst hjn
            go_wp2
            go_meet
            case rel => exact ⟨_, hrow, hbel, HALL.out, HMEM.out⟩
      case rest =>
      obtain ⟨hN, hrow, hbel, hall, hmem⟩ := hcut
      obtain ⟨wB, rfl⟩ : ∃ wB, wB = wc := ⟨_, rfl⟩
      have HLN := hidd hall
      have HMEM := hidd hmem
      have hbB : Below w.heap.size w wB := hb1.trans (hbel.mono hwz)
      clear hall hmem r0 bl0 HSZ1
      go_upto_block 4 with fail
      go_cut [37] (fun jv wx => wB = wx ∧ ∀ j, mlo ≤ j → j < mhi → 0 ≤ L (it V A I j) → ∃ i, nlo ≤ i ∧ i < nhi ∧ it V A I i = it V A I j)
      case first => as_aux_lemma =>
        go_wp2_with fail
        go_loopg [37] (mhi - mlo) (fun gk jv wr => ∃ j : Nat, j + gk = mhi ∧ mlo ≤ j ∧ jv = .int .i64 j ∧ wB = wr ∧ ∀ i, mlo ≤ i → i < j → 0 ≤ L (it V A I i) → ∃ i', nlo ≤ i' ∧ i' < nhi ∧ it V A I i' = it V A I i)
        case atStart => exact ⟨mlo, by omega, Nat.le_refl _, rfl, rfl, fun i h1 h2 => by omega⟩
        case round =>
          obtain ⟨j, hj, hlj, rfl, rfl, hall⟩ := hrel
          have HJ := hidd hj
          have HALL := hidd hall
          clear hj hall
          by_cases hlt : j < mhi
          · obtain ⟨b0', bV, bA, bI, bF, bG, bL, rfl, rfl, rfl, rfl, rfl, rfl, rfl, cV, cA, cI, cL, -, -, -, l1, l2, l3, -⟩ := HCM.out j hlj hlt wB hbB
            have cH := hrow.cell l3
            by_cases d : 0 ≤ L (it V A I j)
            · cases hh : hN (it V A I j) with
              | true =>
                rw [hh] at cH
                have HD := hidd (HMEM.out _ hh)
                clear hh
                go_wp2
                go_roundg (gk - 1)
                case measure => have := HJ.out; omega
                case rel =>
                  refine ⟨j + 1, by have := HJ.out; omega, by omega, by go_num, rfl, ?_⟩
                  intro i h1 h2 h3
                  by_cases e : i = j
                  · subst e; exact HD.out
                  · exact HALL.out i h1 (by omega) h3
              | false =>
                rw [hh] at cH
                clear hh
                go_wp2
                go_ret
                exact ⟨hbB, SaysIf.no _⟩
            · have HD := hidd d
              go_wp2
              go_roundg (gk - 1)
              case measure => have := HJ.out; omega
              case rel =>
                refine ⟨j + 1, by have := HJ.out; omega, by omega, by go_num, rfl, ?_⟩
                intro i h1 h2 h3
                by_cases e : i = j
                · subst e; exact absurd h3 (by have := HD.out; omega)
                · exact HALL.out i h1 (by omega) h3
          · have hjn : j = mhi := by have := HJ.out; omega
            subst hjn
            go_wp2
            go_meet
            case rel => exact ⟨rfl, HALL.out⟩
      case rest =>
      obtain ⟨rfl, hlvM⟩ := hcut
      have HLM := hidd hlvM
      clear hlvM hrow HMEM hbel
      obtain ⟨w3, hrun3, r3, bl3, hsz3⟩ : ∃ w1, (Instr.makeSlice 23 (.int .i64 (nA : Int)) (.int .i64 (nA : Int))).run Try.prog wB = .ok (.slice (some ⟨wB.heap.size, 0, none⟩) nA nA) w1 ∧
          w1.rowIs wB.heap.size 21 nA (fun _ => .int .i32 0) ∧ Below wB.heap.size wB w1 ∧ w1.heap.size = wB.heap.size + 1 :=
        ⟨_, run_make_row' (P := Try.prog) 23 21 (.int .i32 0) 4 Try.underlying23 info21 rfl .i64 .i64 nA (by omega) (by omega) wB, World.rowIs_made wB (.int .i32 0) nA 21, (Below.refl _ _).alloc (Nat.le_refl _) _, by simp⟩
      obtain ⟨w4, hrun4, r4, bl4, hsz4⟩ : ∃ w1, (Instr.makeSlice 23 (.int .i64 (nA : Int)) (.int .i64 (nA : Int))).run Try.prog w3 = .ok (.slice (some ⟨w3.heap.size, 0, none⟩) nA nA) w1 ∧
          w1.rowIs w3.heap.size 21 nA (fun _ => .int .i32 0) ∧ Below w3.heap.size w3 w1 ∧ w1.heap.size = w3.heap.size + 1 :=
        ⟨_, run_make_row' (P := Try.prog) 23 21 (.int .i32 0) 4 Try.underlying23 info21 rfl .i64 .i64 nA (by omega) (by omega) w3, World.rowIs_made w3 (.int .i32 0) nA 21, (Below.refl _ _).alloc (Nat.le_refl _) _, by simp⟩
      have hne34 : wB.heap.size < w3.heap.size := r3.lt
      have r34 : w4.rowIs wB.heap.size 21 nA (fun _ => .int .i32 0) := r3.of_block (bl4.block _ hne34)
      have bl34 : Below wB.heap.size wB w4 := bl3.trans (bl4.mono (by omega))
      clear r3 bl3 bl4 hsz3 hsz4
      go_upto_block 6 with fail
      clear hrun3 hrun4
      go_cut [41] (fun iv wx => wx.rowIs wB.heap.size 21 nA (fun _ => .int .i32 (-1)) ∧ wx.rowIs w3.heap.size 21 nA (fun _ => .int .i32 (-1)) ∧ Below wB.heap.size wB wx)
      case first => as_aux_lemma =>
        go_wp2_with fail
        go_loopg [41] nA (fun gk iv wr => ∃ k : Nat, k + gk = nA ∧ iv = .int .i64 k ∧ wr.rowIs wB.heap.size 21 nA (fun x => if x < k then .int .i32 (-1) else .int .i32 0) ∧ wr.rowIs w3.heap.size 21 nA (fun x => if x < k then .int .i32 (-1) else .int .i32 0) ∧ Below wB.heap.size wB wr)
        case atStart => exact ⟨0, by omega, rfl, r34.congr (fun i _ => by simp), r4.congr (fun i _ => by simp), bl34⟩
        case round =>
          obtain ⟨k, hk, rfl, q1, q2, q3⟩ := hrel
          have HK := hidd hk
          clear hk
          have upd : ∀ y, (if y = k then Value.int .i32 (-1) else if y < k then Value.int .i32 (-1) else .int .i32 0) = if y < k + 1 then .int .i32 (-1) else .int .i32 0 := by
            intro y
            by_cases e : y = k
            · subst e; simp
            · by_cases e2 : y < k
              · simp [e, e2, Nat.lt_succ_of_lt e2]
              · have e3 : ¬ y < k + 1 := by omega
                simp [e, e2, e3]
          by_cases hlt : k < nA
          · have c1 := q1.cell hlt
            have f1 := q1.frozen k
            have q1' := (q1.set k (.int .i32 (-1))).congr (fun y _ => upd y)
            have q2' := q2.setOther (a := ⟨wB.heap.size, k, none⟩) (by exact Nat.ne_of_gt hne34) (.int .i32 (-1))
            have c2 := q2'.cell hlt
            have f2 := q2'.frozen k
            have q2'' := hidd ((q2'.set k (.int .i32 (-1))).congr (fun y _ => upd y))
            have q1'' := hidd (q1'.setOther (a := ⟨w3.heap.size, k, none⟩) (by exact Nat.ne_of_lt hne34) (.int .i32 (-1)))
            have q3' := hidd ((q3.setCell (p := ⟨wB.heap.size, k, none⟩) (Nat.le_refl _) (.int .i32 (-1))).setCell (p := ⟨w3.heap.size, k, none⟩) (Nat.le_of_lt hne34) (.int .i32 (-1)))
            rw [if_neg (Nat.lt_irrefl k)] at c1 c2
            clear q1 q2 q1' q2' q3 upd
            go_wp2
            go_roundg (gk - 1)
            case measure => have := HK.out; omega
            case rel => exact ⟨k + 1, by have := HK.out; omega, by go_num, q1''.out, q2''.out, q3'.out⟩
          · have hkn : k = nA := by have := HK.out; omega
            subst hkn
            clear upd
            go_wp2
            go_meet
            case rel => exact ⟨q1.congr (fun i hi => by simp [hi]), q2.congr (fun i hi => by simp [hi]), q3⟩
      case rest =>
      obtain ⟨m1, m2, hbm⟩ := hcut
      obtain ⟨wM, rfl⟩ : ∃ wM, wM = wc := ⟨_, rfl⟩
      clear r4 r34 bl34
      go_upto_block 8 with fail
      go_cut [42] (fun jv wx => ∃ mf mw : Nat → Int, MinRow wB.heap.size nA (fun i x => ac V A i = x) V nlo nhi wx mf ∧ MinRow w3.heap.size nA (fun i x => ac V A i = x ∧ act (vv V i) = 1) V nlo nhi wx mw ∧ Below wB.heap.size wB wx)
      case first => as_aux_lemma =>
        go_wp2_with fail
        go_loopg [42] (nhi - nlo) (fun gk jv wr => ∃ (j : Nat) (mf mw : Nat → Int), j + gk = nhi ∧ nlo ≤ j ∧ jv = .int .i64 j ∧ MinRow wB.heap.size nA (fun i x => ac V A i = x) V nlo j wr mf ∧
          MinRow w3.heap.size nA (fun i x => ac V A i = x ∧ act (vv V i) = 1) V nlo j wr mw ∧ Below wB.heap.size wB wr)
        case atStart => exact ⟨nlo, fun _ => -1, fun _ => -1, by omega, Nat.le_refl _, rfl, ⟨m1, fun x => MinSt.start _ _ _⟩, ⟨m2, fun x => MinSt.start _ _ _⟩, hbm⟩
        case round =>
          obtain ⟨j, mf, mw, hj, hlj, rfl, q1, q2, q3⟩ := hrel
          have HJ := hidd hj
          clear hj
          by_cases hlt : j < nhi
          · obtain ⟨b0', bV, bA, bI, bF, bG, bL, rfl, rfl, rfl, rfl, rfl, rfl, rfl, cV, cA, -, -, -, -, c0, l1, l2, -, hv, hz0, -⟩ := HCN.out j hlj hlt wr (hbB.trans (q3.mono hbB.size))
            have HV := hidd hv
            clear hv
            have hzB := hbB.size
            have c1 := q1.1.cell l2
            have c2 := q2.1.cell l2
            have f1 := q1.1.frozen (ac V A j)
            have f2 := q2.1.frozen (ac V A j)
            have HQ1 := hidd q1
            have HQ2 := hidd q2
            have HQ3 := hidd q3
            clear q1 q2 q3
            generalize hv' : vv V j = v at *
            generalize ha' : ac V A j = a at *
            generalize hmf : mf a = x1 at c1
            generalize hmw : mw a = x2 at c2
            have n1 := hidd (show ∀ x, x ≠ a → ¬ ac V A j = x from fun x hx e => hx (by rw [← e, ha']))
            have hc1 := hidd ha'
            have hw' := hidd hv'
            have HMF := hidd hmf
            have HMW := hidd hmw
            clear hv' ha' hmf hmw
            have n2 := hidd (show ∀ x, x ≠ a → ¬ (ac V A j = x ∧ act (vv V j) = 1) from fun x hx e => n1.out x hx e.1)
            have hcase1 : x1 < 0 ∨ (¬ x1 < 0 ∧ (v : Int) < x1) ∨ (¬ x1 < 0 ∧ ¬ (v : Int) < x1) := by omega
            have hcase2 : (act v = 1 ∧ x2 < 0) ∨ (act v = 1 ∧ ¬ x2 < 0 ∧ (v : Int) < x2) ∨ (act v = 1 ∧ ¬ x2 < 0 ∧ ¬ (v : Int) < x2) ∨ ¬ act v = 1 := by omega
            rcases hcase2 with ⟨y0, y1⟩ | ⟨y0, y1, y2⟩ | ⟨y0, y1, y2⟩ | y0
            · have Hw := hidd (show ∀ wr', MinRow w3.heap.size nA (fun i x => ac V A i = x ∧ act (vv V i) = 1) V nlo j wr' mw → MinRow w3.heap.size nA (fun i x => ac V A i = x ∧ act (vv V i) = 1) V nlo (j + 1) (wr'.setCell ⟨w3.heap.size, a, none⟩ (.int .i32 v)) (fun x => if x = a then (v : Int) else mw x) from
                fun wr' h => h.take a v hlj HV.out ⟨hc1.out, by rw [hw'.out]; exact y0⟩ n2.out (by rw [HMW.out]; omega))
              rw [y0] at c0
              have t1 : ((1 : Int) == 1) = true := by simp
              clear y0
              rcases hcase1 with x0 | ⟨x0, x0'⟩ | ⟨x0, x0'⟩
              · as_aux_lemma =>
                go_wp2
                go_roundg (gk - 1)
                case measure => have := HJ.out; omega
                case rel => exact ⟨j + 1, _, _, by have := HJ.out; omega, by omega, by go_num, (HQ1.out.take a v hlj HV.out hc1.out n1.out (by rw [HMF.out]; omega)).other _ (by exact Nat.ne_of_lt hne34) _, Hw.out _ (HQ2.out.other _ (by exact Nat.ne_of_gt hne34) _), (HQ3.out.setCell (by exact Nat.le_refl _) _).setCell (by exact Nat.le_of_lt hne34) _⟩
              · as_aux_lemma =>
                go_wp2
                go_roundg (gk - 1)
                case measure => have := HJ.out; omega
                case rel => exact ⟨j + 1, _, _, by have := HJ.out; omega, by omega, by go_num, (HQ1.out.take a v hlj HV.out hc1.out n1.out (by rw [HMF.out]; omega)).other _ (by exact Nat.ne_of_lt hne34) _, Hw.out _ (HQ2.out.other _ (by exact Nat.ne_of_gt hne34) _), (HQ3.out.setCell (by exact Nat.le_refl _) _).setCell (by exact Nat.le_of_lt hne34) _⟩
              · as_aux_lemma =>
                go_wp2
                go_roundg (gk - 1)
                case measure => have := HJ.out; omega
                case rel => exact ⟨j + 1, _, _, by have := HJ.out; omega, by omega, by go_num, (HQ1.out.keep a v HV.out n1.out (by rw [HMF.out]; omega)).other _ (by exact Nat.ne_of_lt hne34) _, Hw.out _ HQ2.out, HQ3.out.setCell (by exact Nat.le_of_lt hne34) _⟩
            · have Hw := hidd (show ∀ wr', MinRow w3.heap.size nA (fun i x => ac V A i = x ∧ act (vv V i) = 1) V nlo j wr' mw → MinRow w3.heap.size nA (fun i x => ac V A i = x ∧ act (vv V i) = 1) V nlo (j + 1) (wr'.setCell ⟨w3.heap.size, a, none⟩ (.int .i32 v)) (fun x => if x = a then (v : Int) else mw x) from
                fun wr' h => h.take a v hlj HV.out ⟨hc1.out, by rw [hw'.out]; exact y0⟩ n2.out (by rw [HMW.out]; omega))
              rw [y0] at c0
              have t1 : ((1 : Int) == 1) = true := by simp
              clear y0
              rcases hcase1 with x0 | ⟨x0, x0'⟩ | ⟨x0, x0'⟩
              · as_aux_lemma =>
                go_wp2
                go_roundg (gk - 1)
                case measure => have := HJ.out; omega
                case rel => exact ⟨j + 1, _, _, by have := HJ.out; omega, by omega, by go_num, (HQ1.out.take a v hlj HV.out hc1.out n1.out (by rw [HMF.out]; omega)).other _ (by exact Nat.ne_of_lt hne34) _, Hw.out _ (HQ2.out.other _ (by exact Nat.ne_of_gt hne34) _), (HQ3.out.setCell (by exact Nat.le_refl _) _).setCell (by exact Nat.le_of_lt hne34) _⟩
              · as_aux_lemma =>
                go_wp2
                go_roundg (gk - 1)
                case measure => have := HJ.out; omega
                case rel => exact ⟨j + 1, _, _, by have := HJ.out; omega, by omega, by go_num, (HQ1.out.take a v hlj HV.out hc1.out n1.out (by rw [HMF.out]; omega)).other _ (by exact Nat.ne_of_lt hne34) _, Hw.out _ (HQ2.out.other _ (by exact Nat.ne_of_gt hne34) _), (HQ3.out.setCell (by exact Nat.le_refl _) _).setCell (by exact Nat.le_of_lt hne34) _⟩
              · as_aux_lemma =>
                go_wp2
                go_roundg (gk - 1)
                case measure => have := HJ.out; omega
                case rel => exact ⟨j + 1, _, _, by have := HJ.out; omega, by omega, by go_num, (HQ1.out.keep a v HV.out n1.out (by rw [HMF.out]; omega)).other _ (by exact Nat.ne_of_lt hne34) _, Hw.out _ HQ2.out, HQ3.out.setCell (by exact Nat.le_of_lt hne34) _⟩
            · have Hw := hidd (show ∀ wr', MinRow w3.heap.size nA (fun i x => ac V A i = x ∧ act (vv V i) = 1) V nlo j wr' mw → MinRow w3.heap.size nA (fun i x => ac V A i = x ∧ act (vv V i) = 1) V nlo (j + 1) wr' mw from
                fun wr' h => h.keep a v HV.out n2.out (by rw [HMW.out]; omega))
              rw [y0] at c0
              have t1 : ((1 : Int) == 1) = true := by simp
              clear y0
              rcases hcase1 with x0 | ⟨x0, x0'⟩ | ⟨x0, x0'⟩
              · as_aux_lemma =>
                go_wp2
                go_roundg (gk - 1)
                case measure => have := HJ.out; omega
                case rel => exact ⟨j + 1, _, _, by have := HJ.out; omega, by omega, by go_num, HQ1.out.take a v hlj HV.out hc1.out n1.out (by rw [HMF.out]; omega), Hw.out _ (HQ2.out.other _ (by exact Nat.ne_of_gt hne34) _), HQ3.out.setCell (by exact Nat.le_refl _) _⟩
              · as_aux_lemma =>
                go_wp2
                go_roundg (gk - 1)
                case measure => have := HJ.out; omega
                case rel => exact ⟨j + 1, _, _, by have := HJ.out; omega, by omega, by go_num, HQ1.out.take a v hlj HV.out hc1.out n1.out (by rw [HMF.out]; omega), Hw.out _ (HQ2.out.other _ (by exact Nat.ne_of_gt hne34) _), HQ3.out.setCell (by exact Nat.le_refl _) _⟩
              · as_aux_lemma =>
                go_wp2
                go_roundg (gk - 1)
                case measure => have := HJ.out; omega
                case rel => exact ⟨j + 1, _, _, by have := HJ.out; omega, by omega, by go_num, HQ1.out.keep a v HV.out n1.out (by rw [HMF.out]; omega), Hw.out _ HQ2.out, HQ3.out⟩
            · have Hw := hidd (show ∀ wr', MinRow w3.heap.size nA (fun i x => ac V A i = x ∧ act (vv V i) = 1) V nlo j wr' mw → MinRow w3.heap.size nA (fun i x => ac V A i = x ∧ act (vv V i) = 1) V nlo (j + 1) wr' mw from
                fun wr' h => h.pass (fun x e => y0 (by rw [← hw'.out]; exact e.2)))
              have t1 : (act v == 1) = false := by rw [beq_eq_false_iff_ne]; exact y0
              clear y0
              rcases hcase1 with x0 | ⟨x0, x0'⟩ | ⟨x0, x0'⟩
              · as_aux_lemma =>
                go_wp2
                go_roundg (gk - 1)
                case measure => have := HJ.out; omega
                case rel => exact ⟨j + 1, _, _, by have := HJ.out; omega, by omega, by go_num, HQ1.out.take a v hlj HV.out hc1.out n1.out (by rw [HMF.out]; omega), Hw.out _ (HQ2.out.other _ (by exact Nat.ne_of_gt hne34) _), HQ3.out.setCell (by exact Nat.le_refl _) _⟩
              · as_aux_lemma =>
                go_wp2
                go_roundg (gk - 1)
                case measure => have := HJ.out; omega
                case rel => exact ⟨j + 1, _, _, by have := HJ.out; omega, by omega, by go_num, HQ1.out.take a v hlj HV.out hc1.out n1.out (by rw [HMF.out]; omega), Hw.out _ (HQ2.out.other _ (by exact Nat.ne_of_gt hne34) _), HQ3.out.setCell (by exact Nat.le_refl _) _⟩
              · as_aux_lemma =>
                go_wp2
                go_roundg (gk - 1)
                case measure => have := HJ.out; omega
                case rel => exact ⟨j + 1, _, _, by have := HJ.out; omega, by omega, by go_num, HQ1.out.keep a v HV.out n1.out (by rw [HMF.out]; omega), Hw.out _ HQ2.out, HQ3.out⟩
          · have hjn : j = nhi := by have := HJ.out; omega
            subst hjn
            go_wp2
            go_meet
            case rel => exact ⟨mf, mw, q1, q2, q3⟩
      case rest =>
      obtain ⟨mf, mw, q1, q2, hbN⟩ := hcut
      obtain ⟨wN, rfl⟩ : ∃ wN, wN = wc := ⟨_, rfl⟩
      have hbN' : Below w.heap.size w wN := hbB.trans (hbN.mono hbB.size)
      clear m1 m2 hbm
      go_wp2_with fail
      go_loopg [45] (nhi - nlo) (fun gk jv wr => ∃ j : Nat, j + gk = nhi ∧ nlo ≤ j ∧ jv = .int .i64 j ∧ Below wN.heap.size wN wr ∧ (∀ i, nlo ≤ i → i < j → F (ac V A i) = mf (ac V A i)) ∧
        ∀ i, nlo ≤ i → i < j → (mw (ac V A i) < 0 ∧ (np : Int) ≤ G (ac V A i)) ∨ (0 ≤ mw (ac V A i) ∧ G (ac V A i) = mw (ac V A i)))
      case atStart => exact ⟨nlo, by omega, Nat.le_refl _, rfl, Below.refl _ _, fun i h1 h2 => by omega, fun i h1 h2 => by omega⟩
      case round => as_aux_lemma =>
        obtain ⟨j, hj, hlj, rfl, hbr, hf, hg⟩ := hrel
        have HJ := hidd hj
        have HF := hidd hf
        have HG := hidd hg
        clear hj hf hg
        have hbe : Below w.heap.size w wr := hbN'.trans (hbr.mono hbN'.size)
        by_cases hlt : j < nhi
        · obtain ⟨b0', bV, bA, bI, bF, bG, bL, rfl, rfl, rfl, rfl, rfl, rfl, rfl, cV, cA, -, -, cF, cG, -, l1, l2, -, -⟩ := HCN.out j hlj hlt wr hbe
          have c1 : wr.cell? ⟨wB.heap.size, ac V A j, none⟩ = some (.int .i32 (mf (ac V A j))) := by rw [hbr.cell (by exact q1.1.lt), q1.1.cell l2]
          have c2 : wr.cell? ⟨w3.heap.size, ac V A j, none⟩ = some (.int .i32 (mw (ac V A j))) := by rw [hbr.cell (by exact q2.1.lt), q2.1.cell l2]
          have bG := hGb (ac V A j) l2
          have HM1 := hidd (show ∀ x1 x2, F (ac V A j) = x1 → mf (ac V A j) = x1 → G (ac V A j) = x2 → ((mw (ac V A j) < 0 ∧ (np : Int) ≤ x2) ∨ (0 ≤ mw (ac V A j) ∧ x2 = mw (ac V A j))) →
              (∀ i, nlo ≤ i → i < j + 1 → F (ac V A i) = mf (ac V A i)) ∧ ∀ i, nlo ≤ i → i < j + 1 → (mw (ac V A i) < 0 ∧ (np : Int) ≤ G (ac V A i)) ∨ (0 ≤ mw (ac V A i) ∧ G (ac V A i) = mw (ac V A i)) from by
            intro x1 x2 e1 e2 e3 e4
            constructor
            · intro i h1 h2
              by_cases e : i = j
              · subst e; rw [e1, e2]
              · exact HF.out i h1 (by omega)
            · intro i h1 h2
              by_cases e : i = j
              · subst e; rw [e3]; exact e4
              · exact HG.out i h1 (by omega))
          generalize hx1 : mf (ac V A j) = x1 at *
          generalize hx2 : mw (ac V A j) = x2 at *
          generalize hx3 : F (ac V A j) = x3 at *
          generalize hx4 : G (ac V A j) = x4 at *
          clear hx1 hx2 hx3 hx4
          by_cases d1 : x3 = x1
          · subst d1
            have t1 : (x3 != x3) = false := by simp
            by_cases d2 : 0 ≤ x2
            · by_cases d3 : x4 = x2
              · subst d3
                have t2 : (x4 != x4) = false := by simp
                go_wp2
                go_quiet (fail)
                go_wp2
                go_quiet (fail)
                go_wp2
                go_roundg (gk - 1)
                case measure => have := HJ.out; omega
                case rel => exact ⟨j + 1, by have := HJ.out; omega, by omega, by go_num, below_drewN hbr _, HM1.out _ _ rfl rfl rfl (.inr ⟨by omega, rfl⟩)⟩
              · have t2 : (x4 != x2) = true := by rw [bne_iff_ne]; exact d3
                go_wp2
                go_quiet (fail)
                go_wp2
                go_quiet (fail)
                go_wp2
                go_ret
                exact ⟨by first | exact below_drewN hbe _ | exact below_drewN (below_drewN hbe _) _, SaysIf.no _⟩
            · by_cases d3 : x4 < np
              · go_wp2
                go_quiet (fail)
                go_wp2
                go_ret
                exact ⟨below_drewN hbe _, SaysIf.no _⟩
              · go_wp2
                go_quiet (fail)
                go_wp2
                go_roundg (gk - 1)
                case measure => have := HJ.out; omega
                case rel => exact ⟨j + 1, by have := HJ.out; omega, by omega, by go_num, below_drewN hbr _, HM1.out _ _ rfl rfl rfl (.inl ⟨by omega, by omega⟩)⟩
          · have t1 : (x3 != x1) = true := by rw [bne_iff_ne]; exact d1
            go_wp2
            go_quiet (fail)
            go_wp2
            go_ret
            exact ⟨below_drewN hbe _, SaysIf.no _⟩
        · have hjn : j = nhi := by have := HJ.out; omega
          subst hjn
          go_wp2
          go_ret
          refine ⟨hbe, SaysIf.yes ⟨nlo, j, mlo, mhi, ?_⟩⟩
          obtain ⟨g1, g2, g3, g4, g5⟩ := HND.out
          refine ⟨g1, g2, g3, g4, g5, HAC.out.1, HAC.out.2, HLN.out, HLM.out, ?_, ?_⟩
          · intro i h1 h2
            rw [HF.out i h1 h2]
            exact q1.2 (ac V A i)
          · intro i h1 h2
            have hm := q2.2 (ac V A i)
            rcases HG.out i h1 h2 with ⟨p1, p2⟩ | ⟨p1, p2⟩
            · left
              refine ⟨?_, p2⟩
              rcases hm with ⟨u1, u2⟩ | ⟨u1, u2⟩
              · exact .inl ⟨rfl, u2⟩
              · omega
            · right
              rw [p2]
              exact ⟨p1, hm⟩
    all_goals go_wp2
    all_goals go_ret
    all_goals exact ⟨hb1, SaysIf.no _⟩
end
end Go.Proofs.Qxb6603909a
