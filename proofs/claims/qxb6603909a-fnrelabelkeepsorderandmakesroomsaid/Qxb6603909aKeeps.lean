import Derived.Test.Qxb6603909aKeep
namespace Go.Proofs.Qxb6603909a
open Go.RowKit
set_option linter.unusedVariables false
set_option linter.unusedSimpArgs false

set_option maxHeartbeats 1600000 in
set_option maxRecDepth 100000 in
theorem keeps_walk (a0 : Option Addr) (len0 cap0 : Nat) (z0 : List Int) (a1 : Option Addr) (len1 cap1 : Nat) (z1 : List Int) (a2 : Option Addr) (len2 cap2 : Nat) (z2 : List Int) (a3 : Int) (g : Nat) (a5 : Int) (w : World)
    (w0 : IsRow .u64 w a0 len0 cap0 z0) (w1 : IsRow .i32 w a1 len1 cap1 z1) (w2 : IsRow .i32 w a2 len2 cap2 z2) (w3 : (Lit.int .i32 a3).wf = true) (wg : g < 18446744073709551616) (w5 : (Lit.int .i32 a5).wf = true) :
    Calls Try.prog 5 #[.slice a0 len0 cap0, .slice a1 len1 cap1, .slice a2 len2 cap2, .int .i32 a3, .float .f64 g, .int .i32 a5] w fun e w' => e = .returned (.bool true) ∧ Below w.heap.size w w' := by
  have b3 := bd32 w3
  have b5 := bd32 w5
  go_enter Try.func5, Try.ntmps5
  go_wp2_with fail
  refine (zzBytes19 a0 a1 a2 len0 len1 len2 cap0 cap1 cap2 a3 a5 g w w0.len_le w1.len_le w2.len_le).mono ?_
  rintro e w' ⟨rfl, b, rfl, hb⟩
  cases b with
  | false =>
    go_wp2
    go_ret
    exact ⟨rfl, Below.refl _ _⟩
  | true =>
    have hsum := hb rfl
    clear hb
    by_cases s0 : 65536 < len0
    · go_wp2
      go_ret
      exact ⟨rfl, Below.refl _ _⟩
    by_cases s1 : 65536 < len1
    · go_wp2
      go_ret
      exact ⟨rfl, Below.refl _ _⟩
    by_cases s2 : 65536 < len2
    · go_wp2
      go_ret
      exact ⟨rfl, Below.refl _ _⟩
    go_wp2_with fail
    refine (clone14_any a0 len0 cap0 z0 w w0 (by omega)).mono ?_
    rintro e x1 ⟨c0, rfl, -, hb1, hr1⟩
    go_wp2_with fail
    refine (clone9_any a1 len1 cap1 z1 x1 (w1.below hb1) (by omega)).mono ?_
    rintro e x2 ⟨c1, rfl, -, hb2, hr2⟩
    have hb02 : Below w.heap.size w x2 := hb1.trans (hb2.mono hb1.size)
    go_wp2_with fail
    refine (clone9_any a2 len2 cap2 z2 x2 (w2.below hb02) (by omega)).mono ?_
    rintro e x3 ⟨c2, rfl, -, hb3, hr3⟩
    have hb03 : Below w.heap.size w x3 := hb02.trans (hb3.mono hb02.size)
    cases hB1 : (FloatKind.f64.format.order g 4607182418800017408 == some .gt || FloatKind.f64.format.order g 4607182418800017408 == some .eq) with
    | false =>
      go_wp2
      go_ret
      exact ⟨rfl, hb03⟩
    | true =>
    cases hB2 : (FloatKind.f64.format.order g 4611686018427387904 == some .lt) with
    | false =>
      go_wp2
      go_ret
      exact ⟨rfl, hb03⟩
    | true =>
    have hgb := Fl.between g wg (by have h := hB1; simp at h; exact h) (by have h := hB2; simp at h; exact h)
    go_wp2_with fail
    clear hB1 hB2
    by_cases hgood : 0 < len0 ∧ len1 = len0 ∧ len2 = len0
    · obtain ⟨hpos, rfl, rfl⟩ := hgood
      obtain ⟨rfl, r1, -⟩ := hr1 hpos
      obtain ⟨rfl, r2, -⟩ := hr2 hpos
      obtain ⟨rfl, r3, -⟩ := hr3 hpos
      clear hr1 hr2 hr3
      have r1' := rowIs_below (rowIs_below r1 hb2) hb3
      have r2' := rowIs_below r2 hb3
      have hN : ∀ i, i < len2 → -2147483648 ≤ z2.getD i 0 ∧ z2.getD i 0 ≤ 2147483647 := fun i hi => bd32 (w2.wf_at i hi)
      refine (ringOK_any w.heap.size x1.heap.size x2.heap.size len2 len2 len2 len2 (fun i => z0.getD i 0) (fun i => z1.getD i 0) (fun i => z2.getD i 0) x3 a3 a5 hpos (by omega) b3 b5 hN r1' r2' r3).mono ?_
      rintro e x4 ⟨rfl, hb4⟩
      have hb04 : Below w.heap.size w x4 := hb03.trans (hb4.mono hb03.size)
      cases hB : Pl.ringB (fun i => z0.getD i 0) (fun i => z1.getD i 0) (fun i => z2.getD i 0) len2 a3 a5 with
      | false =>
        clear hB hN
        go_wp2
        go_ret
        exact ⟨rfl, hb04⟩
      | true =>
        obtain ⟨m, nd, p, R, rfl, hp, rfl⟩ := (Pl.ringB_iff _ _ _ _ _ _).1 hB
        have HN := hid hN
        clear hB hN
        go_wp2_with fail
        have q1 := rowIs_below r1' hb4
        have q2 := rowIs_below r2' hb4
        have q3 := rowIs_below r3 hb4
        refine (relabelModel_any w.heap.size len2 len2 x2.heap.size len2 (fun i => z0.getD i 0) (fun i => z1.getD i 0) (fun i => z2.getD i 0) m p nd R g x4 (by omega) hp q1 q3).mono ?_
        rintro e x5 ⟨hb5, hm⟩
        have hb05 : Below w.heap.size w x5 := hb04.trans (hb5.mono hb04.size)
        rcases hm with ⟨k, hk1, hk2, hsk, hns, bw, rfl, hbw, rw⟩ | rfl
        · go_wp2_with fail
          have p1 := rowIs_below q1 hb5
          have p2 := rowIs_below q2 hb5
          have p3 := rowIs_below q3 hb5
          have hl1 := p1.lt
          have hl2 := p2.lt
          have hl3 := p3.lt
          have hlw := rw.lt
          refine (clone14_some w.heap.size 0 len2 len2 (fun i => z0.getD i 0) x5 (by omega) hl1 (fun i hi => by rw [Nat.zero_add]; exact p1.cell hi)).mono ?_
          rintro e x6 ⟨rfl, rg, hs6', hb6⟩
          have hs6 := hid hs6'
          clear hs6'
          have hb06 : Below w.heap.size w x6 := hb05.trans (hb6.mono hb05.size)
          go_wp2_with fail
          refine (zzRelabel_any x5.heap.size x1.heap.size x2.heap.size len2 len2 len2 len2 (fun i => z0.getD i 0) (fun i => z1.getD i 0) (fun i => z2.getD i 0) m p nd R g x6 (by omega) hp (by omega) (by omega)
            rg (rowIs_below p2 hb6) (rowIs_below p3 hb6) k hk1 hk2 hsk hns).mono ?_
          rintro e x7 ⟨rfl, rg7, hk7, hs7, ho7, ht7, hu7⟩
          have hz05 := hb05.size
          have hb67 : Below x5.heap.size x6 x7 := ⟨ho7, ht7, hu7, hs7, fun j hj => hk7 j (by omega) (by have := hs6.out; omega)⟩
          have hb07 : Below w.heap.size w x7 := hb06.trans (hb67.mono hz05)
          have l7 := (rowIs_below p1 hb6).of_block (hb67.block _ hl1)
          have m7 := (rowIs_below p2 hb6).of_block (hb67.block _ hl2)
          have n7 := (rowIs_below p3 hb6).of_block (hb67.block _ hl3)
          have hmn := R.mn
          have hCm : Pl.cC (fun i => z0.getD i 0) nd m (z0.getD (nd p) 0) k ≤ m := by
            have h1 := Pl.lB_le (L := fun i => z0.getD i 0) (nd := nd) (m := m) (z0.getD (nd p) 0) k
            have h2 : Pl.cC (fun i => z0.getD i 0) nd m (z0.getD (nd p) 0) k = Pl.lB (fun i => z0.getD i 0) nd m (z0.getD (nd p) 0) k - Pl.lA (fun i => z0.getD i 0) nd m (z0.getD (nd p) 0) k := rfl
            omega
          have hNg : Fl.Nrm g 1 := by unfold Fl.Nrm; omega
          have hC1 := skips_le g k _ hNg hk2 (by omega) hns
          have V := R.level hp k hk2 hC1
          have R' := R.relbl_ring V
          go_wp2_with fail
          refine (ringOK_any x5.heap.size x1.heap.size x2.heap.size len2 len2 len2 len2 _ (fun i => z1.getD i 0) (fun i => z2.getD i 0) x7 (nd 0) (nd p) hpos (by omega) b3 b5 HN.out rg7 m7 n7).mono ?_
          rintro e x8 ⟨he, hb8⟩
          have hB' : Pl.ringB (Pl.newLab (fun i => z0.getD i 0) nd m (z0.getD (nd p) 0) k) (fun i => z1.getD i 0) (fun i => z2.getD i 0) len2 (nd 0) (nd p) = true :=
            (Pl.ringB_iff _ _ _ _ _ _).2 ⟨m, nd, p, R', rfl, hp, rfl⟩
          rw [hB'] at he
          subst he
          clear hB'
          have hb08 : Below w.heap.size w x8 := hb07.trans (hb8.mono hb07.size)
          have n8 := rowIs_below n7 hb8
          go_wp2_with fail
          refine (ringMembers_any x2.heap.size len2 len2 _ (fun i => z1.getD i 0) (fun i => z2.getD i 0) m nd R' x8 (by omega) n8).mono ?_
          rintro e x9 ⟨rfl, mr, hb9⟩
          have hb09 : Below w.heap.size w x9 := hb08.trans (hb9.mono hb08.size)
          have n9 := rowIs_below n8 hb9
          have l9 := rowIs_below (rowIs_below l7 hb8) hb9
          have g9 := rowIs_below (rowIs_below rg7 hb8) hb9
          have hx8 : x8.heap.size < x9.heap.size := mr.lt
          have H9 := hid (And.intro n9 (And.intro l9 (And.intro g9 mr)))
          clear r1 r2 r3 r1' r2' q1 q2 q3 p1 p2 p3 rg rw rg7 l7 m7 n7 n8 n9 l9 g9 mr hk7
          -- what the rest wants of the new labels
          obtain ⟨Gf, hGf⟩ : ∃ Gf, Gf = Pl.newLab (fun i => z0.getD i 0) nd m (z0.getD (nd p) 0) k := ⟨_, rfl⟩
          have hoff : ∀ x, Pl.memTo nd m x = false → Gf x = z0.getD x 0 := by
            intro x hx
            rw [hGf, Pl.newLab_eq]
            exact Pl.relbl_off _ _ _ x _ (fun j h1 h2 => Pl.memTo_iff nd x m hx j (by have := V.ac; omega))
          have hG0 : 0 ≤ Gf (nd p) := by rw [hGf]; exact R'.nonneg p hp
          have hG1 : Gf (nd p) < 4611686018427387904 := by rw [hGf]; exact R'.lim p hp
          have hroom : ∀ r2, Ieee.double.mul g g = some r2 → Fl.Nrm r2 1 → Gf (nd p) + 2 ≤ (if p < m then Gf (nd (p + 1)) else 4611686018427387904) := by
            intro r2 hr2 hn2
            have hC2 := skips_half g k _ r2 hgb.1 hgb.2 hr2 hn2 hk1 hk2 (by omega) hns
            have h2 : 2 ≤ 2 ^ k / ((Pl.cC (fun i => z0.getD i 0) nd m (z0.getD (nd p) 0) k : Int) + 1) := (Int.le_ediv_iff_mul_le (by omega)).2 hC2
            rw [hGf]
            refine R.relbl_room hp V h2 ?_ (fun h => R.a_lt hp h k) ?_
            · have h3 := R.b_ge hp k
              have h4 := Pl.lAB (L := fun i => z0.getD i 0) (nd := nd) (m := m) (z0.getD (nd p) 0) k
              have h5 : Pl.cC (fun i => z0.getD i 0) nd m (z0.getD (nd p) 0) k = Pl.lB (fun i => z0.getD i 0) nd m (z0.getD (nd p) 0) k - Pl.lA (fun i => z0.getD i 0) nd m (z0.getD (nd p) 0) k := rfl
              have h3' : p ≤ Pl.lB (fun i => z0.getD i 0) nd m (z0.getD (nd p) 0) k := h3
              show p ≤ Pl.lA (fun i => z0.getD i 0) nd m (z0.getD (nd p) 0) k + Pl.cC (fun i => z0.getD i 0) nd m (z0.getD (nd p) 0) k
              omega
            · intro h0
              subst h0
              refine ⟨R.a_zero k, ?_⟩
              have h6 : (fun i => z0.getD i 0) (nd 0) = 0 := R.l0
              simp only at h6 ⊢
              rw [h6]
              simp [Pl.lo]
          rw [← hGf] at H9
          have hpn := R.lt p hp
          have hnx : (fun i => z2.getD i 0) (nd p) = Pl.ndx nd m (p + 1) := R.next p hp
          simp only at hnx
          have hndx := R.ndx_lt (p + 1)
          have hne : (Pl.ndx nd m (p + 1) : Int) = nd 0 ∨ p < m ∧ ((Pl.ndx nd m (p + 1) : Int) != nd 0) = true ∧ Pl.ndx nd m (p + 1) = nd (p + 1) := by
            unfold Pl.ndx
            by_cases h : p + 1 ≤ m
            · rw [if_pos h]
              refine .inr ⟨by omega, ?_, rfl⟩
              rw [bne_iff_ne]; intro h'; have := R.inj (i := p + 1) (j := 0) (by omega) (by omega) (by omega); omega
            · rw [if_neg h]; exact .inl rfl
          have hpm : (Pl.ndx nd m (p + 1) : Int) = nd 0 → ¬ p < m := by
            intro h h'
            unfold Pl.ndx at h
            rw [if_pos (by omega)] at h
            have := R.inj (i := p + 1) (j := 0) (by omega) (by omega) (by omega); omega
          have HALL := hid (And.intro hoff (And.intro hroom (And.intro hnx (And.intro hne hpm))))
          have HV := hid (And.intro V (And.intro R' hGf))
          clear hoff hroom hnx hne hpm V R' hGf hsk hns hC1 HN R
          go_wp2_with fail
          go_loopg [17] len2 (fun gk i wr => ∃ k : Nat, k + gk = len2 ∧ i = .int .i64 k ∧ Below x9.heap.size x9 wr)
          case atStart => exact ⟨0, by omega, rfl, Below.refl _ _⟩
          case round =>
            obtain ⟨x, hx, rfl, hbr⟩ := hrel
            obtain ⟨n9, l9, g9, mr⟩ := H9.out
            by_cases hlt : x < len2
            · have cM := (rowIs_below mr hbr).cell hlt
              have cG := (rowIs_below g9 hbr).cell hlt
              have cL := (rowIs_below l9 hbr).cell hlt
              have HX := hid hx
              clear hx n9 l9 g9 mr
              cases hmem : Pl.memTo nd m x with
              | true =>
                rw [hmem] at cM
                clear hmem
                go_wp2
                go_quiet (fail)
                go_wp2
                go_roundg (gk - 1)
                case measure => have := HX.out; omega
                case rel => exact ⟨x + 1, by have := HX.out; omega, by go_num, below_drewN hbr _⟩
              | false =>
                have e := HALL.out.1 x hmem
                rw [hmem] at cM
                rw [e] at cG
                have t1 : (z0.getD x 0 != z0.getD x 0) = false := by simp
                generalize z0.getD x 0 = zx at *
                clear hmem e
                go_wp2
                go_quiet (fail)
                go_wp2
                go_roundg (gk - 1)
                case measure => have := HX.out; omega
                case rel => exact ⟨x + 1, by have := HX.out; omega, by go_num, below_drewN hbr _⟩
            · have hxn : x = len2 := by omega
              subst hxn
              clear hx
              obtain ⟨r2, hr2, hn2⟩ := Fl.mul_norm g g 1 1 hNg hNg (by decide)
              have hmul := run_mul_some g g r2 hr2
              have cN := (rowIs_below n9 hbr).cell hpn
              rw [HALL.out.2.2.1] at cN
              have cGp := (rowIs_below g9 hbr).cell hpn
              have hbend : Below w.heap.size w wr := hb09.trans (hbr.mono hb09.size)
              have two : r2 < 9218868437227405312 := by have := hn2.2; omega
              have ho : FloatKind.f64.format.order r2 4611686018427387904 = some (compare r2 4611686018427387904) := Fl.order_pos r2 _ two (by decide)
              by_cases hle : r2 ≤ 4611686018427387904
              · have hroom := HALL.out.2.1 r2 hr2 ⟨hn2.1, by omega⟩
                have hB3 : (FloatKind.f64.format.order r2 4611686018427387904 == some .lt || FloatKind.f64.format.order r2 4611686018427387904 == some .eq) = true := by
                  rw [ho, Nat.compare_eq_ite_lt]
                  by_cases h : r2 < 4611686018427387904
                  · rw [if_pos h]; rfl
                  · rw [if_neg h, if_neg (by omega)]; rfl
                clear ho
                rcases HALL.out.2.2.2.1 with he | ⟨hpm, hne, hnd⟩
                · have hnm := HALL.out.2.2.2.2 he
                  rw [if_neg hnm] at hroom
                  rw [he] at cN
                  have t1 : ((nd 0 : Int) != nd 0) = false := by simp
                  clear he n9 l9 g9 mr hr2
                  go_wp2
                  go_ret
                  exact ⟨rfl, hbend⟩
                · rw [if_pos hpm] at hroom
                  have cGn := (rowIs_below g9 hbr).cell hndx
                  rw [hnd] at cGn cN hne hndx
                  clear hnd n9 l9 g9 mr hr2
                  go_wp2
                  go_ret
                  exact ⟨rfl, hbend⟩
              · have hB3 : (FloatKind.f64.format.order r2 4611686018427387904 == some .lt || FloatKind.f64.format.order r2 4611686018427387904 == some .eq) = false := by
                  rw [ho, Nat.compare_eq_ite_lt, if_neg (by omega), if_pos (by omega)]; rfl
                clear ho n9 l9 g9 mr hr2
                go_wp2
                go_ret
                exact ⟨rfl, hbend⟩
        · go_wp2
          go_ret
          exact ⟨rfl, hb05⟩
    · refine (ringOK_len c0 c1 c2 len0 len1 len2 len0 len1 len2 a3 a5 x3 (by omega)).mono ?_
      rintro e x4 ⟨rfl, rfl⟩
      go_wp2
      go_ret
      exact ⟨rfl, hb03⟩
end Go.Proofs.Qxb6603909a
