import Derived.Test.Qxb6603909aParts
namespace Go.Proofs.Qxb6603909a
open Go.RowKit
set_option linter.unusedVariables false
set_option linter.unusedSimpArgs false

set_option maxHeartbeats 1600000 in
set_option maxRecDepth 100000 in
theorem spreads_walk (a0 : Option Addr) (len0 cap0 : Nat) (z0 : List Int) (a1 : Option Addr) (len1 cap1 : Nat) (z1 : List Int) (a2 : Option Addr) (len2 cap2 : Nat) (z2 : List Int) (a3 : Int) (g : Nat) (a5 : Int) (w : World)
    (w0 : IsRow .u64 w a0 len0 cap0 z0) (w1 : IsRow .i32 w a1 len1 cap1 z1) (w2 : IsRow .i32 w a2 len2 cap2 z2) (w3 : (Lit.int .i32 a3).wf = true) (w5 : (Lit.int .i32 a5).wf = true) :
    Calls Try.prog 4 #[.slice a0 len0 cap0, .slice a1 len1 cap1, .slice a2 len2 cap2, .int .i32 a3, .float .f64 g, .int .i32 a5] w fun e w' => e = .returned (.bool true) ∧ Below w.heap.size w w' := by
  have b3 := bd32 w3
  have b5 := bd32 w5
  go_enter Try.func4, Try.ntmps4
  go_wp2_with fail
  refine (zzBytes13 a0 a1 a2 len0 len1 len2 cap0 cap1 cap2 a3 a5 g w w0.len_le w1.len_le w2.len_le).mono ?_
  rintro e w' ⟨rfl, b, rfl, hb⟩
  cases b with
  | false =>
    go_wp2
    go_ret
    exact ⟨rfl, Below.refl _ _⟩
  | true =>
    have hsum := hb rfl
    clear hb
    by_cases s0 : 65536 < len0
    · go_wp2
      go_ret
      exact ⟨rfl, Below.refl _ _⟩
    by_cases s1 : 65536 < len1
    · go_wp2
      go_ret
      exact ⟨rfl, Below.refl _ _⟩
    by_cases s2 : 65536 < len2
    · go_wp2
      go_ret
      exact ⟨rfl, Below.refl _ _⟩
    go_wp2_with fail
    refine (clone14_any a0 len0 cap0 z0 w w0 (by omega)).mono ?_
    rintro e x1 ⟨c0, rfl, -, hb1, hr1⟩
    go_wp2_with fail
    refine (clone9_any a1 len1 cap1 z1 x1 (w1.below hb1) (by omega)).mono ?_
    rintro e x2 ⟨c1, rfl, -, hb2, hr2⟩
    have hb02 : Below w.heap.size w x2 := hb1.trans (hb2.mono hb1.size)
    go_wp2_with fail
    refine (clone9_any a2 len2 cap2 z2 x2 (w2.below hb02) (by omega)).mono ?_
    rintro e x3 ⟨c2, rfl, -, hb3, hr3⟩
    have hb03 : Below w.heap.size w x3 := hb02.trans (hb3.mono hb02.size)
    go_wp2_with fail
    by_cases hgood : 0 < len0 ∧ len1 = len0 ∧ len2 = len0
    · obtain ⟨hpos, rfl, rfl⟩ := hgood
      obtain ⟨rfl, r1, -⟩ := hr1 hpos
      obtain ⟨rfl, r2, -⟩ := hr2 hpos
      obtain ⟨rfl, r3, -⟩ := hr3 hpos
      clear hr1 hr2 hr3
      have r1' := rowIs_below (rowIs_below r1 hb2) hb3
      have r2' := rowIs_below r2 hb3
      have hN : ∀ i, i < len2 → -2147483648 ≤ z2.getD i 0 ∧ z2.getD i 0 ≤ 2147483647 := fun i hi => bd32 (w2.wf_at i hi)
      refine (ringOK_any w.heap.size x1.heap.size x2.heap.size len2 len2 len2 len2 (fun i => z0.getD i 0) (fun i => z1.getD i 0) (fun i => z2.getD i 0) x3 a3 a5 hpos (by omega) b3 b5 hN r1' r2' r3).mono ?_
      rintro e x4 ⟨rfl, hb4⟩
      have hb04 : Below w.heap.size w x4 := hb03.trans (hb4.mono hb03.size)
      cases hB : Pl.ringB (fun i => z0.getD i 0) (fun i => z1.getD i 0) (fun i => z2.getD i 0) len2 a3 a5 with
      | false =>
        clear hB hN
        go_wp2
        go_ret
        exact ⟨rfl, hb04⟩
      | true =>
        obtain ⟨m, nd, p, R, rfl, hp, rfl⟩ := (Pl.ringB_iff _ _ _ _ _ _).1 hB
        clear hB hN
        go_wp2_with fail
        have q1 := rowIs_below r1' hb4
        have q2 := rowIs_below r2' hb4
        have q3 := rowIs_below r3 hb4
        refine (relabelModel_any w.heap.size len2 len2 x2.heap.size len2 (fun i => z0.getD i 0) (fun i => z1.getD i 0) (fun i => z2.getD i 0) m p nd R g x4 (by omega) hp q1 q3).mono ?_
        rintro e x5 ⟨hb5, hm⟩
        have hb05 : Below w.heap.size w x5 := hb04.trans (hb5.mono hb04.size)
        rcases hm with ⟨k, hk1, hk2, hsk, hns, bw, rfl, hbw, rw⟩ | rfl
        · go_wp2_with fail
          have p1 := rowIs_below q1 hb5
          have p2 := rowIs_below q2 hb5
          have p3 := rowIs_below q3 hb5
          have hl1 := p1.lt
          have hl2 := p2.lt
          have hl3 := p3.lt
          have hlw := rw.lt
          refine (clone14_some w.heap.size 0 len2 len2 (fun i => z0.getD i 0) x5 (by omega) hl1 (fun i hi => by rw [Nat.zero_add]; exact p1.cell hi)).mono ?_
          rintro e x6 ⟨rfl, rg, hs6', hb6⟩
          have hs6 := hid hs6'
          clear hs6'
          have hb06 : Below w.heap.size w x6 := hb05.trans (hb6.mono hb05.size)
          go_wp2_with fail
          refine (zzRelabel_any x5.heap.size x1.heap.size x2.heap.size len2 len2 len2 len2 (fun i => z0.getD i 0) (fun i => z1.getD i 0) (fun i => z2.getD i 0) m p nd R g x6 (by omega) hp (by omega) (by omega)
            rg (rowIs_below p2 hb6) (rowIs_below p3 hb6) k hk1 hk2 hsk hns).mono ?_
          rintro e x7 ⟨rfl, rg7, hk7, hs7, ho7, ht7, hu7⟩
          have hz05 := hb05.size
          have hb67 : Below x5.heap.size x6 x7 := ⟨ho7, ht7, hu7, hs7, fun j hj => hk7 j (by omega) (by have := hs6.out; omega)⟩
          have hb07 : Below w.heap.size w x7 := hb06.trans (hb67.mono hz05)
          have rw7 : x7.rowIs bw 39 len2 _ := (rowIs_below rw hb6).of_block (hb67.block bw hlw)
          go_wp2_with fail
          refine (equalLabels_any x5.heap.size bw len2 len2 len2 _ x7 (by omega) rg7 rw7).mono ?_
          rintro e x8 ⟨rfl, hb8⟩
          go_wp2
          go_ret
          exact ⟨rfl, hb07.trans (hb8.mono hb07.size)⟩
        · go_wp2
          go_ret
          exact ⟨rfl, hb05⟩
    · refine (ringOK_len c0 c1 c2 len0 len1 len2 len0 len1 len2 a3 a5 x3 (by omega)).mono ?_
      rintro e x4 ⟨rfl, rfl⟩
      go_wp2
      go_ret
      exact ⟨rfl, hb03⟩
end Go.Proofs.Qxb6603909a
