import Derived.Test.Qxb6603909aOrder
import Derived.Test.Qxb6603909aFloat
namespace Go.Proofs.Qxb6603909a
open Go.RowKit
set_option linter.unusedVariables false
set_option linter.unusedSimpArgs false

theorem hid {p : Prop} (h : p) : Hid p := h

theorem inRange_yes (v lo size : Int) (w : World) (h0 : 0 ≤ lo) (h1 : lo ≤ v) (h2 : v < lo + size) (h3 : v < 18446744073709551616) :
    Calls Try.prog 30 #[.int .u64 v, .int .u64 lo, .int .u64 size] w fun e w' => e = .returned (.bool true) ∧ w = w' := by
  have h4 : v - lo < size := by omega
  go_enter Try.func30, Try.ntmps30
  go_wp2
  go_ret
  exact ⟨by simp [h4], rfl⟩

theorem inRange_no (v lo size : Int) (w : World) (h0 : 0 ≤ lo) (h2 : v < lo ∨ lo + size ≤ v) (h3 : v < 18446744073709551616) :
    Calls Try.prog 30 #[.int .u64 v, .int .u64 lo, .int .u64 size] w fun e w' => e = .returned (.bool false) ∧ w = w' := by
  by_cases h : v < lo
  · go_enter Try.func30, Try.ntmps30
    go_wp2
    go_ret
    exact ⟨rfl, rfl⟩
  · have h4 : ¬ v - lo < size := by omega
    go_enter Try.func30, Try.ntmps30
    go_wp2
    go_ret
    exact ⟨rfl, rfl⟩

/-- the float step of a round: what allowed *= growth comes to, and what the test then says -/
theorem mul_step (g k ab : Nat) (hab : allow g k = some ab) (w : World) :
    ∃ rr w3, (binOp .mul 29 (.float .f64 ab) (.float .f64 g)).run Try.prog w = .ok (.float .f64 rr) w3 ∧ Below w.heap.size w w3 ∧
      (∀ c, (FloatKind.f64.format.order (floatOfInt .f64 ((c : Nat) + 1 : Int)) rr == some .gt) = skips g (k + 1) c) ∧ ∀ c, skips g (k + 1) c = true → allow g (k + 1) = some rr := by
  have hal : allow g (k + 1) = FloatKind.f64.format.mul ab g := by simp [allow, hab]
  cases hm : FloatKind.f64.format.mul ab g with
  | none =>
    obtain ⟨qn, h1, h2⟩ := run_mul_nan ab g hm
    rw [hm] at hal
    refine ⟨_, _, h1 w, (Below.refl _ _).drew, fun c => ?_, fun c h => ?_⟩
    · rw [h2]; simp [skips, hal]
    · simp [skips, hal] at h
  | some r =>
    rw [hm] at hal
    refine ⟨_, _, run_mul_some ab g r hm w, Below.refl _ _, fun c => ?_, fun c h => hal⟩
    simp [skips, hal]

set_option maxHeartbeats 1600000 in
set_option maxRecDepth 100000 in
theorem relabelModel_any (bl n cl bn cn : Nat) (L P N : Nat → Int) (m p : Nat) (nd : Nat → Nat) (R : Pl.Ring L P N n m nd) (g : Nat) (w : World) (hn2 : n ≤ 1048576) (hp : p ≤ m)
    (hL : w.rowIs bl 39 n (fun i => .int .u64 (L i))) (hNr : w.rowIs bn 21 n (fun i => .int .i32 (N i))) :
    Calls Try.prog 16 #[.slice (some ⟨bl, 0, none⟩) n cl, .slice (some ⟨bn, 0, none⟩) n cn, .int .i32 (nd 0), .float .f64 g, .int .i32 (nd p)] w fun e w' =>
      Below w.heap.size w w' ∧
      ((∃ k, 1 ≤ k ∧ k ≤ 62 ∧ (∀ j, 1 ≤ j → j < k → skips g j (Pl.cC L nd m (L (nd p)) j) = true) ∧ skips g k (Pl.cC L nd m (L (nd p)) k) = false ∧
        ∃ bw, e = .returned (.tuple #[.slice (some ⟨bw, 0, none⟩) n n, .bool true]) ∧ w.heap.size ≤ bw ∧ w'.rowIs bw 39 n (fun x => .int .u64 (Pl.newLab L nd m (L (nd p)) k x))) ∨
      e = .returned (.tuple #[.slice none 0 0, .bool false])) := by
  have hpn := R.lt p hp
  have hmn := R.mn
  obtain ⟨l, hl⟩ : ∃ l, l = L (nd p) := ⟨_, rfl⟩
  have hl0 : 0 ≤ l := by
    rw [hl]
    by_cases e : p = 0
    · subst e; have := R.l0; omega
    · have := R.mono 0 p (by omega) hp; have := R.l0; omega
  have hl1 : l < 4611686018427387904 := by rw [hl]; exact R.lim p hp
  rw [← hl]
  have hLl : ∀ w', Below w.heap.size w w' → w'.cell? ⟨bl, nd p, none⟩ = some (.int .u64 l) := fun w' h => by rw [h.cell (by exact hL.lt), hL.cell hpn, hl]
  have HLl := hLl
  clear hLl
  have HL : Hid (l = L (nd p)) := hl
  clear hl
  go_enter Try.func16, Try.ntmps16
  go_wp2_with fail
  refine (ringOrder_any bn n cn L P N m nd R w hn2 hNr).mono ?_
  rintro e w1 ⟨a, c, rfl, hs, hb1⟩
  go_wp2_with fail
  have hL1 : ∀ i, i < n → w1.cell? ⟨bl, 0 + i, none⟩ = some (.int .u64 (L i)) := fun i hi => by rw [Nat.zero_add, hb1.cell (by exact hL.lt), hL.cell hi]
  have hz1 := hb1.size
  have hlb := hL.lt
  refine (clone14_some bl 0 n cl L w1 hn2 (by omega) hL1).mono ?_
  rintro e w2 ⟨rfl, hw, hsz2, hb2⟩
  clear hL1
  have hb12 : Below w.heap.size w w2 := hb1.trans (hb2.mono hz1)
  go_wp2_with fail
  go_loopw [14, 15] (fun al i wr => ∃ k ab : Nat, k ≤ 62 ∧ i = .int .u64 (k + 1) ∧ al = .float .f64 ab ∧ allow g k = some ab ∧ (∀ j, 1 ≤ j → j ≤ k → skips g j (Pl.cC L nd m l j) = true) ∧ Below w2.heap.size w2 wr) (fun _ i _ => 63 - (intOf i).toNat)
  case atStart => exact ⟨0, _, by omega, rfl, rfl, rfl, fun j h1 h2 => by omega, Below.refl _ _⟩
  case round =>
    obtain ⟨k, ab, hk, rfl, rfl, hab, hsk, hbr⟩ := hrel
    by_cases hk2 : k < 62
    · obtain ⟨rr, w3, hrun, hb3, hgt, hal⟩ := mul_step g k ab hab wr
      have hbw3 : Below w2.heap.size w2 w3 := hbr.trans (hb3.mono hbr.size)
      have hbw : Below w.heap.size w w3 := hb12.trans (hbw3.mono hb12.size)
      have c1 := HLl w3 hbw
      have e1 : IntKind.u64.wrap (2 ^ (k + 1)) = 2 ^ (k + 1) := wrap_pow (k + 1) (by omega)
      have e2 : bits BinOp.andNot IntKind.u64 l (2 ^ (k + 1) - 1) = Pl.lo l (k + 1) := andNot_lo l (k + 1) (by omega) hl0 hl1
      have p1 := Pl.pow_le (k + 1) (by omega)
      have p2 := Pl.pow_ge (k + 1) (by omega)
      have q1 := Pl.lo_nonneg l (k + 1) hl0
      have q2 := Pl.lo_lim l (k + 1) (by omega) hl1
      have HSK : Hid (∀ j, 1 ≤ j → j ≤ k → skips g j (Pl.cC L nd m l j) = true) := hsk
      clear hsk
      have HGT := hgt (Pl.cC L nd m l (k + 1))
      have HAL : Hid (∀ c, skips g (k + 1) c = true → allow g (k + 1) = some rr) := hal
      obtain ⟨sk, hsk⟩ : ∃ sk, sk = skips g (k + 1) (Pl.cC L nd m l (k + 1)) := ⟨_, rfl⟩
      rw [← hsk] at HGT
      have HS : Hid (sk = skips g (k + 1) (Pl.cC L nd m l (k + 1))) := hsk
      clear hab hal hgt hsk
      have d30 : decide ((k : Int) + 1 ≤ 62) = true := by simp; omega
      -- the nodes of the range are nd (A+1), .., nd B
      have hA := R.cnt_iff (Pl.lo l (k + 1)) m (Nat.le_refl _)
      have hB := R.cnt_iff (Pl.lo l (k + 1) + 2 ^ (k + 1)) m (Nat.le_refl _)
      have hAB := Pl.cnt_mono L nd (show Pl.lo l (k + 1) ≤ Pl.lo l (k + 1) + 2 ^ (k + 1) by omega) m
      have hBm := Pl.cnt_le L nd (Pl.lo l (k + 1) + 2 ^ (k + 1)) m
      have HCC : Hid (Pl.cC L nd m l (k + 1) = Pl.cnt L nd (Pl.lo l (k + 1) + 2 ^ (k + 1)) m - Pl.cnt L nd (Pl.lo l (k + 1)) m) := rfl
      have HNL : Hid (Pl.newLab L nd m l (k + 1) = Pl.relbl L nd (Pl.lo l (k + 1)) (2 ^ (k + 1) / ((Pl.cC L nd m l (k + 1) : Int) + 1)) (Pl.cnt L nd (Pl.lo l (k + 1)) m) (Pl.cC L nd m l (k + 1))) := rfl
      generalize Pl.cnt L nd (Pl.lo l (k + 1) + 2 ^ (k + 1)) m = B at hB hAB hBm HCC
      generalize Pl.cnt L nd (Pl.lo l (k + 1)) m = A at hA hAB HCC HNL
      generalize hC : Pl.cC L nd m l (k + 1) = C at HGT HCC HNL HS
      have HC : Hid (Pl.cC L nd m l (k + 1) = C) := hC
      clear hC
      go_wp2_with fail
      clear e1 e2 hrun d30 c1
      generalize hS : (2 : Int) ^ (k + 1) = S at *
      generalize hlo : Pl.lo l (k + 1) = lo at *
      have HS2 : Hid ((2 : Int) ^ (k + 1) = S) := hS
      have HLO : Hid (Pl.lo l (k + 1) = lo) := hlo
      clear hS hlo
      have hin : ∀ j, 1 ≤ j → j ≤ m → ((lo ≤ L (nd j) ∧ L (nd j) < lo + S) ↔ (A < j ∧ j ≤ B)) := by
        intro j h1 h2
        have := hA j h1 h2
        have := hB j h1 h2
        omega
      have HIN := hid hin
      have hseq : ∀ q, q < m → ∃ gq, a = some ⟨gq, 0, none⟩ ∧ gq < w1.heap.size ∧ ∀ j, j < m → w3.cell? ⟨gq, j, none⟩ = some (.int .i32 (nd (j + 1))) := by
        intro q hq
        obtain ⟨gq, ha, hge, hglt, hc⟩ := hs q hq
        refine ⟨gq, ha, hglt, fun j hj => ?_⟩
        have hz2 := hb2.size
        rw [hbw3.cell (by show gq < _; omega), hb2.cell (by exact hglt), hc j hj]
      have HSEQ := hid hseq
      clear hseq
      clear hin hA hB
      go_loop [18, 19] (fun cv i => ∃ q : Nat, q ≤ m ∧ i = .int .i64 q ∧ cv = .int .u64 ((min q B - min q A : Nat) : Int)) (fun _ i => m - (intOf i).toNat)
      case atStart => exact ⟨0, by omega, rfl, by simp⟩
      case round =>
        obtain ⟨q, hq, rfl, rfl⟩ := hrel
        by_cases hqm : q < m
        · obtain ⟨gq, rfl, hgq, hcells⟩ := HSEQ.out q hqm
          have cS := hcells q hqm
          have hlt := R.lt (q + 1) (by omega)
          have cL : w3.cell? ⟨bl, nd (q + 1), none⟩ = some (.int .u64 (L (nd (q + 1)))) := by rw [hbw.cell (by exact hL.lt), hL.cell hlt]
          have hlim := R.lim (q + 1) (by omega)
          have hi := HIN.out (q + 1) (by omega) (by omega)
          clear hcells
          by_cases hr : A < q + 1 ∧ q + 1 ≤ B
          · obtain ⟨r1, r2⟩ := hi.2 hr
            clear hi
            go_wp2_with (go_at_call 30; refine (inRange_yes _ _ _ _ q1 r1 r2 (by omega)).mono ?_; rintro e w' ⟨rfl, rfl⟩)
            go_round
            case rel => exact ⟨q + 1, by omega, by go_num, by congr 1; omega⟩
            case measure => simp [intOf]; omega
          · have r1 : L (nd (q + 1)) < lo ∨ lo + S ≤ L (nd (q + 1)) := by omega
            clear hi
            go_wp2_with (go_at_call 30; refine (inRange_no _ _ _ _ q1 r1 (by omega)).mono ?_; rintro e w' ⟨rfl, rfl⟩)
            go_round
            case rel => exact ⟨q + 1, by omega, by go_num, by congr 1; omega⟩
            case measure => simp [intOf]; omega
        · have hq' : q = m := by omega
          subst hq'
          have hCq : min q B - min q A = C := by have := HCC.out; omega
          rw [hCq]
          have hCB : C ≤ q := by have := HCC.out; omega
          have hCA : A + C = B := by have := HCC.out; omega
          have hq62 : q ≤ 1048576 := by omega
          cases sk with
          | true =>
            go_wp2
            go_roundw
            case rel =>
              refine ⟨k + 1, rr, by omega, by go_num, rfl, HAL.out C (by rw [← HS.out]), ?_, hbw3⟩
              intro j h1 h2
              by_cases e : j = k + 1
              · subst e; rw [HC.out, ← HS.out]
              · exact HSK.out j h1 (by omega)
            case measure => simp [intOf]; omega
          | false =>
            go_wp2_with fail
            have hst0 : 0 ≤ S / ((C : Int) + 1) := Int.ediv_nonneg (by omega) (by omega)
            have hst1 : ∀ t : Nat, t < C → 0 ≤ ((t : Int) + 1) * (S / ((C : Int) + 1)) ∧ ((t : Int) + 1) * (S / ((C : Int) + 1)) ≤ S := by
              intro t ht
              have h1 : ((C : Int) + 1) * (S / ((C : Int) + 1)) ≤ S := Int.mul_ediv_self_le (by omega)
              have h2 : ((t : Int) + 1) * (S / ((C : Int) + 1)) ≤ ((C : Int) + 1) * (S / ((C : Int) + 1)) := Int.mul_le_mul_of_nonneg_right (by omega) hst0
              exact ⟨Int.mul_nonneg (by omega) hst0, by omega⟩
            have hst2 : S / ((C : Int) + 1) ≤ S := Int.ediv_le_self _ (by omega)
            generalize hst : S / ((C : Int) + 1) = st at *
            have HST1 := hid hst1
            have HST := hid hst
            clear hst1 hst
            have hrow0 : w3.rowIs w1.heap.size 39 n (fun i => .int .u64 (L i)) := hw.of_block (hbw3.block _ (by omega))
            have HR0 := hid hrow0
            clear hrow0
            go_loopw [21, 22] (fun jv i wr2 => ∃ q2 : Nat, q2 ≤ q ∧ i = .int .i64 q2 ∧ jv = .int .u64 ((min q2 B - min q2 A : Nat) : Int) ∧
                wr2.rowIs w1.heap.size 39 n (fun x => .int .u64 (Pl.relbl L nd lo st A (min q2 B - min q2 A) x)) ∧ Below w1.heap.size w3 wr2) (fun _ i _ => q - (intOf i).toNat)
            case atStart => exact ⟨0, by omega, rfl, by simp, by simpa [Pl.relbl] using HR0.out, Below.refl _ _⟩
            case round =>
              obtain ⟨q2, hq2, rfl, rfl, hrow, hbl⟩ := hrel
              by_cases hqm : q2 < q
              · obtain ⟨gq, rfl, hgq, hcells⟩ := HSEQ.out q2 hqm
                have hwz := hb1.size
                have cS : wr.cell? ⟨gq, q2, none⟩ = some (.int .i32 (nd (q2 + 1))) := by rw [hbl.cell (by exact hgq), hcells q2 hqm]
                have hlt := R.lt (q2 + 1) (by omega)
                have cL : wr.cell? ⟨bl, nd (q2 + 1), none⟩ = some (.int .u64 (L (nd (q2 + 1)))) := by rw [hbl.cell (by show bl < _; omega), hbw.cell (by exact hL.lt), hL.cell hlt]
                have hlim := R.lim (q2 + 1) (by omega)
                have hi := HIN.out (q2 + 1) (by omega) (by omega)
                clear hcells
                by_cases hr : A < q2 + 1 ∧ q2 + 1 ≤ B
                · obtain ⟨r1, r2⟩ := hi.2 hr
                  obtain ⟨t, ht⟩ : ∃ t, t = min q2 B - min q2 A := ⟨_, rfl⟩
                  have ht2 : min (q2 + 1) B - min (q2 + 1) A = t + 1 := by omega
                  have ht3 : A + t + 1 = q2 + 1 := by omega
                  have htC : t < C := by omega
                  rw [← ht] at hrow ⊢
                  have hrow2 := hrow.set (nd (q2 + 1)) (.int .u64 (lo + ((t : Int) + 1) * st))
                  have hrow3 := hid (hrow2.congr (g := fun x => .int .u64 (Pl.relbl L nd lo st A (t + 1) x)) (fun x hx => by
                    simp only [Pl.relbl, ht3]
                    split <;> rfl))
                  have cW := hrow.cell hlt
                  have fW := hrow.frozen (nd (q2 + 1))
                  obtain ⟨s1, s2⟩ := HST1.out t htC
                  have e5 : IntKind.u64.wrap (((t : Int) + 1) * st) = ((t : Int) + 1) * st := by rw [IntKind.wrap_u64]; omega
                  have HT2 := hid ht2
                  have htq : t ≤ 1048576 := by omega
                  clear hi hrow hrow2 ht ht2 ht3
                  generalize hw0 : Pl.relbl L nd lo st A t (nd (q2 + 1)) = w0 at cW
                  clear hw0
                  generalize hpr : ((t : Int) + 1) * st = pr at *
                  go_wp2_with (go_at_call 30; refine (inRange_yes _ _ _ _ q1 r1 r2 (by omega)).mono ?_; rintro e w' ⟨rfl, rfl⟩)
                  go_roundw
                  case rel => exact ⟨q2 + 1, by omega, by go_num, by rw [HT2.out]; go_num, by rw [HT2.out]; exact hrow3.out, hbl.setCell (by exact Nat.le_refl _) _⟩
                  case measure => simp [intOf]; omega
                · have r1 : L (nd (q2 + 1)) < lo ∨ lo + S ≤ L (nd (q2 + 1)) := by omega
                  have ht2 : min (q2 + 1) B - min (q2 + 1) A = min q2 B - min q2 A := by omega
                  have HT2 := hid ht2
                  clear hi ht2
                  go_wp2_with (go_at_call 30; refine (inRange_no _ _ _ _ q1 r1 (by omega)).mono ?_; rintro e w' ⟨rfl, rfl⟩)
                  go_roundw
                  case rel => exact ⟨q2 + 1, by omega, by go_num, by rw [HT2.out], by rw [HT2.out]; exact hrow, hbl⟩
                  case measure => simp [intOf]; omega
              · have hqq : q2 = q := by omega
                subst hqq
                rw [hCq] at hrow
                go_wp2
                go_ret2
                have hwz := hb1.size
                refine ⟨hbw.trans (hbl.mono hwz), .inl ⟨k + 1, by omega, by omega, fun j h1 h2 => HSK.out j h1 (by omega), ?_, w1.heap.size, rfl, hwz, ?_⟩⟩
                · rw [HC.out, ← HS.out]
                · rw [HNL.out]; exact hrow
    · have hk62 : k = 62 := by omega
      subst hk62
      go_wp2
      go_ret2
      exact ⟨hb12.trans (hbr.mono hb12.size), .inr rfl⟩
end Go.Proofs.Qxb6603909a
