import Derived.Test.Qxb6604284aMask
import Derived.Test.Qxb6604284aPlain3
namespace Go.Proofs.Qxb6604284a
open Go.RowKit

set_option maxHeartbeats 1600000 in
set_option maxRecDepth 100000 in
theorem leak_walk (a0 : Option Addr) (len0 cap0 : Nat) (z0 : List Int) (a1 : ByteArray) (w : World) (w0 : IsRow .u8 w a0 len0 cap0 z0) (w1 : a1.size ≤ maxLen) :
    Calls Try.prog 4 #[.slice a0 len0 cap0, .string a1] w fun e w' => e = .returned (.bool true) ∧ Below w.heap.size w w' := by
  have b0 := isRow_len w0
  have b1 : a1.size ≤ 9223372036854775807 := by unfold maxLen at w1; omega
  go_enter Try.func4, Try.ntmps4
  go_wp2_with fail
  refine (bytes11 a0 len0 cap0 a1 w b0 b1).mono ?_
  rintro e w' ⟨rfl, b, rfl⟩
  cases b with
  | false =>
    go_wp2
    go_ret
    exact ⟨rfl, Below.refl _ _⟩
  | true =>
  by_cases s0 : 4096 < len0
  · go_wp2
    go_ret
    exact ⟨rfl, Below.refl _ _⟩
  by_cases s1 : 4096 < a1.size
  · go_wp2
    go_ret
    exact ⟨rfl, Below.refl _ _⟩
  by_cases s2 : a1.size = 0
  · have d : ((a1.size : Int) == 0) = true := by simp [s2]
    clear s2
    go_wp2
    go_ret
    exact ⟨rfl, Below.refl _ _⟩
  have d : ((a1.size : Int) == 0) = false := by simp [s2]
  go_wp2_with (go_at_call 12; refine (hasStar a1 (by omega) w).mono ?_)
  rintro e w' ⟨⟨r, rfl, hr⟩, rfl⟩
  cases r with
  | true =>
    clear hr
    go_wp2
    go_ret
    exact ⟨rfl, Below.refl _ _⟩
  | false =>
  have hstar : ∀ j, j < a1.size → tb a1 j ≠ 42 := fun j h1 h2 => by have := hr.2 ⟨j, h1, h2⟩; cases this
  have HSTAR := hidd hstar
  clear hstar hr
  go_wp2_with fail
  refine (clone8_any a0 len0 cap0 z0 _ w0 (by omega)).mono ?_
  rintro e x1 ⟨A, tx, rfl, htx, hT, hb1⟩
  obtain ⟨c, hc⟩ := exists_code (tb tx) tx.size
  have HT := hidd hT
  have HB1 := hidd hb1
  have HL := hidd htx
  have HC := hidd hc
  have hcl : c ≤ len0 := by have := hc.le; omega
  clear hT hb1 htx hc
  go_wp2_with fail
  refine (zz_any A len0 tx a1 x1 HL.out HT.out (by omega) (by omega) c HC.out).mono ?_
  rintro e x2 ⟨rfl, hb2⟩
  obtain ⟨O, hO⟩ : ∃ O, O = Res tx a1 c := ⟨_, rfl⟩
  rw [← hO]
  unfold Res at hO
  rw [if_neg s2] at hO
  have oc := out_code tx a1 c (by omega) (by have := HL.out; omega)
  have HNO := hidd (show ∀ i, c ≤ i → i + min 4 a1.size ≤ O.size → ¬ Win (tb O) i (min 4 a1.size) (tb a1) a1.size from fun i h1 h2 => by
    rw [hO, out_size] at h2
    rw [hO]
    exact out_no tx a1 c i (by omega) HSTAR.out h1 h2)
  have hOc : c ≤ O.size := by rw [hO, out_size]; exact oc.1
  have HOK := hidd (show ∀ k, k < c → bz O k = bz tx k from fun k hk => by
    rw [bz_eq, hO, tb_out]
    exact oc.2 k hk)
  have hOm : O.size ≤ 12288 := by
    rw [hO, out_size]
    have := M_length (tb tx) (Cov tx a1 (min 4 a1.size) c) tx.size
    have e1 := HL.out
    unfold Out
    omega
  clear hO oc
  have HB2 := hidd hb2
  clear hb2
  go_wp2_with fail
  refine (codeLen_any A len0 tx x1 x2 HL.out (by omega) HT.out HB2.out c (by rw [← HL.out]; exact HC.out)).mono ?_
  rintro e x3 ⟨rfl, rfl⟩
  go_wp2_with fail
  go_loopg [7] c (fun gk kv wr => ∃ k : Nat, k + gk = c ∧ kv = .int .i64 k ∧ Below x1.heap.size x1 wr)
  case atStart => exact ⟨0, by omega, rfl, HB2.out⟩
  case round =>
    clear HB2
    obtain ⟨k, hk, rfl, hbe⟩ := hrel
    have HK := hidd hk
    have HE := hidd hbe
    have hkc : k ≤ c := by omega
    clear hk hbe
    by_cases hlt : k < c
    · have hix := run_ix O k (by omega)
      rw [HOK.out k hlt] at hix
      obtain ⟨b, rfl, hcell⟩ := text_cell HT.out HE.out k (by have := HL.out; omega)
      have hcell' : wr.cell? ⟨b, k, none⟩ = some (.int .u8 (bz tx k)) := hcell
      have d1 : (bz tx k != bz tx k) = false := by simp
      clear hcell
      go_wp2
      go_quiet (fail)
      go_wp2
      go_roundg (gk - 1)
      case measure => have := HK.out; omega
      case rel => exact ⟨k + 1, by have := HK.out; omega, by go_num, below_drewN HE.out _⟩
    · go_wp2_with fail
      refine (stretchLen a1.size wr).mono ?_
      rintro e x4 ⟨rfl, rfl⟩
      obtain ⟨n, HN⟩ : ∃ n, Hid (n = min 4 a1.size) := ⟨_, hidd rfl⟩
      rw [← HN.out]
      have hn4 : n ≤ 4 := by have := HN.out; omega
      have hn0 : 0 < n := by have := HN.out; omega
      go_wp2_with fail
      go_loopg [9] (O.size + 1 - c) (fun gk iv wr => ∃ i : Nat, i + gk = O.size + 1 ∧ c ≤ i ∧ iv = .int .i64 i ∧ Below x1.heap.size x1 wr)
      case atStart => exact ⟨c, by omega, Nat.le_refl _, rfl, HE.out⟩
      case round =>
        clear HE
        obtain ⟨i, hi, hci, rfl, hbe⟩ := hrel
        have HI := hidd hi
        have HE := hidd hbe
        have hib : i ≤ 12289 := by omega
        clear hi hbe
        by_cases hin : i + n ≤ O.size
        · go_wp2_with fail
          refine (stretchAt O a1 i n hn4 hin (by omega) (by omega) wr).mono ?_
          rintro e x5 ⟨⟨r, rfl, hr⟩, q, hq⟩
          have hno : r = false := by
            cases r with
            | false => rfl
            | true => exact absurd (by rw [← HN.out]; exact hr.1 rfl) (HNO.out i hci (by rw [← HN.out]; exact hin))
          subst hno
          have HQ := hidd (show Below x1.heap.size x1 x5 by rw [hq]; exact below_drewN HE.out q)
          clear hr hq
          go_wp2
          go_roundg (gk - 1)
          case measure => have := HI.out; omega
          case rel => exact ⟨i + 1, by have := HI.out; omega, by omega, by go_num, HQ.out⟩
        · go_wp2
          go_ret
          exact ⟨rfl, HB1.out.trans (HE.out.mono HB1.out.size)⟩

end Go.Proofs.Qxb6604284a
