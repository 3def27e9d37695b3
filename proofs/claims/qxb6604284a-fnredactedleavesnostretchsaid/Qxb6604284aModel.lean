import Derived.Test.Qxb6604284aPlain2
import Derived.OwnWalk
import Derived.Maps.AppendAt
import Derived.Laws.MakeOwn
namespace Go.Proofs.Qxb6604284a
open Go.RowKit

theorem covTo_start (tx pw : ByteArray) (n c p : Nat) : CovTo tx pw n c c p = false := by
  rw [Bool.eq_false_iff]
  intro h
  obtain ⟨i, h1, h2, _⟩ := covTo_iff.1 h
  have := h2.1
  omega

theorem covTo_miss {tx pw : ByteArray} {n c m : Nat} (h : ¬ Hit tx pw n c m) (p : Nat) : CovTo tx pw n c (m + 1) p = CovTo tx pw n c m p := by
  rw [Bool.eq_iff_iff, covTo_iff, covTo_iff]
  constructor
  · rintro ⟨i, h1, h2, h3⟩
    refine ⟨i, ?_, h2, h3⟩
    rcases Nat.lt_or_ge i m with h4 | h4
    · exact h4
    · obtain rfl : i = m := by omega
      exact absurd h2 h
  · rintro ⟨i, h1, h2⟩
    exact ⟨i, by omega, h2⟩

theorem covTo_hit {tx pw : ByteArray} {n c m : Nat} (h : Hit tx pw n c m) (p : Nat) : CovTo tx pw n c (m + 1) p = (CovTo tx pw n c m p || decide (m ≤ p ∧ p < m + n)) := by
  rw [Bool.eq_iff_iff, covTo_iff, Bool.or_eq_true, covTo_iff, decide_eq_true_iff]
  constructor
  · rintro ⟨i, h1, h2, h3⟩
    rcases Nat.lt_or_ge i m with h4 | h4
    · exact .inl ⟨i, h4, h2, h3⟩
    · obtain rfl : i = m := by omega
      exact .inr h3
  · rintro (⟨i, h1, h2⟩ | h2)
    · exact ⟨i, by omega, h2⟩
    · exact ⟨m, by omega, h, h2⟩

theorem covTo_done {tx pw : ByteArray} {n c m : Nat} (h : tx.size < m + n) (p : Nat) : CovTo tx pw n c m p = Cov tx pw n c p := by
  rw [Bool.eq_iff_iff, covTo_iff, cov_iff]
  constructor
  · rintro ⟨i, _, h2⟩; exact ⟨i, h2⟩
  · rintro ⟨i, h2, h3⟩; exact ⟨i, by have := h2.2.1; omega, h2, h3⟩

theorem info4 : (Try.prog.info? 4).map (fun i => (i.zero, i.size, i.bytes)) = some (some (.bool false), 1, 1) := by kernel_rfl

theorem rowIs_below {w w' : World} {b t n B : Nat} {f : Nat → Value} (h : w.rowIs b t n f) (hb : Below B w w') (hlt : b < B) : w'.rowIs b t n f := h.of_block (hb.block b hlt)

theorem text_cell {w W : World} {A : Option Addr} {tx : ByteArray} (h : IsText w A tx) (hb : Below w.heap.size w W) (p : Nat) (hp : p < tx.size) : ∃ b, A = some ⟨b, 0, none⟩ ∧ W.cell? ⟨b, p, none⟩ = some (.int .u8 ((tb tx p).toNat : Int)) := by
  rcases h with ⟨_, h0⟩ | ⟨b, rfl, hlt, hby⟩
  · omega
  · exact ⟨b, rfl, bytes_cell (fun i hi => (hb.cell (by exact hlt)).trans (hby i hi)) hp⟩

theorem M_no {t : Nat → UInt8} {cov : Nat → Bool} {p : Nat} (h : cov p = false) : M t cov (p + 1) = M t cov p ++ [t p] := by rw [M, if_neg (by simp [h])]
theorem M_first {t : Nat → UInt8} {cov : Nat → Bool} {p : Nat} (h : cov p = true) (h1 : p = 0 ∨ cov (p - 1) = false) : M t cov (p + 1) = M t cov p ++ [42, 42, 42] := by rw [M, if_pos h, if_pos h1]
theorem M_more {t : Nat → UInt8} {cov : Nat → Bool} {p : Nat} (h : cov (p + 1) = true) (h1 : cov p = true) : M t cov (p + 1 + 1) = M t cov (p + 1) := by
  rw [M, if_pos h, if_neg (by simp [h1])]

theorem cell_three (w : World) (x y z : Value) (t : TypeId) : ∀ j u, [x, y, z][j]? = some u → (w.alloc (.cells #[x, y, z] t)).cell? ((⟨w.heap.size, 0, none⟩ : Addr).add j) = some u := by
  intro j u hj
  match j, hj with
  | 0, hj => simp at hj; subst hj; simp [Addr.add]
  | 1, hj => simp at hj; subst hj; simp [Addr.add]
  | 2, hj => simp at hj; subst hj; simp [Addr.add]
  | j + 3, hj => simp at hj

theorem conv_own {w : World} {B : Nat} {v : Value} {l : List UInt8} (h : w.ownsRow B 5 1 v l.length (Lib.byteCells l)) : (convert 22 9 v).run Try.prog w = .ok (.string ⟨l.toArray⟩) w := by
  have h2 := h
  rcases h.2 with ⟨rfl, h0⟩ | ⟨g, cap, cur, rfl, _⟩
  · obtain rfl : l = [] := List.eq_nil_of_length_eq_zero h0
    exact Lib.run_convert_nil_bytes w 22 9 5 _ Try.underlying22 Try.underlying5 Try.underlying9
  · refine run_convert_bytes_back w 22 9 5 _ _ l Try.underlying22 Try.underlying5 Try.underlying9 (fun j hj => ?_)
    refine h2.cells (g := g) rfl j _ ?_
    simp [Lib.byteCells, List.getElem?_eq_getElem hj]

theorem model_empty (A : Option Addr) (tx pw : ByteArray) (w : World) (h : IsText w A tx) (hp : pw.size = 0) :
    Calls Try.prog 10 #[.slice A tx.size tx.size, .string pw] w fun e w' => e = .returned (.string tx) ∧ Below w.heap.size w w' := by
  have d : (pw.size : Int) = 0 := by omega
  have hv := conv_whole h (Below.refl _ _)
  go_enter Try.func10, Try.ntmps10
  go_wp2
  go_ret
  exact ⟨rfl, Below.refl _ _⟩

set_option maxHeartbeats 3200000 in
set_option maxRecDepth 100000 in
theorem model_some (A : Option Addr) (tx pw : ByteArray) (w : World) (h : IsText w A tx) (hL : tx.size ≤ 4096) (hp : 0 < pw.size) (hpm : pw.size ≤ 4096) (c : Nat) (hc : IsCode (tb tx) tx.size c) :
    Calls Try.prog 10 #[.slice A tx.size tx.size, .string pw] w fun e w' => e = .returned (.string ⟨(Out tx pw c).toArray⟩) ∧ Below w.heap.size w w' := by
  obtain ⟨n, HN⟩ : ∃ n, Hid (n = min 4 pw.size) := ⟨_, hidd rfl⟩
  have hn0 : 0 < n := by have := HN.out; omega
  have hn4 : n ≤ 4 := by have := HN.out; omega
  have hnp : n ≤ pw.size := by have := HN.out; omega
  have hv := conv_whole h (Below.refl _ _)
  have hmk := run_make_row' (P := Try.prog) 35 4 (.bool false) 1 Try.underlying35 info4 rfl .i64 .i64 tx.size (by omega) (by omega)
  have hcL := hc.le
  have HT := hidd h
  have HC := hidd hc
  clear h hc
  go_enter Try.func10, Try.ntmps10
  go_wp2_with fail
  refine (stretchLen pw.size w).mono ?_
  rintro e w' ⟨rfl, rfl⟩
  rw [← HN.out]
  go_wp2_with fail
  refine (codeLen_any A tx.size tx w' w' rfl hL HT.out (Below.refl _ _) c HC.out).mono ?_
  rintro e w ⟨rfl, rfl⟩
  go_wp2_with fail
  clear hmk hv
  go_loopg [9] (tx.size + 1 - c) (fun gk iv wr => ∃ i : Nat, i + gk = tx.size + 1 ∧ c ≤ i ∧ iv = .int .i64 i ∧ wr.rowIs w.heap.size 4 tx.size (fun p => .bool (CovTo tx pw n c i p)) ∧ Below w.heap.size w wr ∧ w.heap.size + 1 ≤ wr.heap.size)
  case atStart => exact ⟨c, by omega, Nat.le_refl _, rfl, (World.rowIs_made _ _ _ _).congr (fun p _ => by rw [covTo_start]), (Below.refl _ _).alloc (Nat.le_refl _) _, by simp⟩
  case round =>
    obtain ⟨i, hi, hci, rfl, hrow, hbel, hsz⟩ := hrel
    have HI := hidd hi
    have HR := hidd hrow
    have HB := hidd hbel
    have hib : i ≤ 4097 := by omega
    clear hi hrow hbel
    by_cases hlt : i + n ≤ tx.size
    · obtain ⟨gO, rfl⟩ : ∃ gO, gO = gk := ⟨_, rfl⟩
      go_wp2_with fail
      refine (stretchAt tx pw i n hn4 hlt (by omega) hpm wr).mono ?_
      rintro e w1 ⟨⟨r, rfl, hr⟩, q, hq⟩
      have hR1 : w1.rowIs w.heap.size 4 tx.size (fun p => .bool (CovTo tx pw n c i p)) := by rw [hq]; exact HR.out
      have hB1 : Below w.heap.size w w1 := by rw [hq]; exact below_drewN HB.out q
      have hs1 : w.heap.size + 1 ≤ w1.heap.size := by rw [hq]; exact hsz
      clear hq HR HB hsz
      have HR := hidd hR1
      have HB := hidd hB1
      clear hR1 hB1
      cases r with
      | false =>
        have HNH := hidd (show ¬ Hit tx pw n c i from fun h => by have := hr.2 h.2.2; cases this)
        clear hr
        go_wp2
        go_roundg (gO - 1)
        case measure => have := HI.out; omega
        case rel => exact ⟨i + 1, by have := HI.out; omega, by omega, by go_num, HR.out.congr (fun p _ => by rw [covTo_miss HNH.out]), HB.out, hs1⟩
      | true =>
        have HNH := hidd (show Hit tx pw n c i from ⟨hci, hlt, hr.1 rfl⟩)
        clear hr
        go_wp2_with fail
        go_loopg [10] n (fun gk kv wr => ∃ k : Nat, k + gk = i + n ∧ i ≤ k ∧ kv = .int .i64 k ∧ wr.rowIs w.heap.size 4 tx.size (fun p => .bool (CovTo tx pw n c i p || decide (i ≤ p ∧ p < k))) ∧ Below w.heap.size w wr ∧ w.heap.size + 1 ≤ wr.heap.size)
        case atStart =>
          exact ⟨i, by omega, Nat.le_refl _, rfl, HR.out.congr (fun p _ => by
            have : decide (i ≤ p ∧ p < i) = false := decide_eq_false (by omega)
            rw [this, Bool.or_false]), HB.out, hs1⟩
        case round =>
          clear HR HB hs1
          obtain ⟨k, hk, hik, rfl, hrow, hbel, hsz⟩ := hrel
          have HK := hidd hk
          have HB := hidd hbel
          have hkb : k ≤ i + n := by omega
          by_cases hkn : k < i + n
          · have hcy := hrow.cell (show k < tx.size by omega)
            have hfy := hrow.frozen k
            have HR := hidd ((hrow.set k (.bool true)).congr (g := fun p => .bool (CovTo tx pw n c i p || decide (i ≤ p ∧ p < k + 1))) (fun p hp => by
              by_cases e : p = k
              · subst e
                rw [if_pos rfl]
                have : decide (i ≤ p ∧ p < p + 1) = true := decide_eq_true (by omega)
                rw [this, Bool.or_true]
              · rw [if_neg e]
                have : decide (i ≤ p ∧ p < k) = decide (i ≤ p ∧ p < k + 1) := by rw [decide_eq_decide]; omega
                rw [this]))
            clear hk hrow hbel
            generalize (CovTo tx pw n c i k || decide (i ≤ k ∧ k < k)) = old at hcy
            go_wp2
            go_roundg (gk - 1)
            case measure => have := HK.out; omega
            case rel => exact ⟨k + 1, by have := HK.out; omega, by omega, by go_num, HR.out, HB.out.setCell (Nat.le_refl _) _, by simpa using hsz⟩
          · have hkk : k = i + n := by omega
            have HR := hidd (hrow.congr (g := fun p => .bool (CovTo tx pw n c (i + 1) p)) (fun p _ => by rw [covTo_hit HNH.out, hkk]))
            clear hk hrow hbel
            have HKK := hidd hkk
            clear hkk
            have d0 : decide ((k : Int) < (i : Int) + (n : Int)) = false := decide_eq_false (by omega)
            go_wp2
            go_roundg (gO - 1)
            case measure => have := HI.out; omega
            case rel => exact ⟨i + 1, by have := HI.out; omega, by omega, by go_num, HR.out, HB.out, hsz⟩
    · have HR2 := hidd (HR.out.congr (g := fun p => .bool (Cov tx pw n c p)) (fun p _ => by rw [covTo_done (by omega)]))
      clear HR
      obtain ⟨W1, rfl⟩ : ∃ W1, W1 = wr := ⟨_, rfl⟩
      obtain ⟨i0, hi0, hz0, hz1, hz2⟩ := info_parts info5
      have hmk := run_make_own (P := Try.prog) W1 W1.heap.size 22 5 i0 (.int .u8 0) 1 Try.underlying22 hi0 hz0 hz1 .i64 .i64 tx.size (by rw [hz2]; omega) (by unfold maxLen; omega) (Nat.le_refl _)
      obtain ⟨w1, hrun, hown, hgrow⟩ := hmk
      have HO := hidd hown
      have HG := hidd ((Below.refl W1.heap.size W1).grown hgrow (Nat.le_refl _) (fun j hj => by cases hj))
      have HI0 := hidd hi0
      have HZ0 := hidd hz0
      have HZ1 := hidd hz1
      have HZ2 := hidd hz2
      clear hown hgrow hi0 hz0 hz1 hz2
      go_wp2_with fail
      clear hrun
      go_loopg [11, 12] tx.size (fun gk ov pv wq => ∃ p : Nat, p + gk = tx.size ∧ pv = .int .i64 p ∧ wq.ownsRow W1.heap.size 5 1 ov (M (tb tx) (Cov tx pw n c) p).length (Lib.byteCells (M (tb tx) (Cov tx pw n c) p)) ∧ Below W1.heap.size W1 wq)
      case atStart => exact ⟨0, by omega, rfl, HO.out, HG.out⟩
      case round =>
        clear HO HG
        obtain ⟨p, hpk, rfl, hown, hbe⟩ := hrel
        have HK := hidd hpk
        have HO := hidd hown
        have HE := hidd hbe
        have hsz2 := hbe.size
        have hpb : p ≤ 4096 := by omega
        have hpt : p ≤ tx.size := by omega
        have hml := M_length (tb tx) (Cov tx pw n c) p
        clear hpk hown hbe
        by_cases hpl : p < tx.size
        · have hcov := (rowIs_below HR2.out HE.out (by omega)).cell hpl
          cases hcv : Cov tx pw n c p with
          | false =>
            rw [hcv] at hcov
            have HM := hidd (M_no (t := tb tx) hcv)
            clear hcv
            obtain ⟨b, rfl, htx⟩ := text_cell HT.out (HB.out.trans (HE.out.mono (by omega))) p hpl
            obtain ⟨z, HZ⟩ : ∃ z : Int, Hid (z = ((tb tx p).toNat : Int)) := ⟨_, hidd rfl⟩
            rw [← HZ.out] at htx
            have hi0 := HI0.out
            have hz0 := HZ0.out
            have hz1 := HZ1.out
            have hz2 := HZ2.out
            go_wp2_with (first
              | (at_builtin; refine wpList_append_own _ rfl _ _ 22 rfl W1.heap.size 5 i0 (.int .u8 0) 1 1 Try.underlying22 hi0 hz0 hz1 hz2 rfl (by decide) _ _ _ rfl (HO.out.alloc _) ⟨wr.heap.size, 0, none⟩ 1 1 [.int .u8 z] rfl rfl (cell_one_new _ _ _) (ints_oneCell .u8 [z]) (by unfold maxLen; omega) (by omega) (by simp; omega) ?_; intro v' w2 hown' hgrow2 hnil2)
              | go_in)
            have HO2 := hidd hown'
            have HG2 := hidd ((HE.out.alloc hsz2 _).grown hgrow2 (by simp; omega) (fun j hj => (HO.out.lt j hj).1))
            clear hown' hgrow2 hnil2
            go_wp2
            go_roundg (gk - 1)
            case measure => have := HK.out; omega
            case rel =>
              refine ⟨p + 1, by have := HK.out; omega, by go_num, ?_, HG2.out⟩
              rw [HM.out, Lib.byteCells_append, List.length_append]
              have := HO2.out
              rw [HZ.out] at this
              exact this
          | true =>
            rw [hcv] at hcov
            by_cases hp0 : p = 0
            · subst hp0
              have HM := hidd (M_first (t := tb tx) hcv (.inl rfl))
              clear hcv
              have hi0 := HI0.out
              have hz0 := HZ0.out
              have hz1 := HZ1.out
              have hz2 := HZ2.out
              go_wp2_with (first
                | (at_builtin; refine wpList_append_own _ rfl _ _ 22 rfl W1.heap.size 5 i0 (.int .u8 0) 1 1 Try.underlying22 hi0 hz0 hz1 hz2 rfl (by decide) _ _ _ rfl (HO.out.alloc _) ⟨wr.heap.size, 0, none⟩ 3 3 [.int .u8 42, .int .u8 42, .int .u8 42] rfl rfl (cell_three _ _ _ _ _) (ints_oneCell .u8 [42, 42, 42]) (by unfold maxLen; omega) (by omega) (by simp; omega) ?_; intro v' w2 hown' hgrow2 hnil2)
                | go_in)
              have HO2 := hidd hown'
              have HG2 := hidd ((HE.out.alloc hsz2 _).grown hgrow2 (by simp; omega) (fun j hj => (HO.out.lt j hj).1))
              clear hown' hgrow2 hnil2
              go_wp2
              go_roundg (gk - 1)
              case measure => have := HK.out; omega
              case rel =>
                refine ⟨0 + 1, by have := HK.out; omega, by go_num, ?_, HG2.out⟩
                rw [HM.out, Lib.byteCells_append, List.length_append]
                exact HO2.out
            · obtain ⟨p', rfl⟩ : ∃ p', p = p' + 1 := ⟨p - 1, by omega⟩
              have hcov' := (rowIs_below HR2.out HE.out (by omega)).cell (show p' < tx.size by omega)
              cases hcv' : Cov tx pw n c p' with
              | false =>
                rw [hcv'] at hcov'
                have HM := hidd (M_first (t := tb tx) hcv (.inr hcv'))
                clear hcv hcv'
                have hi0 := HI0.out
                have hz0 := HZ0.out
                have hz1 := HZ1.out
                have hz2 := HZ2.out
                go_wp2_with (first
                  | (at_builtin; refine wpList_append_own _ rfl _ _ 22 rfl W1.heap.size 5 i0 (.int .u8 0) 1 1 Try.underlying22 hi0 hz0 hz1 hz2 rfl (by decide) _ _ _ rfl (HO.out.alloc _) ⟨wr.heap.size, 0, none⟩ 3 3 [.int .u8 42, .int .u8 42, .int .u8 42] rfl rfl (cell_three _ _ _ _ _) (ints_oneCell .u8 [42, 42, 42]) (by unfold maxLen; omega) (by omega) (by simp; omega) ?_; intro v' w2 hown' hgrow2 hnil2)
                  | go_in)
                have HO2 := hidd hown'
                have HG2 := hidd ((HE.out.alloc hsz2 _).grown hgrow2 (by simp; omega) (fun j hj => (HO.out.lt j hj).1))
                clear hown' hgrow2 hnil2
                go_wp2
                go_roundg (gk - 1)
                case measure => have := HK.out; omega
                case rel =>
                  refine ⟨p' + 1 + 1, by have := HK.out; omega, by go_num, ?_, HG2.out⟩
                  rw [HM.out, Lib.byteCells_append, List.length_append]
                  exact HO2.out
              | true =>
                rw [hcv'] at hcov'
                have HM := hidd (M_more (t := tb tx) hcv hcv')
                clear hcv hcv'
                go_wp2
                go_roundg (gk - 1)
                case measure => have := HK.out; omega
                case rel =>
                  refine ⟨p' + 1 + 1, by have := HK.out; omega, by go_num, ?_, HE.out⟩
                  rw [HM.out]
                  exact HO.out
        · have hpp : p = tx.size := by omega
          have hv := conv_own HO.out
          have e1 : M (tb tx) (Cov tx pw n c) p = Out tx pw c := by unfold Out; rw [← HN.out, hpp]
          rw [e1] at hv
          clear e1 hml hpp
          go_wp2
          go_ret
          exact ⟨rfl, HB.out.trans (HE.out.mono (by omega))⟩

end Go.Proofs.Qxb6604284a
