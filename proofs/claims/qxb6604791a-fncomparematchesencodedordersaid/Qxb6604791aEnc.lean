import Derived.Test.Qxb6604791aEncode2
import Derived.Test.Qxb6604791aAnti
namespace Go.Proofs.Qxb6604791a
open Go.RowKit

/-- a field's code, over lists -/
def encL (l : List UInt8) : List Int := l.map (fun b => (b.toNat : Int) + 1) ++ [0]

theorem enc_eq (s : ByteArray) : enc s = encL s.data.toList := by
  unfold enc encL
  congr 1
  unfold encTo
  apply List.ext_getElem?
  intro i
  by_cases hi : i < s.size
  · have hl : i < s.data.toList.length := by simpa using hi
    rw [List.getElem?_map, List.getElem?_range hi, List.getElem?_map, List.getElem?_eq_getElem hl]
    simp only [Option.map_some]
    unfold bz
    rw [List.getD, List.getElem?_eq_getElem hl]
    rfl
  · rw [List.getElem?_eq_none (by simp; omega), List.getElem?_eq_none (by simp; omega)]

theorem cmpZ_enc : ∀ (a b : List UInt8) (r r' : List Int), cmpZ (encL a ++ r) (encL b ++ r') = if Lib.compareBytes a b ≠ 0 then Lib.compareBytes a b else cmpZ r r'
  | [], [], r, r' => by simp [encL, cmpZ, Lib.compareBytes]
  | [], b :: m, r, r' => by
    have h : (0 : Int) < (b.toNat : Int) + 1 := by omega
    simp [encL, cmpZ, Lib.compareBytes, h]
  | a :: l, [], r, r' => by
    have h : (0 : Int) < (a.toNat : Int) + 1 := by omega
    have h' : ¬ ((a.toNat : Int) + 1 < 0) := by omega
    simp [encL, cmpZ, Lib.compareBytes, h, h']
  | a :: l, b :: m, r, r' => by
    have ih := cmpZ_enc l m r r'
    have e1 : encL (a :: l) ++ r = ((a.toNat : Int) + 1) :: (encL l ++ r) := rfl
    have e2 : encL (b :: m) ++ r' = ((b.toNat : Int) + 1) :: (encL m ++ r') := rfl
    rw [e1, e2, cmpZ, Lib.compareBytes]
    by_cases h1 : a < b
    · have h1' : (a.toNat : Int) + 1 < (b.toNat : Int) + 1 := by have := UInt8.lt_iff_toNat_lt.1 h1; omega
      simp [h1, h1']
    · have h1' : ¬ ((a.toNat : Int) + 1 < (b.toNat : Int) + 1) := by
        intro h
        exact h1 (UInt8.lt_iff_toNat_lt.2 (by omega))
      by_cases h2 : b < a
      · have h2' : (b.toNat : Int) + 1 < (a.toNat : Int) + 1 := by have := UInt8.lt_iff_toNat_lt.1 h2; omega
        simp [h1, h1', h2, h2']
      · have h2' : ¬ ((b.toNat : Int) + 1 < (a.toNat : Int) + 1) := by
          intro h
          exact h2 (UInt8.lt_iff_toNat_lt.2 (by omega))
        rw [if_neg h1', if_neg h2', if_neg h1, if_neg h2]
        exact ih

theorem cmp_enc (a b : ByteArray) (r r' : List Int) : cmpZ (enc a ++ r) (enc b ++ r') = if cb a b ≠ 0 then cb a b else cmpZ r r' := by
  rw [enc_eq, enc_eq]
  exact cmpZ_enc _ _ r r'

theorem cmp_encK (a0 a1 a2 a3 b0 b1 b2 b3 : ByteArray) : cmpZ (encK a0 a1 a2 a3) (encK b0 b1 b2 b3) = ck a0 a1 a2 a3 b0 b1 b2 b3 := by
  unfold encK ck
  rw [List.append_assoc, List.append_assoc, List.append_assoc, List.append_assoc, cmp_enc, cmp_enc, cmp_enc]
  have e := cmp_enc a3 b3 [] []
  rw [List.append_nil, List.append_nil] at e
  rw [e]
  by_cases h : cb a3 b3 = 0
  · simp [h, cmpZ]
  · simp [h]

theorem own_cells {w : World} {B : Nat} {v : Value} {l : List Int} (h : w.ownsRow B 51 1 v l.length (u16s l)) (hl : 0 < l.length) :
    ∃ g c, v = .slice (some ⟨g, 0, none⟩) l.length c ∧ g < w.heap.size ∧ ∀ i, i < l.length → w.cell? ⟨g, i, none⟩ = some (.int .u16 (l.getD i 0)) := by
  have h2 := h
  rcases h.2 with ⟨_, h0⟩ | ⟨g, cap, cur, rfl, _, hg, _⟩
  · omega
  · refine ⟨g, cap, rfl, ?_, fun i hi => ?_⟩
    · exact (Array.getElem?_eq_some_iff.1 hg).1
    · have := h2.cells (g := g) rfl i (.int .u16 (l.getD i 0)) (by simp [u16s, List.getD, List.getElem?_eq_getElem hi])
      rwa [WideShapes.add_plain, Nat.zero_add] at this

set_option maxRecDepth 100000 in
theorem bytes22 (a0 a1 a2 a3 a4 a5 a6 a7 : ByteArray) (w0 : a0.size ≤ 9223372036854775807) (w1 : a1.size ≤ 9223372036854775807) (w2 : a2.size ≤ 9223372036854775807) (w3 : a3.size ≤ 9223372036854775807) (w4 : a4.size ≤ 9223372036854775807) (w5 : a5.size ≤ 9223372036854775807) (w6 : a6.size ≤ 9223372036854775807) (w7 : a7.size ≤ 9223372036854775807) (w : World) :
    Calls Try.prog 22 #[.string a0, .string a1, .string a2, .string a3, .string a4, .string a5, .string a6, .string a7] w fun e w' => w = w' ∧ AnyB e := by
  go_enter Try.func22, Try.ntmps22
  go_wp2
  all_goals go_ret
  all_goals exact ⟨rfl, _, rfl⟩

set_option maxHeartbeats 1600000 in
set_option maxRecDepth 100000 in
theorem enc_walk (a0 : ByteArray) (a1 : ByteArray) (a2 : ByteArray) (a3 : ByteArray) (a4 : ByteArray) (a5 : ByteArray) (a6 : ByteArray) (a7 : ByteArray) (w : World) (w0 : a0.size ≤ maxLen) (w1 : a1.size ≤ maxLen) (w2 : a2.size ≤ maxLen) (w3 : a3.size ≤ maxLen) (w4 : a4.size ≤ maxLen) (w5 : a5.size ≤ maxLen) (w6 : a6.size ≤ maxLen) (w7 : a7.size ≤ maxLen) :
    Calls Try.prog 6 #[.string a0, .string a1, .string a2, .string a3, .string a4, .string a5, .string a6, .string a7] w fun e w' => e = .returned (.bool true) ∧ Below w.heap.size w w' := by
  unfold maxLen at w0 w1 w2 w3 w4 w5 w6 w7
  go_enter Try.func6, Try.ntmps6
  go_wp2_with fail
  refine (bytes22 a0 a1 a2 a3 a4 a5 a6 a7 (by omega) (by omega) (by omega) (by omega) (by omega) (by omega) (by omega) (by omega) w).mono ?_
  rintro e w' ⟨rfl, b, rfl⟩
  cases b with
  | false =>
    go_wp2
    go_ret
    exact ⟨rfl, Below.refl _ _⟩
  | true =>
  by_cases s0 : 131072 < a0.size
  · go_wp2
    go_ret
    exact ⟨rfl, Below.refl _ _⟩
  by_cases s1 : 131072 < a1.size
  · go_wp2
    go_ret
    exact ⟨rfl, Below.refl _ _⟩
  by_cases s2 : 131072 < a2.size
  · go_wp2
    go_ret
    exact ⟨rfl, Below.refl _ _⟩
  by_cases s3 : 131072 < a3.size
  · go_wp2
    go_ret
    exact ⟨rfl, Below.refl _ _⟩
  by_cases s4 : 131072 < a4.size
  · go_wp2
    go_ret
    exact ⟨rfl, Below.refl _ _⟩
  by_cases s5 : 131072 < a5.size
  · go_wp2
    go_ret
    exact ⟨rfl, Below.refl _ _⟩
  by_cases s6 : 131072 < a6.size
  · go_wp2
    go_ret
    exact ⟨rfl, Below.refl _ _⟩
  by_cases s7 : 131072 < a7.size
  · go_wp2
    go_ret
    exact ⟨rfl, Below.refl _ _⟩
  go_wp2_with (go_at_call 23; refine (zzMake _ _ _ _ _).mono ?_; rintro e w' ⟨rfl, rfl⟩)
  obtain ⟨W, hW, k1, k2, hs, hb⟩ := two_keys w a0 a1 a2 a3 a4 a5 a6 a7 (.cells #[.string a0, .string a1, .string a2, .string a3] 37) (.cells #[.string a4, .string a5, .string a6, .string a7] 37)
  rw [← hW]
  have hlt1 : w.heap.size + 1 < W.heap.size := by omega
  have hlt2 : w.heap.size + 1 + 1 + 1 < W.heap.size := by omega
  have hle : w.heap.size ≤ W.heap.size := by omega
  have K1 := hidd k1
  have K2 := hidd k2
  have HB := hidd hb
  clear hW k1 k2 hs hb
  have n1 := encK_length a0 a1 a2 a3
  have n2 := encK_length a4 a5 a6 a7
  have HN1 := hidd n1
  have HN2 := hidd n2
  clear n1 n2
  refine (encodeKey a0 a1 a2 a3 W (by omega) (by omega) (by omega) (by omega)).mono ?_
  rintro e x1 ⟨v1, rfl, o1, b1⟩
  have HO1 := hidd o1
  have HB1 := hidd b1
  clear o1 b1
  go_wp2_with fail
  refine (encodeKey a4 a5 a6 a7 x1 (by omega) (by omega) (by omega) (by omega)).mono ?_
  rintro e x2 ⟨v2, rfl, o2, b2⟩
  obtain ⟨g1, c1, rfl, hg1, hx⟩ := own_cells HO1.out (by have := HN1.out; omega)
  obtain ⟨g2, c2, rfl, hg2, hy⟩ := own_cells o2 (by have := HN2.out; omega)
  have HX := hidd (fun i hi => (b2.cell (p := ⟨g1, i, none⟩) hg1).trans (hx i hi))
  have HY := hidd hy
  have HB2 := hidd (HB1.out.trans (b2.mono HB1.out.size))
  clear o2 b2 hx hy
  go_wp2_with fail
  refine (cmpU16 g1 g2 c1 c2 (encK a0 a1 a2 a3) (encK a4 a5 a6 a7) x2 HX.out HY.out (by have := HN1.out; omega) (by have := HN2.out; omega)).mono ?_
  rintro e x3 ⟨rfl, q, hq⟩
  rw [cmp_encK]
  have hb3 : Below W.heap.size W x3 := by rw [hq]; exact below_drewN HB2.out q
  have K1' := K1.out.below hb3 hlt1
  have K2' := K2.out.below hb3 hlt2
  have HB3 := hidd (HB.out.trans (hb3.mono hle))
  have hle3 := Nat.le_trans hle hb3.size
  obtain ⟨p0, p1, p2, p3⟩ := K1'.cells
  obtain ⟨q0, q1, q2, q3⟩ := K2'.cells
  clear hq hb3 K1' K2' HB2 HX HY HO1 HB1 HB
  go_wp2_with fail
  refine (zzCompare a0 a1 a2 a3 a4 a5 a6 a7 x3).mono ?_
  rintro e x4 ⟨rfl, hb4⟩
  have HB4 := hidd (HB3.out.trans (hb4.mono hle3))
  clear hb4 p0 p1 p2 p3 q0 q1 q2 q3 HB3
  generalize ck a0 a1 a2 a3 a4 a5 a6 a7 = c
  have t : (c == c) = true := by simp
  go_wp2
  go_ret
  refine ⟨?_, HB4.out⟩
  simp

end Go.Proofs.Qxb6604791a
