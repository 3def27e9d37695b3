import Derived.Test.Qxb6604791aEncode
namespace Go.Proofs.Qxb6604791a
open Go.RowKit

/-- a key's code -/
def encK (a0 a1 a2 a3 : ByteArray) : List Int := enc a0 ++ enc a1 ++ enc a2 ++ enc a3
theorem encK_length (a0 a1 a2 a3 : ByteArray) : (encK a0 a1 a2 a3).length = a0.size + a1.size + a2.size + a3.size + 4 := by
  simp only [encK, List.length_append, enc_length]; omega

set_option maxHeartbeats 1000000 in
set_option maxRecDepth 100000 in
theorem encodeKey (a0 a1 a2 a3 : ByteArray) (w : World) (s0 : a0.size ≤ 131072) (s1 : a1.size ≤ 131072) (s2 : a2.size ≤ 131072) (s3 : a3.size ≤ 131072) :
    Calls Try.prog 25 #[.string a0, .string a1, .string a2, .string a3] w fun e w' => ∃ v, e = .returned v ∧ w'.ownsRow w.heap.size 51 1 v (encK a0 a1 a2 a3).length (u16s (encK a0 a1 a2 a3)) ∧ Below w.heap.size w w' := by
  obtain ⟨i0, hi0, hz0, hz1, hz2⟩ := info_parts info51
  obtain ⟨w1, hrun, hown, hgrow⟩ := run_make_own (P := Try.prog) w w.heap.size 40 51 i0 (.int .u16 0) 1 Try.underlying40 hi0 hz0 hz1 .i64 .i64 (a0.size + a1.size + a2.size + a3.size + 4) (by rw [hz2]; omega) (by unfold maxLen; omega) (Nat.le_refl _)
  have hrun' : (Instr.makeSlice 40 (.int .i64 0) (.int .i64 ((a0.size : Int) + a1.size + a2.size + a3.size + 4))).run Try.prog w = .ok (.slice (some ⟨w.heap.size, 0, none⟩) 0 (a0.size + a1.size + a2.size + a3.size + 4)) w1 := by
    have e : ((a0.size : Int) + a1.size + a2.size + a3.size + 4) = ((a0.size + a1.size + a2.size + a3.size + 4 : Nat) : Int) := by omega
    rw [e]
    exact hrun
  have hb1 : Below w.heap.size w w1 := (Below.refl _ _).grown hgrow (Nat.le_refl _) (fun j hj => by cases hj)
  generalize a0.size + a1.size + a2.size + a3.size + 4 = cap at hrun' hown
  generalize Value.slice (some ⟨w.heap.size, 0, none⟩) 0 cap = v0 at hrun' hown
  have HO := hidd hown
  have HB := hidd hb1
  have hs1 := hb1.size
  clear hown hgrow hi0 hz0 hz1 hz2 hrun hb1
  go_enter Try.func25, Try.ntmps25
  go_wp2_with fail
  clear hrun'
  refine (encodeField w.heap.size v0 [] a0 w1 HO.out hs1 (by simp) s0).mono ?_
  rintro e x1 ⟨v1, rfl, o1, b1⟩
  rw [List.nil_append] at o1
  have HO1 := hidd o1
  have HB1 := hidd (HB.out.trans b1)
  have hs2 := (HB.out.trans b1).size
  clear o1 b1
  go_wp2_with fail
  refine (encodeField w.heap.size v1 (enc a0) a1 x1 HO1.out hs2 (by rw [enc_length]; omega) s1).mono ?_
  rintro e x2 ⟨v2, rfl, o2, b2⟩
  have HO2 := hidd o2
  have HB2 := hidd (HB1.out.trans b2)
  have hs3 := (HB1.out.trans b2).size
  clear o2 b2
  go_wp2_with fail
  refine (encodeField w.heap.size v2 (enc a0 ++ enc a1) a2 x2 HO2.out hs3 (by simp only [List.length_append, enc_length]; omega) s2).mono ?_
  rintro e x3 ⟨v3, rfl, o3, b3⟩
  have HO3 := hidd o3
  have HB3 := hidd (HB2.out.trans b3)
  have hs4 := (HB2.out.trans b3).size
  clear o3 b3
  go_wp2_with fail
  refine (encodeField w.heap.size v3 (enc a0 ++ enc a1 ++ enc a2) a3 x3 HO3.out hs4 (by simp only [List.length_append, enc_length]; omega) s3).mono ?_
  rintro e x4 ⟨v4, rfl, o4, b4⟩
  have HO4 := hidd o4
  have HB4 := hidd (HB3.out.trans b4)
  clear o4 b4
  go_wp2
  go_ret
  exact ⟨_, rfl, HO4.out, HB4.out⟩

/-- the order of two codes -/
def cmpZ : List Int → List Int → Int
  | [], [] => 0
  | [], _ :: _ => -1
  | _ :: _, [] => 1
  | a :: l, b :: m => if a < b then -1 else if b < a then 1 else cmpZ l m

theorem cmpZ_step (x y : List Int) (i : Nat) (hx : i < x.length) (hy : i < y.length) : cmpZ (x.drop i) (y.drop i) = if x.getD i 0 < y.getD i 0 then -1 else if y.getD i 0 < x.getD i 0 then 1 else cmpZ (x.drop (i + 1)) (y.drop (i + 1)) := by
  rw [List.drop_eq_getElem_cons hx, List.drop_eq_getElem_cons hy, cmpZ]
  simp [List.getD, List.getElem?_eq_getElem hx, List.getElem?_eq_getElem hy]

theorem cmpZ_end (x y : List Int) (i : Nat) (hx : i ≤ x.length) (hy : i ≤ y.length) (h : i = x.length ∨ i = y.length) : cmpZ (x.drop i) (y.drop i) = if x.length < y.length then -1 else if y.length < x.length then 1 else 0 := by
  by_cases h1 : i = x.length
  · rw [List.drop_eq_nil_of_le (by omega)]
    by_cases h2 : i = y.length
    · rw [List.drop_eq_nil_of_le (by omega), if_neg (by omega), if_neg (by omega)]
      rfl
    · rw [List.drop_eq_getElem_cons (by omega), if_pos (by omega)]
      rfl
  · have h2 : i = y.length := by omega
    have e : y.drop i = [] := List.drop_eq_nil_of_le (by omega)
    rw [e, List.drop_eq_getElem_cons (by omega), if_neg (by omega), if_pos (by omega)]
    rfl

set_option maxHeartbeats 1000000 in
set_option maxRecDepth 100000 in
theorem cmpU16 (g h c d : Nat) (x y : List Int) (w : World) (hx : ∀ i, i < x.length → w.cell? ⟨g, i, none⟩ = some (.int .u16 (x.getD i 0))) (hy : ∀ i, i < y.length → w.cell? ⟨h, i, none⟩ = some (.int .u16 (y.getD i 0))) (lx : x.length ≤ 1048576) (ly : y.length ≤ 1048576) :
    Calls Try.prog 24 #[.slice (some ⟨g, 0, none⟩) x.length c, .slice (some ⟨h, 0, none⟩) y.length d] w fun e w' => e = .returned (.int .i64 (cmpZ x y)) ∧ ∃ q, w' = w.drewN q := by
  go_enter Try.func24, Try.ntmps24
  go_wp2_with fail
  go_loopg [5] (x.length + 1) (fun gk iv wr => ∃ i : Nat, i + gk = x.length + 1 ∧ i ≤ x.length ∧ i ≤ y.length ∧ iv = .int .i64 i ∧ cmpZ x y = cmpZ (x.drop i) (y.drop i) ∧ ∃ q, wr = w.drewN q)
  case atStart => exact ⟨0, by omega, by omega, by omega, rfl, by simp, 0, rfl⟩
  case round =>
    obtain ⟨i, hi, hix, hiy, rfl, hc, q, hq⟩ := hrel
    have HI := hidd hi
    have HC := hidd hc
    have HQ := hidd hq
    clear hi hc hq
    by_cases h1 : i < x.length
    · by_cases h2 : i < y.length
      · have cx : wr.cell? ⟨g, i, none⟩ = some (.int .u16 (x.getD i 0)) := by rw [HQ.out]; exact hx i h1
        have cy : wr.cell? ⟨h, i, none⟩ = some (.int .u16 (y.getD i 0)) := by rw [HQ.out]; exact hy i h2
        have hst := cmpZ_step x y i h1 h2
        generalize x.getD i 0 = xi at cx hst
        generalize y.getD i 0 = yi at cy hst
        by_cases e : xi = yi
        · subst e
          have t1 : (xi != xi) = false := by simp
          rw [if_neg (by omega), if_neg (by omega)] at hst
          have HS := hidd hst
          clear hst
          go_wp2
          go_quiet (fail)
          go_wp2
          go_roundg (gk - 1)
          case measure => have := HI.out; omega
          case rel => exact ⟨i + 1, by have := HI.out; omega, by omega, by omega, by go_num, HC.out.trans HS.out, by rw [HQ.out]; exact ⟨_, World.drewN_drewN ..⟩⟩
        · have t1 : (xi != yi) = true := by simpa using e
          by_cases e2 : xi < yi
          · rw [if_pos e2] at hst
            have HS := hidd hst
            have t2 : decide (xi < yi) = true := by simpa using e2
            clear hst e
            go_wp2
            go_quiet (fail)
            go_wp2
            go_quiet (fail)
            go_wp2
            go_ret
            rw [HC.out, HS.out]
            exact ⟨rfl, by rw [HQ.out]; exact ⟨_, by rw [World.drewN_drewN, World.drewN_drewN]⟩⟩
          · rw [if_neg e2, if_pos (by omega)] at hst
            have HS := hidd hst
            have t2 : decide (xi < yi) = false := by simpa using e2
            clear hst e
            go_wp2
            go_quiet (fail)
            go_wp2
            go_quiet (fail)
            go_wp2
            go_ret
            rw [HC.out, HS.out]
            exact ⟨rfl, by rw [HQ.out]; exact ⟨_, by rw [World.drewN_drewN, World.drewN_drewN]⟩⟩
      · have hst := cmpZ_end x y i hix hiy (by omega)
        rw [if_neg (by omega), if_pos (by omega)] at hst
        have HS := hidd hst
        clear hst
        go_wp2
        go_ret
        rw [HC.out, HS.out]
        exact ⟨rfl, q, HQ.out⟩
    · have hst := cmpZ_end x y i hix hiy (by omega)
      have HE := hidd (show i = x.length by omega)
      by_cases h2 : x.length < y.length
      · rw [if_pos h2] at hst
        have HS := hidd hst
        clear hst
        go_wp2
        go_ret
        rw [HC.out, HS.out]
        exact ⟨rfl, q, HQ.out⟩
      · rw [if_neg h2, if_neg (by omega)] at hst
        have HS := hidd hst
        clear hst
        go_wp2
        go_ret
        rw [HC.out, HS.out]
        exact ⟨rfl, q, HQ.out⟩

end Go.Proofs.Qxb6604791a
