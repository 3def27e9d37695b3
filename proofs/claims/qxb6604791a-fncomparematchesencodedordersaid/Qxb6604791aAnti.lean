import Derived.Test.Qxb6604791aCmp
namespace Go.Proofs.Qxb6604791a
open Go.RowKit

set_option maxRecDepth 100000 in
theorem bytes27 (a0 a1 a2 a3 a4 a5 a6 a7 : ByteArray) (w0 : a0.size ≤ 9223372036854775807) (w1 : a1.size ≤ 9223372036854775807) (w2 : a2.size ≤ 9223372036854775807) (w3 : a3.size ≤ 9223372036854775807) (w4 : a4.size ≤ 9223372036854775807) (w5 : a5.size ≤ 9223372036854775807) (w6 : a6.size ≤ 9223372036854775807) (w7 : a7.size ≤ 9223372036854775807) (w : World) :
    Calls Try.prog 27 #[.string a0, .string a1, .string a2, .string a3, .string a4, .string a5, .string a6, .string a7] w fun e w' => w = w' ∧ AnyB e := by
  go_enter Try.func27, Try.ntmps27
  go_wp2
  all_goals go_ret
  all_goals exact ⟨rfl, _, rfl⟩

theorem cmp_range : ∀ a b : List UInt8, Lib.compareBytes a b = -1 ∨ Lib.compareBytes a b = 0 ∨ Lib.compareBytes a b = 1
  | [], [] => by simp [Lib.compareBytes]
  | [], _ :: _ => by simp [Lib.compareBytes]
  | _ :: _, [] => by simp [Lib.compareBytes]
  | x :: a, y :: b => by
    unfold Lib.compareBytes
    split
    · simp
    · split
      · simp
      · exact cmp_range a b

theorem cmp_anti : ∀ a b : List UInt8, Lib.compareBytes b a = -Lib.compareBytes a b
  | [], [] => by simp [Lib.compareBytes]
  | [], _ :: _ => by simp [Lib.compareBytes]
  | _ :: _, [] => by simp [Lib.compareBytes]
  | x :: a, y :: b => by
    unfold Lib.compareBytes
    by_cases h1 : x < y
    · have h2 : ¬ y < x := fun h => UInt8.lt_irrefl x (UInt8.lt_trans h1 h)
      simp [h1, h2]
    · by_cases h2 : y < x
      · simp [h1, h2]
      · simp only [h1, h2, if_false]
        exact cmp_anti a b

theorem cmp_zero : ∀ a b : List UInt8, Lib.compareBytes a b = 0 ↔ a = b
  | [], [] => by simp [Lib.compareBytes]
  | [], _ :: _ => by simp [Lib.compareBytes]
  | _ :: _, [] => by simp [Lib.compareBytes]
  | x :: a, y :: b => by
    unfold Lib.compareBytes
    by_cases h1 : x < y
    · have : x ≠ y := fun h => by rw [h] at h1; exact UInt8.lt_irrefl y h1
      simp [h1, this]
    · by_cases h2 : y < x
      · have : x ≠ y := fun h => by rw [h] at h2; exact UInt8.lt_irrefl y h2
        simp [h1, h2, this]
      · have : x = y := UInt8.le_antisymm (UInt8.not_lt.1 h2) (UInt8.not_lt.1 h1)
        simp only [h1, h2, if_false]
        rw [cmp_zero a b, this]
        simp

theorem cb_range (a b : ByteArray) : cb a b = -1 ∨ cb a b = 0 ∨ cb a b = 1 := cmp_range _ _
theorem cb_anti (a b : ByteArray) : cb b a = -cb a b := cmp_anti _ _
theorem cb_zero (a b : ByteArray) : cb a b = 0 ↔ a.toList = b.toList := by
  rw [ByteArray.toList_eq, ByteArray.toList_eq]
  exact cmp_zero _ _

theorem ck_range (a0 a1 a2 a3 b0 b1 b2 b3 : ByteArray) : ck a0 a1 a2 a3 b0 b1 b2 b3 = -1 ∨ ck a0 a1 a2 a3 b0 b1 b2 b3 = 0 ∨ ck a0 a1 a2 a3 b0 b1 b2 b3 = 1 := by
  unfold ck
  have h0 := cb_range a0 b0
  have h1 := cb_range a1 b1
  have h2 := cb_range a2 b2
  have h3 := cb_range a3 b3
  split
  · exact h0
  · split
    · exact h1
    · split
      · exact h2
      · exact h3

theorem ck_anti (a0 a1 a2 a3 b0 b1 b2 b3 : ByteArray) : ck b0 b1 b2 b3 a0 a1 a2 a3 = -ck a0 a1 a2 a3 b0 b1 b2 b3 := by
  unfold ck
  rw [cb_anti a0 b0, cb_anti a1 b1, cb_anti a2 b2, cb_anti a3 b3]
  have e : ∀ x : Int, (-x ≠ 0) = (x ≠ 0) := fun x => by simp
  simp only [e]
  split
  · rfl
  · split
    · rfl
    · split <;> rfl

theorem ck_zero (a0 a1 a2 a3 b0 b1 b2 b3 : ByteArray) : ck a0 a1 a2 a3 b0 b1 b2 b3 = 0 ↔ a0.toList = b0.toList ∧ a1.toList = b1.toList ∧ a2.toList = b2.toList ∧ a3.toList = b3.toList := by
  rw [← cb_zero a0, ← cb_zero a1, ← cb_zero a2, ← cb_zero a3]
  unfold ck
  by_cases h0 : cb a0 b0 = 0
  · by_cases h1 : cb a1 b1 = 0
    · by_cases h2 : cb a2 b2 = 0
      · simp [h0, h1, h2]
      · simp [h0, h1, h2]
    · simp [h0, h1]
  · simp [h0]

/-- a key's block -/
def KeyAt (w : World) (b : Nat) (s0 s1 s2 s3 : ByteArray) : Prop := w.heap[b]? = some (.cells #[.string s0, .string s1, .string s2, .string s3] 37 (0, 0))

theorem KeyAt.below {w x : World} {b B : Nat} {s0 s1 s2 s3 : ByteArray} (h : KeyAt w b s0 s1 s2 s3) (hb : Below B w x) (hlt : b < B) : KeyAt x b s0 s1 s2 s3 := (hb.block b hlt).trans h

theorem KeyAt.cells {w : World} {b : Nat} {s0 s1 s2 s3 : ByteArray} (h : KeyAt w b s0 s1 s2 s3) : w.cell? ⟨b, 0, none⟩ = some (.string s0) ∧ w.cell? ⟨b, 1, none⟩ = some (.string s1) ∧ w.cell? ⟨b, 2, none⟩ = some (.string s2) ∧ w.cell? ⟨b, 3, none⟩ = some (.string s3) := by
  unfold KeyAt at h
  simp [World.cell?, h]

theorem two_keys (w : World) (s0 s1 s2 s3 t0 t1 t2 t3 : ByteArray) (C D : Obj) :
    ∃ W, W = (((w.alloc C).alloc (.cells #[.string s0, .string s1, .string s2, .string s3] 37)).alloc D).alloc (.cells #[.string t0, .string t1, .string t2, .string t3] 37) ∧
      KeyAt W (w.heap.size + 1) s0 s1 s2 s3 ∧ KeyAt W (w.heap.size + 1 + 1 + 1) t0 t1 t2 t3 ∧ W.heap.size = w.heap.size + 4 ∧ Below w.heap.size w W := by
  refine ⟨_, rfl, ?_, ?_, by simp, ((((Below.refl _ _).alloc (Nat.le_refl _) _).alloc (by simp) _).alloc (by simp; omega) _).alloc (by simp; omega) _⟩
  · unfold KeyAt
    rw [Below.heap_alloc _ _ _ (by simp), Below.heap_alloc _ _ _ (by simp)]
    have := heap_alloc_new (w.alloc C) (.cells #[.string s0, .string s1, .string s2, .string s3] 37)
    simpa using this
  · unfold KeyAt
    have := heap_alloc_new (((w.alloc C).alloc (.cells #[.string s0, .string s1, .string s2, .string s3] 37)).alloc D) (.cells #[.string t0, .string t1, .string t2, .string t3] 37)
    simpa using this

set_option maxHeartbeats 1600000 in
set_option maxRecDepth 100000 in
theorem anti_walk (a0 : ByteArray) (a1 : ByteArray) (a2 : ByteArray) (a3 : ByteArray) (a4 : ByteArray) (a5 : ByteArray) (a6 : ByteArray) (a7 : ByteArray) (w : World) (w0 : a0.size ≤ maxLen) (w1 : a1.size ≤ maxLen) (w2 : a2.size ≤ maxLen) (w3 : a3.size ≤ maxLen) (w4 : a4.size ≤ maxLen) (w5 : a5.size ≤ maxLen) (w6 : a6.size ≤ maxLen) (w7 : a7.size ≤ maxLen) :
    Calls Try.prog 7 #[.string a0, .string a1, .string a2, .string a3, .string a4, .string a5, .string a6, .string a7] w fun e w' => e = .returned (.bool true) ∧ Below w.heap.size w w' := by
  unfold maxLen at w0 w1 w2 w3 w4 w5 w6 w7
  have hrange := ck_range a0 a1 a2 a3 a4 a5 a6 a7
  have hanti := ck_anti a0 a1 a2 a3 a4 a5 a6 a7
  have hzero := ck_zero a0 a1 a2 a3 a4 a5 a6 a7
  go_enter Try.func7, Try.ntmps7
  go_wp2_with fail
  refine (bytes27 a0 a1 a2 a3 a4 a5 a6 a7 (by omega) (by omega) (by omega) (by omega) (by omega) (by omega) (by omega) (by omega) w).mono ?_
  rintro e w' ⟨rfl, b, rfl⟩
  cases b with
  | false =>
    go_wp2
    go_ret
    exact ⟨rfl, Below.refl _ _⟩
  | true =>
  have HR := hidd hrange
  have HA := hidd hanti
  have HZ := hidd hzero
  clear hrange hanti hzero
  by_cases s0 : 131072 < a0.size
  · go_wp2
    go_ret
    exact ⟨rfl, Below.refl _ _⟩
  by_cases s1 : 131072 < a1.size
  · go_wp2
    go_ret
    exact ⟨rfl, Below.refl _ _⟩
  by_cases s2 : 131072 < a2.size
  · go_wp2
    go_ret
    exact ⟨rfl, Below.refl _ _⟩
  by_cases s3 : 131072 < a3.size
  · go_wp2
    go_ret
    exact ⟨rfl, Below.refl _ _⟩
  by_cases s4 : 131072 < a4.size
  · go_wp2
    go_ret
    exact ⟨rfl, Below.refl _ _⟩
  by_cases s5 : 131072 < a5.size
  · go_wp2
    go_ret
    exact ⟨rfl, Below.refl _ _⟩
  by_cases s6 : 131072 < a6.size
  · go_wp2
    go_ret
    exact ⟨rfl, Below.refl _ _⟩
  by_cases s7 : 131072 < a7.size
  · go_wp2
    go_ret
    exact ⟨rfl, Below.refl _ _⟩
  go_wp2_with (go_at_call 23; refine (zzMake _ _ _ _ _).mono ?_; rintro e w' ⟨rfl, rfl⟩)
  obtain ⟨W, hW, k1, k2, hs, hb⟩ := two_keys w a0 a1 a2 a3 a4 a5 a6 a7 (.cells #[.string a0, .string a1, .string a2, .string a3] 37) (.cells #[.string a4, .string a5, .string a6, .string a7] 37)
  rw [← hW]
  have hlt1 : w.heap.size + 1 < W.heap.size := by omega
  have hlt2 : w.heap.size + 1 + 1 + 1 < W.heap.size := by omega
  have hle : w.heap.size ≤ W.heap.size := by omega
  have K1 := hidd k1
  have K2 := hidd k2
  have HB := hidd hb
  clear hW k1 k2 hs hb
  refine (zzCompare a0 a1 a2 a3 a4 a5 a6 a7 W).mono ?_
  rintro e x1 ⟨rfl, hb1⟩
  have K1' := K1.out.below hb1 hlt1
  have K2' := K2.out.below hb1 hlt2
  have HB1 := hidd (HB.out.trans (hb1.mono hle))
  have hle1 := Nat.le_trans hle hb1.size
  obtain ⟨p0, p1, p2, p3⟩ := K1'.cells
  obtain ⟨q0, q1, q2, q3⟩ := K2'.cells
  clear hb1 K1' K2' K1 K2 HB
  go_wp2_with fail
  refine (zzCompare a4 a5 a6 a7 a0 a1 a2 a3 x1).mono ?_
  rintro e x2 ⟨rfl, hb2⟩
  have HB2 := hidd (HB1.out.trans (hb2.mono hle1))
  clear hb2 p0 p1 p2 p3 q0 q1 q2 q3 HB1
  rw [HA.out]
  clear HA
  obtain ⟨c, hc⟩ : ∃ c, c = ck a0 a1 a2 a3 a4 a5 a6 a7 := ⟨_, rfl⟩
  have HR' := HR.out
  have HZ' := HZ.out
  rw [← hc] at HR' HZ' ⊢
  clear HR HZ hc
  have cases4 : (c = 0 ∧ (a0.toList == a4.toList) = true ∧ (a1.toList == a5.toList) = true ∧ (a2.toList == a6.toList) = true ∧ (a3.toList == a7.toList) = true) ∨
      ((c = -1 ∨ c = 1) ∧ ((a0.toList == a4.toList) = false ∨ ((a0.toList == a4.toList) = true ∧ ((a1.toList == a5.toList) = false ∨ ((a1.toList == a5.toList) = true ∧ ((a2.toList == a6.toList) = false ∨ ((a2.toList == a6.toList) = true ∧ (a3.toList == a7.toList) = false))))))) := by
    by_cases h : c = 0
    · obtain ⟨h0, h1, h2, h3⟩ := HZ'.1 h
      exact .inl ⟨h, by simpa using h0, by simpa using h1, by simpa using h2, by simpa using h3⟩
    · refine .inr ⟨by omega, ?_⟩
      cases g0 : (a0.toList == a4.toList) with
      | false => exact .inl rfl
      | true =>
        refine .inr ⟨rfl, ?_⟩
        cases g1 : (a1.toList == a5.toList) with
        | false => exact .inl rfl
        | true =>
          refine .inr ⟨rfl, ?_⟩
          cases g2 : (a2.toList == a6.toList) with
          | false => exact .inl rfl
          | true =>
            refine .inr ⟨rfl, ?_⟩
            rw [beq_eq_false_iff_ne]
            intro g3
            exact h (HZ'.2 ⟨by simpa using g0, by simpa using g1, by simpa using g2, g3⟩)
  clear HR' HZ'
  rcases cases4 with ⟨rfl, t0, t1, t2, t3⟩ | ⟨rfl | rfl, t0 | ⟨t0, t1 | ⟨t1, t2 | ⟨t2, t3⟩⟩⟩⟩
  all_goals
    go_wp2
    go_ret
    exact ⟨rfl, HB2.out⟩

end Go.Proofs.Qxb6604791a
