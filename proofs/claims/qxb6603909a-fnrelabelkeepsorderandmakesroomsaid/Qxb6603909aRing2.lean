import Derived.Test.Qxb6603909aRing
namespace Go.Proofs.Qxb6603909a
open Go.RowKit
set_option linter.unusedVariables false
set_option linter.unusedSimpArgs false

def closing (n : Nat) (head at' : Int) (r : Option (Nat → Bool)) : Bool :=
  match r with
  | none => false
  | some on => decide (at' = head) || (decide (0 ≤ at') && (decide (at' < n) && on at'.toNat))

set_option maxHeartbeats 1600000 in
theorem ringOK_go (bl bp bn n : Nat) (cl cp cn : Nat) (L P N : Nat → Int) (w : World) (hd : Nat) (at' : Int) (hn2 : n ≤ 1048576) (hh : hd < n) (ha : -2147483648 ≤ at' ∧ at' ≤ 2147483647)
    (hN : ∀ i, i < n → -2147483648 ≤ N i ∧ N i ≤ 2147483647)
    (hL : w.rowIs bl 39 n (fun i => .int .u64 (L i))) (hP : w.rowIs bp 21 n (fun i => .int .i32 (P i))) (hNr : w.rowIs bn 21 n (fun i => .int .i32 (N i))) (h0 : L hd = 0) :
    Calls Try.prog 15 #[.slice (some ⟨bl, 0, none⟩) n cl, .slice (some ⟨bp, 0, none⟩) n cp, .slice (some ⟨bn, 0, none⟩) n cn, .int .i32 hd, .int .i32 at'] w fun e w' =>
      e = .returned (.bool (closing n hd at' (Pl.ringGo L P N n hd n hd (fun _ => false)))) ∧ Below w.heap.size w w' := by
  have g0 : ((n : Int) == 0) = false := by rw [beq_eq_false_iff_ne]; omega
  have g1 : ((n : Int) != n) = false := by simp
  have d1 : decide ((hd : Int) < 0) = false := by simp
  have d2 : decide (n ≤ hd) = false := by simp; omega
  have c0 := hL.cell hh
  have c1 : (L hd != 0) = false := by simp [h0]
  have hmk := run_make_row' (P := Try.prog) 37 4 (.bool false) 1 Try.underlying37 info4 rfl .i64 .i64 n (by omega) (by omega)
  have HG : Hid (∃ r, r = Pl.ringGo L P N n hd n hd (fun _ => false)) := ⟨_, rfl⟩
  go_enter Try.func15, Try.ntmps15
  go_wp2
  clear hmk c0 c1 g0 g1 HG
  go_loopw [13, 14, 15] (fun c x st wr => ∃ (k xx : Nat) (on : Nat → Bool), k ≤ n ∧ c = .bool false ∧ x = .int .i32 xx ∧ xx < n ∧ st = .int .i64 k ∧ wr.rowIs w.heap.size 4 n (fun j => .bool (on j)) ∧ Below w.heap.size w wr ∧
      Pl.ringGo L P N n hd n hd (fun _ => false) = Pl.ringGo L P N n hd (n - k) xx on) (fun _ _ st _ => n - (intOf st).toNat)
  case atStart => exact ⟨0, hd, fun _ => false, Nat.zero_le _, rfl, rfl, hh, rfl, World.rowIs_made _ _ _ _, (Below.refl _ _).alloc (Nat.le_refl _) _, rfl⟩
  case round =>
    obtain ⟨k, x, on, hk, rfl, rfl, hx, rfl, hon, hbel, hgo⟩ := hrel
    have HG : Hid (Pl.ringGo L P N n hd n hd (fun _ => false) = Pl.ringGo L P N n hd (n - k) x on) := hgo
    clear hgo
    by_cases hlt : k < n
    · obtain ⟨f, hf⟩ : ∃ f, n - k = f + 1 := ⟨n - k - 1, by omega⟩
      have hf2 : f = n - (k + 1) := by omega
      have cN : wr.cell? ⟨bn, x, none⟩ = some (.int .i32 (N x)) := (hbel.cell hNr.lt).trans (hNr.cell hx)
      have hNx := hN x hx
      have HG2 : Hid (Pl.ringGo L P N n hd n hd (fun _ => false) = Pl.ringGo L P N n hd (f + 1) x on) := by rw [← hf]; exact HG
      have HF : Hid (f = n - (k + 1)) := hf2
      clear HG hf hf2
      by_cases h1 : N x < 0
      · have H1 : Hid (Pl.ringGo L P N n hd n hd (fun _ => false) = none) := by
          have := HG2.out; rw [Pl.ringGo, if_pos (Or.inl h1)] at this; exact this
        clear HG2
        go_wp2
        go_ret
        exact ⟨by rw [H1.out]; rfl, hbel⟩
      by_cases h2 : (n : Int) ≤ N x
      · have H1 : Hid (Pl.ringGo L P N n hd n hd (fun _ => false) = none) := by
          have := HG2.out; rw [Pl.ringGo, if_pos (Or.inr (Or.inl h2))] at this; exact this
        clear HG2
        go_wp2
        go_ret
        exact ⟨by rw [H1.out]; rfl, hbel⟩
      obtain ⟨y, hy⟩ : ∃ y : Nat, N x = y := ⟨(N x).toNat, by omega⟩
      have hyn : y < n := by omega
      have HG3 : Hid (Pl.ringGo L P N n hd n hd (fun _ => false) = if (y : Int) < 0 ∨ (n : Int) ≤ y ∨ P y ≠ x then none else if (y : Int) = hd then some on
          else if on y = true ∨ L y ≤ L x ∨ 4611686018427387904 ≤ L y then none else Pl.ringGo L P N n hd f y (fun j => if j = y then true else on j)) := by
        have := HG2.out
        rw [Pl.ringGo, hy] at this
        simp only [Int.toNat_natCast] at this
        exact this
      rw [hy] at cN
      have cP : wr.cell? ⟨bp, y, none⟩ = some (.int .i32 (P y)) := (hbel.cell hP.lt).trans (hP.cell hyn)
      clear HG2 hy hNx h1 h2
      by_cases h3' : P y ≠ x
      · have H1 : Hid (Pl.ringGo L P N n hd n hd (fun _ => false) = none) := by
          have := HG3.out; rw [if_pos (Or.inr (Or.inr h3'))] at this; exact this
        have t3 : (P y != x) = true := by rw [bne_iff_ne]; exact h3'
        clear HG3
        go_wp2
        go_ret
        exact ⟨by rw [H1.out]; rfl, hbel⟩
      have h3 : P y = x := Decidable.not_not.1 h3'
      have HG4 : Hid (Pl.ringGo L P N n hd n hd (fun _ => false) = if (y : Int) = hd then some on
          else if on y = true ∨ L y ≤ L x ∨ 4611686018427387904 ≤ L y then none else Pl.ringGo L P N n hd f y (fun j => if j = y then true else on j)) := by
        have := HG3.out
        rw [if_neg (by omega)] at this; exact this
      rw [h3] at cP
      have t3 : ((x : Int) != x) = false := by simp
      clear HG3 h3 h3'
      by_cases h4 : y = hd
      · subst h4
        have t4 : ((y : Int) == y) = true := by simp
        have H1 : Hid (Pl.ringGo L P N n y n y (fun _ => false) = some on) := by
          have := HG4.out; rw [if_pos rfl] at this; exact this
        clear HG4
        by_cases e1 : at' = y
        · subst e1
          go_wp2
          go_ret
          exact ⟨by rw [H1.out]; simp [closing], hbel⟩
        have t5 : (at' == (y : Int)) = false := by rw [beq_eq_false_iff_ne]; exact e1
        by_cases e2 : at' < 0
        · go_wp2
          go_ret
          exact ⟨by rw [H1.out]; simp [closing, e1]; omega, hbel⟩
        by_cases e3 : (n : Int) ≤ at'
        · go_wp2
          go_ret
          exact ⟨by rw [H1.out]; simp [closing, e1]; omega, hbel⟩
        obtain ⟨t, rfl⟩ : ∃ t : Nat, at' = t := ⟨at'.toNat, by omega⟩
        have htn : t < n := by omega
        have cO : wr.cell? ⟨w.heap.size, t, none⟩ = some (.bool (on t)) := hon.cell htn
        go_wp2
        go_ret
        exact ⟨by rw [H1.out]; simp [closing, e1, htn], hbel⟩
      have t4 : ((y : Int) == hd) = false := by rw [beq_eq_false_iff_ne]; omega
      have HG5 : Hid (Pl.ringGo L P N n hd n hd (fun _ => false) = if on y = true ∨ L y ≤ L x ∨ 4611686018427387904 ≤ L y then none else Pl.ringGo L P N n hd f y (fun j => if j = y then true else on j)) := by
        have := HG4.out
        rw [if_neg (by omega)] at this; exact this
      have cO : wr.cell? ⟨w.heap.size, y, none⟩ = some (.bool (on y)) := hon.cell hyn
      have cLy : wr.cell? ⟨bl, y, none⟩ = some (.int .u64 (L y)) := (hbel.cell hL.lt).trans (hL.cell hyn)
      have cLx : wr.cell? ⟨bl, x, none⟩ = some (.int .u64 (L x)) := (hbel.cell hL.lt).trans (hL.cell hx)
      clear HG4
      by_cases h5 : on y = true
      · have H1 : Hid (Pl.ringGo L P N n hd n hd (fun _ => false) = none) := by
          have := HG5.out; rw [if_pos (Or.inl h5)] at this; exact this
        rw [h5] at cO
        clear HG5 h5
        go_wp2
        go_quiet (fail)
        go_wp2
        go_ret
        exact ⟨by rw [H1.out]; rfl, below_drewN hbel _⟩
      have h5 : on y = false := by simpa using h5
      rw [h5] at cO
      by_cases h6 : L y ≤ L x
      · have H1 : Hid (Pl.ringGo L P N n hd n hd (fun _ => false) = none) := by
          have := HG5.out; rw [if_pos (Or.inr (Or.inl h6))] at this; exact this
        clear HG5 h5
        go_wp2
        go_quiet (fail)
        go_wp2
        go_ret
        exact ⟨by rw [H1.out]; rfl, below_drewN hbel _⟩
      by_cases h7 : 4611686018427387904 ≤ L y
      · have H1 : Hid (Pl.ringGo L P N n hd n hd (fun _ => false) = none) := by
          have := HG5.out; rw [if_pos (Or.inr (Or.inr h7))] at this; exact this
        clear HG5 h5
        go_wp2
        go_quiet (fail)
        go_wp2
        go_ret
        exact ⟨by rw [H1.out]; rfl, below_drewN hbel _⟩
      have H1 : Hid (Pl.ringGo L P N n hd n hd (fun _ => false) = Pl.ringGo L P N n hd (n - (k + 1)) y (fun j => if j = y then true else on j)) := by
        have := HG5.out
        rw [if_neg (by rw [h5]; rintro (h | h | h); cases h; omega; omega), HF.out] at this; exact this
      have R : Hid ((wr.setCell ⟨w.heap.size, y, none⟩ (.bool true)).rowIs w.heap.size 4 n (fun j => .bool (if j = y then true else on j))) :=
        (hon.set y (.bool true)).congr (fun i _ => by by_cases e : i = y <;> simp [e])
      have fO := hon.frozen y
      clear HG5 h5 hon
      go_wp2
      go_quiet (fail)
      set_option maxRecDepth 100000 in go_wp2
      go_roundw
      case rel => exact ⟨k + 1, y, _, by omega, rfl, rfl, hyn, by go_num, R.out, below_drewN (hbel.setCell (by exact Nat.le_refl _) _) nq, H1.out⟩
      case measure => simp [intOf]; omega
    · have hkn : k = n := by omega
      subst hkn
      have H1 : Hid (Pl.ringGo L P N k hd k hd (fun _ => false) = none) := by
        have := HG.out; rw [Nat.sub_self] at this; exact this
      clear HG
      go_wp2
      go_ret
      exact ⟨by rw [H1.out]; rfl, hbel⟩
end Go.Proofs.Qxb6603909a
