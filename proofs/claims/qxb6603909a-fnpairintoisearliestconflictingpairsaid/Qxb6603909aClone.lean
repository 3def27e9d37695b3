import Derived.Test.Qxb6603909aRows
import Derived.WalkKit
import Derived.WalkSpells
import Derived.WalkLawsBesides
import Derived.Deep.OwnRows
import Derived.Deep.QuietTactic
import Derived.BigQuiet
namespace Go.Proofs.Qxb6603909a
open Go.RowKit

theorem info21 : (Try.prog.info? 21).map (fun i => (i.zero, i.size, i.bytes)) = some (some (.int .i32 0), 1, 4) := by kernel_rfl
theorem info39 : (Try.prog.info? 39).map (fun i => (i.zero, i.size, i.bytes)) = some (some (.int .u64 0), 1, 8) := by kernel_rfl
theorem info3 : (Try.prog.info? 3).map (fun i => (i.zero, i.size, i.bytes)) = some (some (.int .i64 0), 1, 8) := by kernel_rfl
theorem info5 : (Try.prog.info? 5).map (fun i => (i.zero, i.size, i.bytes)) = some (some (.int .u8 0), 1, 1) := by kernel_rfl
theorem info4 : (Try.prog.info? 4).map (fun i => (i.zero, i.size, i.bytes)) = some (some (.bool false), 1, 1) := by kernel_rfl

/-- What the walk is told of a slice of integers that came in. -/
def IsRow (k : IntKind) (w : World) (a : Option Addr) (len cap : Nat) (zs : List Int) : Prop :=
  (a = none ∧ len = 0 ∧ cap = 0 ∧ zs = []) ∨
  ∃ x, a = some x ∧ len ≤ cap ∧ cap ≤ maxLen ∧ zs.length = cap ∧ (∀ i, i < zs.length → w.cell? (x.add i) = some (.int k (zs.getD i 0))) ∧ ∀ n ∈ zs, (Lit.int k n).wf = true

theorem IsRow.below {k : IntKind} {w w' : World} {a : Option Addr} {len cap : Nat} {zs : List Int} (h : IsRow k w a len cap zs) (hb : Below w.heap.size w w') : IsRow k w' a len cap zs := by
  rcases h with h | ⟨x, h1, h2, h3, h4, h5, h6⟩
  · exact .inl h
  · exact .inr ⟨x, h1, h2, h3, h4, fun i hi => cell_later hb (h5 i hi), h6⟩

/-! ### clone, function 8 -/
theorem clone8_nil (w : World) : Calls Try.prog 8 #[.slice none 0 0] w fun e w' => e = .returned (.slice none 0 0) ∧ w' = w := by
  have hq := fun w => Lib.run_eql_slice_nil (P := Try.prog) w 22 3 none 0 0 0 0 Try.underlying22
  go_enter Try.func8, Try.ntmps8
  go_wp2
  go_ret
  exact ⟨rfl, rfl⟩

theorem clone8_some (b off n c : Nat) (f : Nat → Int) (w : World) (hn : n ≤ 1048576) (hb : b < w.heap.size)
    (hc : ∀ i, i < n → w.cell? ⟨b, off + i, none⟩ = some (.int .i64 (f i))) :
    Calls Try.prog 8 #[.slice (some ⟨b, off, none⟩) n c] w fun e w' => e = .returned (.slice (some ⟨w.heap.size, 0, none⟩) n n) ∧ w'.rowIs w.heap.size 3 n (fun i => .int .i64 (f i)) ∧ w'.heap.size = w.heap.size + 1 ∧ Below w.heap.size w w' := by
  have hq := fun w => Lib.run_eql_slice_nil (P := Try.prog) w 22 3 (some ⟨b, off, none⟩) n c 0 0 Try.underlying22
  have hmk := run_make_row' (P := Try.prog) 22 3 (.int .i64 0) 8 Try.underlying22 info3 rfl .i64 .i64 n (by omega) (by omega)
  go_enter Try.func8, Try.ntmps8
  go_wp2
  clear hq hmk
  go_loopw [4] (fun i wr => ∃ k : Nat, k ≤ n ∧ i = .int .i64 k ∧ wr.rowIs w.heap.size 3 n (fun j => if j < k then .int .i64 (f j) else .int .i64 0) ∧ wr.heap.size = w.heap.size + 1 ∧ Below w.heap.size w wr) (fun i _ => n - (intOf i).toNat)
  case atStart => exact ⟨0, Nat.zero_le _, rfl, World.rowIs_made _ _ _ _, by simp, (Below.refl _ _).alloc (Nat.le_refl _) _⟩
  case round =>
    obtain ⟨k, hk, rfl, hrow, hsz, hbel⟩ := hrel
    by_cases hlt : k < n
    · have hcx : wr.cell? ⟨b, off + k, none⟩ = some (.int .i64 (f k)) := (hbel.cell (by exact hb)).trans (hc k hlt)
      have hcy : wr.cell? ⟨w.heap.size, k, none⟩ = some (.int .i64 0) := by simpa using hrow.cell hlt
      have hfy := hrow.frozen k
      have R := hrow.set k (.int .i64 (f k))
      have R1 : wr.setCell ⟨w.heap.size, k, none⟩ (.int .i64 (f k)) |>.rowIs w.heap.size 3 n (fun j => if j < k + 1 then .int .i64 (f j) else .int .i64 0) := R.congr (fun i hi => by
        by_cases e : i = k
        · subst e; simp
        · by_cases e2 : i < k
          · simp [e, e2, Nat.lt_succ_of_lt e2]
          · have e3 : ¬ i < k + 1 := by omega
            simp [e, e2, e3])
      have H1 : Hid (wr.setCell ⟨w.heap.size, k, none⟩ (.int .i64 (f k)) |>.rowIs w.heap.size 3 n (fun j => if j < k + 1 then .int .i64 (f j) else .int .i64 0)) := R1
      clear R R1 hrow
      go_wp2
      go_roundw
      case rel => exact ⟨k + 1, by omega, by go_num, H1.out, by simpa using hsz, hbel.setCell (Nat.le_refl _) _⟩
      case measure => simp [intOf]; omega
    · have : k = n := by omega
      subst this
      go_wp2
      go_ret
      exact ⟨rfl, hrow.congr (fun i hi => by simp [hi]), hsz, hbel⟩

/-- an empty slice that is not nil -/
theorem clone8_empty (x : Addr) (c : Nat) (w : World) :
    Calls Try.prog 8 #[.slice (some x) 0 c] w fun e w' => e = .returned (.slice (some ⟨w.heap.size, 0, none⟩) 0 0) ∧ Below w.heap.size w w' := by
  have hq := fun w => Lib.run_eql_slice_nil (P := Try.prog) w 22 3 (some x) 0 c 0 0 Try.underlying22
  have hmk := run_make_row' (P := Try.prog) 22 3 (.int .i64 0) 8 Try.underlying22 info3 rfl .i64 .i64 0 (by omega) (by omega)
  simp only [Int.natCast_zero] at hmk
  go_enter Try.func8, Try.ntmps8
  go_wp2
  refine wp_loop_rounds 1 ?_
  rw [rounds_succ]
  go_wp2
  go_ret
  exact ⟨rfl, (Below.refl _ _).alloc (Nat.le_refl _) _⟩

theorem clone8_any (a : Option Addr) (len cap : Nat) (zs : List Int) (w : World) (h : IsRow .i64 w a len cap zs) (hn : len ≤ 1048576) :
    Calls Try.prog 8 #[.slice a len cap] w fun e w' => ∃ a', e = .returned (.slice a' len len) ∧ (a' = none ↔ a = none) ∧ Below w.heap.size w w' ∧
      (0 < len → a' = some ⟨w.heap.size, 0, none⟩ ∧ w'.rowIs w.heap.size 3 len (fun i => .int .i64 (zs.getD i 0)) ∧ w'.heap.size = w.heap.size + 1) := by
  rcases h with ⟨rfl, rfl, rfl, rfl⟩ | ⟨x, rfl, h2, h3, h4, h5, h6⟩
  · refine (clone8_nil w).mono ?_
    rintro e w' ⟨rfl, rfl⟩
    exact ⟨none, rfl, Iff.rfl, Below.refl _ _, fun h => absurd h (Nat.lt_irrefl _)⟩
  · by_cases hl : len = 0
    · subst hl
      refine (clone8_empty x cap w).mono ?_
      rintro e w' ⟨rfl, hb⟩
      exact ⟨_, rfl, by simp, hb, fun h => absurd h (Nat.lt_irrefl _)⟩
    · obtain ⟨b, off, spot⟩ := x
      have hspot : spot = none := by simpa [Addr.add] using World.cell?_spot (h5 0 (by omega))
      subst hspot
      have h5' : ∀ i, i < len → w.cell? ⟨b, off + i, none⟩ = some (.int .i64 (zs.getD i 0)) := fun i hi => by
        rw [← WideShapes.add_plain]
        exact h5 i (by omega)
      refine (clone8_some b off len cap (fun i => zs.getD i 0) w hn (World.block_lt_of_cell? _ _ (h5' 0 (by omega))) h5').mono ?_
      rintro e w' ⟨rfl, h7, h8, h9⟩
      exact ⟨_, rfl, by simp, h9, fun _ => ⟨rfl, h7, h8⟩⟩

/-! ### clone, function 9 -/
theorem clone9_nil (w : World) : Calls Try.prog 9 #[.slice none 0 0] w fun e w' => e = .returned (.slice none 0 0) ∧ w' = w := by
  have hq := fun w => Lib.run_eql_slice_nil (P := Try.prog) w 23 21 none 0 0 0 0 Try.underlying23
  go_enter Try.func9, Try.ntmps9
  go_wp2
  go_ret
  exact ⟨rfl, rfl⟩

theorem clone9_some (b off n c : Nat) (f : Nat → Int) (w : World) (hn : n ≤ 1048576) (hb : b < w.heap.size)
    (hc : ∀ i, i < n → w.cell? ⟨b, off + i, none⟩ = some (.int .i32 (f i))) :
    Calls Try.prog 9 #[.slice (some ⟨b, off, none⟩) n c] w fun e w' => e = .returned (.slice (some ⟨w.heap.size, 0, none⟩) n n) ∧ w'.rowIs w.heap.size 21 n (fun i => .int .i32 (f i)) ∧ w'.heap.size = w.heap.size + 1 ∧ Below w.heap.size w w' := by
  have hq := fun w => Lib.run_eql_slice_nil (P := Try.prog) w 23 21 (some ⟨b, off, none⟩) n c 0 0 Try.underlying23
  have hmk := run_make_row' (P := Try.prog) 23 21 (.int .i32 0) 4 Try.underlying23 info21 rfl .i64 .i64 n (by omega) (by omega)
  go_enter Try.func9, Try.ntmps9
  go_wp2
  clear hq hmk
  go_loopw [4] (fun i wr => ∃ k : Nat, k ≤ n ∧ i = .int .i64 k ∧ wr.rowIs w.heap.size 21 n (fun j => if j < k then .int .i32 (f j) else .int .i32 0) ∧ wr.heap.size = w.heap.size + 1 ∧ Below w.heap.size w wr) (fun i _ => n - (intOf i).toNat)
  case atStart => exact ⟨0, Nat.zero_le _, rfl, World.rowIs_made _ _ _ _, by simp, (Below.refl _ _).alloc (Nat.le_refl _) _⟩
  case round =>
    obtain ⟨k, hk, rfl, hrow, hsz, hbel⟩ := hrel
    by_cases hlt : k < n
    · have hcx : wr.cell? ⟨b, off + k, none⟩ = some (.int .i32 (f k)) := (hbel.cell (by exact hb)).trans (hc k hlt)
      have hcy : wr.cell? ⟨w.heap.size, k, none⟩ = some (.int .i32 0) := by simpa using hrow.cell hlt
      have hfy := hrow.frozen k
      have R := hrow.set k (.int .i32 (f k))
      have R1 : wr.setCell ⟨w.heap.size, k, none⟩ (.int .i32 (f k)) |>.rowIs w.heap.size 21 n (fun j => if j < k + 1 then .int .i32 (f j) else .int .i32 0) := R.congr (fun i hi => by
        by_cases e : i = k
        · subst e; simp
        · by_cases e2 : i < k
          · simp [e, e2, Nat.lt_succ_of_lt e2]
          · have e3 : ¬ i < k + 1 := by omega
            simp [e, e2, e3])
      have H1 : Hid (wr.setCell ⟨w.heap.size, k, none⟩ (.int .i32 (f k)) |>.rowIs w.heap.size 21 n (fun j => if j < k + 1 then .int .i32 (f j) else .int .i32 0)) := R1
      clear R R1 hrow
      go_wp2
      go_roundw
      case rel => exact ⟨k + 1, by omega, by go_num, H1.out, by simpa using hsz, hbel.setCell (Nat.le_refl _) _⟩
      case measure => simp [intOf]; omega
    · have : k = n := by omega
      subst this
      go_wp2
      go_ret
      exact ⟨rfl, hrow.congr (fun i hi => by simp [hi]), hsz, hbel⟩

/-- an empty slice that is not nil -/
theorem clone9_empty (x : Addr) (c : Nat) (w : World) :
    Calls Try.prog 9 #[.slice (some x) 0 c] w fun e w' => e = .returned (.slice (some ⟨w.heap.size, 0, none⟩) 0 0) ∧ Below w.heap.size w w' := by
  have hq := fun w => Lib.run_eql_slice_nil (P := Try.prog) w 23 21 (some x) 0 c 0 0 Try.underlying23
  have hmk := run_make_row' (P := Try.prog) 23 21 (.int .i32 0) 4 Try.underlying23 info21 rfl .i64 .i64 0 (by omega) (by omega)
  simp only [Int.natCast_zero] at hmk
  go_enter Try.func9, Try.ntmps9
  go_wp2
  refine wp_loop_rounds 1 ?_
  rw [rounds_succ]
  go_wp2
  go_ret
  exact ⟨rfl, (Below.refl _ _).alloc (Nat.le_refl _) _⟩

theorem clone9_any (a : Option Addr) (len cap : Nat) (zs : List Int) (w : World) (h : IsRow .i32 w a len cap zs) (hn : len ≤ 1048576) :
    Calls Try.prog 9 #[.slice a len cap] w fun e w' => ∃ a', e = .returned (.slice a' len len) ∧ (a' = none ↔ a = none) ∧ Below w.heap.size w w' ∧
      (0 < len → a' = some ⟨w.heap.size, 0, none⟩ ∧ w'.rowIs w.heap.size 21 len (fun i => .int .i32 (zs.getD i 0)) ∧ w'.heap.size = w.heap.size + 1) := by
  rcases h with ⟨rfl, rfl, rfl, rfl⟩ | ⟨x, rfl, h2, h3, h4, h5, h6⟩
  · refine (clone9_nil w).mono ?_
    rintro e w' ⟨rfl, rfl⟩
    exact ⟨none, rfl, Iff.rfl, Below.refl _ _, fun h => absurd h (Nat.lt_irrefl _)⟩
  · by_cases hl : len = 0
    · subst hl
      refine (clone9_empty x cap w).mono ?_
      rintro e w' ⟨rfl, hb⟩
      exact ⟨_, rfl, by simp, hb, fun h => absurd h (Nat.lt_irrefl _)⟩
    · obtain ⟨b, off, spot⟩ := x
      have hspot : spot = none := by simpa [Addr.add] using World.cell?_spot (h5 0 (by omega))
      subst hspot
      have h5' : ∀ i, i < len → w.cell? ⟨b, off + i, none⟩ = some (.int .i32 (zs.getD i 0)) := fun i hi => by
        rw [← WideShapes.add_plain]
        exact h5 i (by omega)
      refine (clone9_some b off len cap (fun i => zs.getD i 0) w hn (World.block_lt_of_cell? _ _ (h5' 0 (by omega))) h5').mono ?_
      rintro e w' ⟨rfl, h7, h8, h9⟩
      exact ⟨_, rfl, by simp, h9, fun _ => ⟨rfl, h7, h8⟩⟩

/-! ### clone, function 14 -/
theorem clone14_nil (w : World) : Calls Try.prog 14 #[.slice none 0 0] w fun e w' => e = .returned (.slice none 0 0) ∧ w' = w := by
  have hq := fun w => Lib.run_eql_slice_nil (P := Try.prog) w 28 39 none 0 0 0 0 Try.underlying28
  go_enter Try.func14, Try.ntmps14
  go_wp2
  go_ret
  exact ⟨rfl, rfl⟩

theorem clone14_some (b off n c : Nat) (f : Nat → Int) (w : World) (hn : n ≤ 1048576) (hb : b < w.heap.size)
    (hc : ∀ i, i < n → w.cell? ⟨b, off + i, none⟩ = some (.int .u64 (f i))) :
    Calls Try.prog 14 #[.slice (some ⟨b, off, none⟩) n c] w fun e w' => e = .returned (.slice (some ⟨w.heap.size, 0, none⟩) n n) ∧ w'.rowIs w.heap.size 39 n (fun i => .int .u64 (f i)) ∧ w'.heap.size = w.heap.size + 1 ∧ Below w.heap.size w w' := by
  have hq := fun w => Lib.run_eql_slice_nil (P := Try.prog) w 28 39 (some ⟨b, off, none⟩) n c 0 0 Try.underlying28
  have hmk := run_make_row' (P := Try.prog) 28 39 (.int .u64 0) 8 Try.underlying28 info39 rfl .i64 .i64 n (by omega) (by omega)
  go_enter Try.func14, Try.ntmps14
  go_wp2
  clear hq hmk
  go_loopw [4] (fun i wr => ∃ k : Nat, k ≤ n ∧ i = .int .i64 k ∧ wr.rowIs w.heap.size 39 n (fun j => if j < k then .int .u64 (f j) else .int .u64 0) ∧ wr.heap.size = w.heap.size + 1 ∧ Below w.heap.size w wr) (fun i _ => n - (intOf i).toNat)
  case atStart => exact ⟨0, Nat.zero_le _, rfl, World.rowIs_made _ _ _ _, by simp, (Below.refl _ _).alloc (Nat.le_refl _) _⟩
  case round =>
    obtain ⟨k, hk, rfl, hrow, hsz, hbel⟩ := hrel
    by_cases hlt : k < n
    · have hcx : wr.cell? ⟨b, off + k, none⟩ = some (.int .u64 (f k)) := (hbel.cell (by exact hb)).trans (hc k hlt)
      have hcy : wr.cell? ⟨w.heap.size, k, none⟩ = some (.int .u64 0) := by simpa using hrow.cell hlt
      have hfy := hrow.frozen k
      have R := hrow.set k (.int .u64 (f k))
      have R1 : wr.setCell ⟨w.heap.size, k, none⟩ (.int .u64 (f k)) |>.rowIs w.heap.size 39 n (fun j => if j < k + 1 then .int .u64 (f j) else .int .u64 0) := R.congr (fun i hi => by
        by_cases e : i = k
        · subst e; simp
        · by_cases e2 : i < k
          · simp [e, e2, Nat.lt_succ_of_lt e2]
          · have e3 : ¬ i < k + 1 := by omega
            simp [e, e2, e3])
      have H1 : Hid (wr.setCell ⟨w.heap.size, k, none⟩ (.int .u64 (f k)) |>.rowIs w.heap.size 39 n (fun j => if j < k + 1 then .int .u64 (f j) else .int .u64 0)) := R1
      clear R R1 hrow
      go_wp2
      go_roundw
      case rel => exact ⟨k + 1, by omega, by go_num, H1.out, by simpa using hsz, hbel.setCell (Nat.le_refl _) _⟩
      case measure => simp [intOf]; omega
    · have : k = n := by omega
      subst this
      go_wp2
      go_ret
      exact ⟨rfl, hrow.congr (fun i hi => by simp [hi]), hsz, hbel⟩

/-- an empty slice that is not nil -/
theorem clone14_empty (x : Addr) (c : Nat) (w : World) :
    Calls Try.prog 14 #[.slice (some x) 0 c] w fun e w' => e = .returned (.slice (some ⟨w.heap.size, 0, none⟩) 0 0) ∧ Below w.heap.size w w' := by
  have hq := fun w => Lib.run_eql_slice_nil (P := Try.prog) w 28 39 (some x) 0 c 0 0 Try.underlying28
  have hmk := run_make_row' (P := Try.prog) 28 39 (.int .u64 0) 8 Try.underlying28 info39 rfl .i64 .i64 0 (by omega) (by omega)
  simp only [Int.natCast_zero] at hmk
  go_enter Try.func14, Try.ntmps14
  go_wp2
  refine wp_loop_rounds 1 ?_
  rw [rounds_succ]
  go_wp2
  go_ret
  exact ⟨rfl, (Below.refl _ _).alloc (Nat.le_refl _) _⟩

theorem clone14_any (a : Option Addr) (len cap : Nat) (zs : List Int) (w : World) (h : IsRow .u64 w a len cap zs) (hn : len ≤ 1048576) :
    Calls Try.prog 14 #[.slice a len cap] w fun e w' => ∃ a', e = .returned (.slice a' len len) ∧ (a' = none ↔ a = none) ∧ Below w.heap.size w w' ∧
      (0 < len → a' = some ⟨w.heap.size, 0, none⟩ ∧ w'.rowIs w.heap.size 39 len (fun i => .int .u64 (zs.getD i 0)) ∧ w'.heap.size = w.heap.size + 1) := by
  rcases h with ⟨rfl, rfl, rfl, rfl⟩ | ⟨x, rfl, h2, h3, h4, h5, h6⟩
  · refine (clone14_nil w).mono ?_
    rintro e w' ⟨rfl, rfl⟩
    exact ⟨none, rfl, Iff.rfl, Below.refl _ _, fun h => absurd h (Nat.lt_irrefl _)⟩
  · by_cases hl : len = 0
    · subst hl
      refine (clone14_empty x cap w).mono ?_
      rintro e w' ⟨rfl, hb⟩
      exact ⟨_, rfl, by simp, hb, fun h => absurd h (Nat.lt_irrefl _)⟩
    · obtain ⟨b, off, spot⟩ := x
      have hspot : spot = none := by simpa [Addr.add] using World.cell?_spot (h5 0 (by omega))
      subst hspot
      have h5' : ∀ i, i < len → w.cell? ⟨b, off + i, none⟩ = some (.int .u64 (zs.getD i 0)) := fun i hi => by
        rw [← WideShapes.add_plain]
        exact h5 i (by omega)
      refine (clone14_some b off len cap (fun i => zs.getD i 0) w hn (World.block_lt_of_cell? _ _ (h5' 0 (by omega))) h5').mono ?_
      rintro e w' ⟨rfl, h7, h8, h9⟩
      exact ⟨_, rfl, by simp, h9, fun _ => ⟨rfl, h7, h8⟩⟩

/-! ### clone, function 22 -/
theorem clone22_nil (w : World) : Calls Try.prog 22 #[.slice none 0 0] w fun e w' => e = .returned (.slice none 0 0) ∧ w' = w := by
  have hq := fun w => Lib.run_eql_slice_nil (P := Try.prog) w 40 5 none 0 0 0 0 Try.underlying40
  go_enter Try.func22, Try.ntmps22
  go_wp2
  go_ret
  exact ⟨rfl, rfl⟩

theorem clone22_some (b off n c : Nat) (f : Nat → Int) (w : World) (hn : n ≤ 1048576) (hb : b < w.heap.size)
    (hc : ∀ i, i < n → w.cell? ⟨b, off + i, none⟩ = some (.int .u8 (f i))) :
    Calls Try.prog 22 #[.slice (some ⟨b, off, none⟩) n c] w fun e w' => e = .returned (.slice (some ⟨w.heap.size, 0, none⟩) n n) ∧ w'.rowIs w.heap.size 5 n (fun i => .int .u8 (f i)) ∧ w'.heap.size = w.heap.size + 1 ∧ Below w.heap.size w w' := by
  have hq := fun w => Lib.run_eql_slice_nil (P := Try.prog) w 40 5 (some ⟨b, off, none⟩) n c 0 0 Try.underlying40
  have hmk := run_make_row' (P := Try.prog) 40 5 (.int .u8 0) 1 Try.underlying40 info5 rfl .i64 .i64 n (by omega) (by omega)
  go_enter Try.func22, Try.ntmps22
  go_wp2
  clear hq hmk
  go_loopw [4] (fun i wr => ∃ k : Nat, k ≤ n ∧ i = .int .i64 k ∧ wr.rowIs w.heap.size 5 n (fun j => if j < k then .int .u8 (f j) else .int .u8 0) ∧ wr.heap.size = w.heap.size + 1 ∧ Below w.heap.size w wr) (fun i _ => n - (intOf i).toNat)
  case atStart => exact ⟨0, Nat.zero_le _, rfl, World.rowIs_made _ _ _ _, by simp, (Below.refl _ _).alloc (Nat.le_refl _) _⟩
  case round =>
    obtain ⟨k, hk, rfl, hrow, hsz, hbel⟩ := hrel
    by_cases hlt : k < n
    · have hcx : wr.cell? ⟨b, off + k, none⟩ = some (.int .u8 (f k)) := (hbel.cell (by exact hb)).trans (hc k hlt)
      have hcy : wr.cell? ⟨w.heap.size, k, none⟩ = some (.int .u8 0) := by simpa using hrow.cell hlt
      have hfy := hrow.frozen k
      have R := hrow.set k (.int .u8 (f k))
      have R1 : wr.setCell ⟨w.heap.size, k, none⟩ (.int .u8 (f k)) |>.rowIs w.heap.size 5 n (fun j => if j < k + 1 then .int .u8 (f j) else .int .u8 0) := R.congr (fun i hi => by
        by_cases e : i = k
        · subst e; simp
        · by_cases e2 : i < k
          · simp [e, e2, Nat.lt_succ_of_lt e2]
          · have e3 : ¬ i < k + 1 := by omega
            simp [e, e2, e3])
      have H1 : Hid (wr.setCell ⟨w.heap.size, k, none⟩ (.int .u8 (f k)) |>.rowIs w.heap.size 5 n (fun j => if j < k + 1 then .int .u8 (f j) else .int .u8 0)) := R1
      clear R R1 hrow
      go_wp2
      go_roundw
      case rel => exact ⟨k + 1, by omega, by go_num, H1.out, by simpa using hsz, hbel.setCell (Nat.le_refl _) _⟩
      case measure => simp [intOf]; omega
    · have : k = n := by omega
      subst this
      go_wp2
      go_ret
      exact ⟨rfl, hrow.congr (fun i hi => by simp [hi]), hsz, hbel⟩

/-- an empty slice that is not nil -/
theorem clone22_empty (x : Addr) (c : Nat) (w : World) :
    Calls Try.prog 22 #[.slice (some x) 0 c] w fun e w' => e = .returned (.slice (some ⟨w.heap.size, 0, none⟩) 0 0) ∧ Below w.heap.size w w' := by
  have hq := fun w => Lib.run_eql_slice_nil (P := Try.prog) w 40 5 (some x) 0 c 0 0 Try.underlying40
  have hmk := run_make_row' (P := Try.prog) 40 5 (.int .u8 0) 1 Try.underlying40 info5 rfl .i64 .i64 0 (by omega) (by omega)
  simp only [Int.natCast_zero] at hmk
  go_enter Try.func22, Try.ntmps22
  go_wp2
  refine wp_loop_rounds 1 ?_
  rw [rounds_succ]
  go_wp2
  go_ret
  exact ⟨rfl, (Below.refl _ _).alloc (Nat.le_refl _) _⟩

theorem clone22_any (a : Option Addr) (len cap : Nat) (zs : List Int) (w : World) (h : IsRow .u8 w a len cap zs) (hn : len ≤ 1048576) :
    Calls Try.prog 22 #[.slice a len cap] w fun e w' => ∃ a', e = .returned (.slice a' len len) ∧ (a' = none ↔ a = none) ∧ Below w.heap.size w w' ∧
      (0 < len → a' = some ⟨w.heap.size, 0, none⟩ ∧ w'.rowIs w.heap.size 5 len (fun i => .int .u8 (zs.getD i 0)) ∧ w'.heap.size = w.heap.size + 1) := by
  rcases h with ⟨rfl, rfl, rfl, rfl⟩ | ⟨x, rfl, h2, h3, h4, h5, h6⟩
  · refine (clone22_nil w).mono ?_
    rintro e w' ⟨rfl, rfl⟩
    exact ⟨none, rfl, Iff.rfl, Below.refl _ _, fun h => absurd h (Nat.lt_irrefl _)⟩
  · by_cases hl : len = 0
    · subst hl
      refine (clone22_empty x cap w).mono ?_
      rintro e w' ⟨rfl, hb⟩
      exact ⟨_, rfl, by simp, hb, fun h => absurd h (Nat.lt_irrefl _)⟩
    · obtain ⟨b, off, spot⟩ := x
      have hspot : spot = none := by simpa [Addr.add] using World.cell?_spot (h5 0 (by omega))
      subst hspot
      have h5' : ∀ i, i < len → w.cell? ⟨b, off + i, none⟩ = some (.int .u8 (zs.getD i 0)) := fun i hi => by
        rw [← WideShapes.add_plain]
        exact h5 i (by omega)
      refine (clone22_some b off len cap (fun i => zs.getD i 0) w hn (World.block_lt_of_cell? _ _ (h5' 0 (by omega))) h5').mono ?_
      rintro e w' ⟨rfl, h7, h8, h9⟩
      exact ⟨_, rfl, by simp, h9, fun _ => ⟨rfl, h7, h8⟩⟩
end Go.Proofs.Qxb6603909a
