import Derived.Test.Qxb6604284aSmall2
namespace Go.Proofs.Qxb6604284a
open Go.RowKit

/-! ### zzHasStar, function 12 -/
theorem hasStar (s : ByteArray) (hs : s.size ≤ 4096) (w : World) :
    Calls Try.prog 12 #[.string s] w fun e w' => Iff' (∃ i, i < s.size ∧ tb s i = 42) e ∧ w' = w := by
  go_enter Try.func12, Try.ntmps12
  go_wp2
  go_loopg [3] (s.size + 1) (fun gk jv wr => ∃ j : Nat, j + gk = s.size + 1 ∧ jv = .int .i64 j ∧ (∀ j', j' < j → tb s j' ≠ 42) ∧ wr = w)
  case atStart => exact ⟨0, by omega, rfl, fun j h => absurd h (by omega), rfl⟩
  case round =>
    obtain ⟨j, hj, rfl, hno, rfl⟩ := hrel
    have HJ := hidd hj
    have HNO := hidd hno
    have hjb : j ≤ 4097 := by omega
    clear hj hno
    by_cases hlt : j < s.size
    · have x1 := run_ix s j hlt
      by_cases he : bz s j = 42
      · have d2 : (bz s j == 42) = true := by simpa using he
        have HE := hidd (show tb s j = 42 from UInt8.toNat_inj.1 (by have := he; unfold bz at this; show _ = 42; omega))
        clear he
        go_wp2
        go_ret
        exact ⟨.yes ⟨j, hlt, HE.out⟩, rfl⟩
      · have d2 : (bz s j == 42) = false := by simpa using he
        have HE := hidd (show tb s j ≠ 42 from fun e => he (by unfold bz; rw [e]; rfl))
        clear he
        go_wp2
        go_roundg (gk - 1)
        case measure => have := HJ.out; omega
        case rel =>
          refine ⟨j + 1, by have := HJ.out; omega, by go_num, fun j' hj' => ?_, by trivial⟩
          by_cases e : j' = j
          · subst e; exact HE.out
          · exact HNO.out j' (by omega)
    · go_wp2
      go_ret
      exact ⟨.no (fun ⟨i, h1, h2⟩ => HNO.out i (by omega) h2), rfl⟩

/-! ### the bound on the lengths, functions 7 and 11 -/
def AnyB (e : Ending) : Prop := ∃ r, e = .returned (.bool r)
theorem bytes7 (a : Option Addr) (n c : Nat) (s : ByteArray) (w : World) (hn : n ≤ 9223372036854775807) (hs : s.size ≤ 9223372036854775807) :
    Calls Try.prog 7 #[.slice a n c, .string s] w fun e w' => w = w' ∧ AnyB e := by
  go_enter Try.func7, Try.ntmps7
  go_wp2
  all_goals go_ret
  all_goals exact ⟨rfl, _, rfl⟩
theorem bytes11 (a : Option Addr) (n c : Nat) (s : ByteArray) (w : World) (hn : n ≤ 9223372036854775807) (hs : s.size ≤ 9223372036854775807) :
    Calls Try.prog 11 #[.slice a n c, .string s] w fun e w' => w = w' ∧ AnyB e := by
  go_enter Try.func11, Try.ntmps11
  go_wp2
  all_goals go_ret
  all_goals exact ⟨rfl, _, rfl⟩

/-! ### zzCloneBytes, function 8 -/
/-- What the walk is told of a slice of integers that came in. -/
def IsRow (k : IntKind) (w : World) (a : Option Addr) (len cap : Nat) (zs : List Int) : Prop :=
  (a = none ∧ len = 0 ∧ cap = 0 ∧ zs = []) ∨
  ∃ x, a = some x ∧ len ≤ cap ∧ cap ≤ maxLen ∧ zs.length = cap ∧ (∀ i, i < zs.length → w.cell? (x.add i) = some (.int k (zs.getD i 0))) ∧ ∀ n ∈ zs, (Lit.int k n).wf = true

/-- a text: nil, or a row of its own whose bytes are tx's -/
def IsText (w : World) (A : Option Addr) (tx : ByteArray) : Prop := (A = none ∧ tx.size = 0) ∨ ∃ b, A = some ⟨b, 0, none⟩ ∧ b < w.heap.size ∧ Lib.Bytes w b 0 tx

theorem IsText.below {w w' : World} {A : Option Addr} {tx : ByteArray} (h : IsText w A tx) (hb : Below w.heap.size w w') : IsText w' A tx := by
  rcases h with h | ⟨b, h1, h2, h3⟩
  · exact .inl h
  · exact .inr ⟨b, h1, by have := hb.size; omega, fun i hi => (hb.cell (by exact h2)).trans (h3 i hi)⟩

theorem clone8_nil (w : World) : Calls Try.prog 8 #[.slice none 0 0] w fun e w' => e = .returned (.slice none 0 0) ∧ w' = w := by
  have hq := fun w => Lib.run_eql_slice_nil (P := Try.prog) w 22 5 none 0 0 0 0 Try.underlying22
  go_enter Try.func8, Try.ntmps8
  go_wp2
  go_ret
  exact ⟨rfl, rfl⟩

theorem clone8_some (b off n c : Nat) (f : Nat → Int) (w : World) (hn : n ≤ 1048576) (hb : b < w.heap.size)
    (hc : ∀ i, i < n → w.cell? ⟨b, off + i, none⟩ = some (.int .u8 (f i))) :
    Calls Try.prog 8 #[.slice (some ⟨b, off, none⟩) n c] w fun e w' => e = .returned (.slice (some ⟨w.heap.size, 0, none⟩) n n) ∧ w'.rowIs w.heap.size 5 n (fun i => .int .u8 (f i)) ∧ w'.heap.size = w.heap.size + 1 ∧ Below w.heap.size w w' := by
  have hq := fun w => Lib.run_eql_slice_nil (P := Try.prog) w 22 5 (some ⟨b, off, none⟩) n c 0 0 Try.underlying22
  have hmk := run_make_row' (P := Try.prog) 22 5 (.int .u8 0) 1 Try.underlying22 info5 rfl .i64 .i64 n (by omega) (by omega)
  go_enter Try.func8, Try.ntmps8
  go_wp2
  clear hq hmk
  go_loopw [4] (fun i wr => ∃ k : Nat, k ≤ n ∧ i = .int .i64 k ∧ wr.rowIs w.heap.size 5 n (fun j => if j < k then .int .u8 (f j) else .int .u8 0) ∧ wr.heap.size = w.heap.size + 1 ∧ Below w.heap.size w wr) (fun i _ => n - (intOf i).toNat)
  case atStart => exact ⟨0, Nat.zero_le _, rfl, World.rowIs_made _ _ _ _, by simp, (Below.refl _ _).alloc (Nat.le_refl _) _⟩
  case round =>
    obtain ⟨k, hk, rfl, hrow, hsz, hbel⟩ := hrel
    by_cases hlt : k < n
    · have hcx : wr.cell? ⟨b, off + k, none⟩ = some (.int .u8 (f k)) := (hbel.cell (by exact hb)).trans (hc k hlt)
      have hcy : wr.cell? ⟨w.heap.size, k, none⟩ = some (.int .u8 0) := by simpa using hrow.cell hlt
      have hfy := hrow.frozen k
      have R := hrow.set k (.int .u8 (f k))
      have R1 : wr.setCell ⟨w.heap.size, k, none⟩ (.int .u8 (f k)) |>.rowIs w.heap.size 5 n (fun j => if j < k + 1 then .int .u8 (f j) else .int .u8 0) := R.congr (fun i hi => by
        by_cases e : i = k
        · subst e; simp
        · by_cases e2 : i < k
          · simp [e, e2, Nat.lt_succ_of_lt e2]
          · have e3 : ¬ i < k + 1 := by omega
            simp [e, e2, e3])
      have H1 : Hid (wr.setCell ⟨w.heap.size, k, none⟩ (.int .u8 (f k)) |>.rowIs w.heap.size 5 n (fun j => if j < k + 1 then .int .u8 (f j) else .int .u8 0)) := R1
      clear R R1 hrow
      go_wp2
      go_roundw
      case rel => exact ⟨k + 1, by omega, by go_num, H1.out, by simpa using hsz, hbel.setCell (Nat.le_refl _) _⟩
      case measure => simp [intOf]; omega
    · have : k = n := by omega
      subst this
      go_wp2
      go_ret
      exact ⟨rfl, hrow.congr (fun i hi => by simp [hi]), hsz, hbel⟩

/-- an empty slice that is not nil -/
theorem clone8_empty (x : Addr) (c : Nat) (w : World) :
    Calls Try.prog 8 #[.slice (some x) 0 c] w fun e w' => e = .returned (.slice (some ⟨w.heap.size, 0, none⟩) 0 0) ∧ w'.heap.size = w.heap.size + 1 ∧ Below w.heap.size w w' := by
  have hq := fun w => Lib.run_eql_slice_nil (P := Try.prog) w 22 5 (some x) 0 c 0 0 Try.underlying22
  have hmk := run_make_row' (P := Try.prog) 22 5 (.int .u8 0) 1 Try.underlying22 info5 rfl .i64 .i64 0 (by omega) (by omega)
  simp only [Int.natCast_zero] at hmk
  go_enter Try.func8, Try.ntmps8
  go_wp2
  refine wp_loop_rounds 1 ?_
  rw [rounds_succ]
  go_wp2
  go_ret
  exact ⟨rfl, by simp, (Below.refl _ _).alloc (Nat.le_refl _) _⟩

theorem clone8_any (a : Option Addr) (len cap : Nat) (zs : List Int) (w : World) (h : IsRow .u8 w a len cap zs) (hn : len ≤ 1048576) :
    Calls Try.prog 8 #[.slice a len cap] w fun e w' => ∃ A tx, e = .returned (.slice A len len) ∧ tx.size = len ∧ IsText w' A tx ∧ Below w.heap.size w w' := by
  rcases h with ⟨rfl, rfl, rfl, rfl⟩ | ⟨x, rfl, h2, h3, h4, h5, h6⟩
  · refine (clone8_nil w).mono ?_
    rintro e w' ⟨rfl, rfl⟩
    exact ⟨none, ByteArray.empty, rfl, rfl, .inl ⟨rfl, rfl⟩, Below.refl _ _⟩
  · by_cases hl : len = 0
    · subst hl
      refine (clone8_empty x cap w).mono ?_
      rintro e w' ⟨rfl, hs, hb⟩
      exact ⟨_, ByteArray.empty, rfl, rfl, .inr ⟨_, rfl, by omega, fun i hi => absurd hi (by simp)⟩, hb⟩
    · obtain ⟨b, off, spot⟩ := x
      have hspot : spot = none := by simpa [Addr.add] using World.cell?_spot (h5 0 (by omega))
      subst hspot
      have h5' : ∀ i, i < len → w.cell? ⟨b, off + i, none⟩ = some (.int .u8 (zs.getD i 0)) := fun i hi => by
        rw [← WideShapes.add_plain]
        exact h5 i (by omega)
      refine (clone8_some b off len cap (fun i => zs.getD i 0) w hn (World.block_lt_of_cell? _ _ (h5' 0 (by omega))) h5').mono ?_
      rintro e w' ⟨rfl, h7, h8, h9⟩
      have hlen : (zs.take len).length = len := by rw [List.length_take]; omega
      refine ⟨_, strOfNums (zs.take len), rfl, by rw [strOfNums_size, hlen], .inr ⟨_, rfl, by omega, ?_⟩, h9⟩
      refine Lib.bytes_of_nums hlen (fun y hy => ?_) (fun i hi => ?_)
      · have := h6 y (List.mem_of_mem_take hy)
        have h0 : IntKind.u8.min ≤ y ∧ y ≤ IntKind.u8.max := by simpa [Lit.wf] using this
        have e1 : IntKind.u8.min = 0 := by decide
        have e2 : IntKind.u8.max = 255 := by decide
        omega
      · rw [Nat.zero_add, h7.cell hi]
        simp [List.getD, hi]

/-! ### Write, whatever the slice -/
theorem run_app_none (base : Option Addr) (n cap ty : Nat) (h : n ≤ cap) (w : World) : (Builtin.append_ #[22, 22] ty #[.slice base n cap, .slice none 0 0]).run Try.prog w = .ok (.slice base n cap) w := by
  obtain ⟨i0, hi, hz0, hz1, hz2⟩ := info_parts info5
  cases base <;> simp [Builtin.append_, run_underlying Try.underlying22, sizeOf, typeInfo, hi, Builtin.lenOf, Builtin.firstCells, storeCells, h]

theorem wpList_app_none {ops : Array Oper} {rest : List Oper} {o : Oper} {a : Act} {Q : Exit → Act → World → Prop} (w : World) (hgd : o.guard = none) (s x : Operand)
    (ho : o.op = .call { callee := .builtin .append, args := #[s, x], argTypes := #[22, 22] }) (base : Option Addr) (n cap : Nat) (hs : a.eval s = .slice base n cap) (hx : a.eval x = .slice none 0 0) (hc : n ≤ cap)
    (h : wpList Try.prog ops Q rest (a.put o.dst (.slice base n cap)) w) : wpList Try.prog ops Q (o :: rest) a w := by
  refine wpList_plain hgd fun K hK => ?_
  have hr := run_app_none base n cap o.type hc w
  unfold Oper.wp execOp
  simp only [ho, resolve, invoke, builtin, Sem.run_bind, Sem.run_pure, Result.andThen_ok, List.map_toArray, List.map_cons, List.map_nil, hs, hx, hr]
  exact hK _ _ h

set_option maxHeartbeats 2000000 in
set_option maxRecDepth 100000 in
theorem write_nil (B b : Nat) (bs : List Value) (w : World) (h : Lib.IsBuilder 42 5 B b bs w) :
    Calls Try.prog 24 #[.pointer (some ⟨b, 0, none⟩), .slice none 0 0] w fun e w' => e = .returned (.tuple #[.int .i64 0, .nilIface]) ∧ (Lib.BuilderAt 42 5 B b (.pointer (some ⟨b, 0, none⟩)) bs w' ∧ Below B w w') := by
  go_enter Try.func24, Try.ntmps24
  go_wp2_with (go_at_call 28; refine (copyCheck B b bs _ h).mono ?_)
  rintro e w1 ⟨rfl, h1', hb1⟩
  obtain ⟨hB, v, hbk, hown, hne⟩ := h1'
  obtain ⟨ao, cap, rfl, hcap⟩ : ∃ ao cap, v = .slice ao bs.length cap ∧ bs.length ≤ cap := by
    rcases hown.2 with ⟨hv, h0⟩ | ⟨g, cap, cur, hv, _, _, h2, _⟩
    · exact ⟨none, 0, by rw [hv, h0], by omega⟩
    · exact ⟨_, _, hv, h2⟩
  have c0 : w1.cell? ⟨b, 0, none⟩ = some (.pointer (some ⟨b, 0, none⟩)) := by rw [Lib.cell_of_heap hbk]; rfl
  have c1 : w1.cell? ⟨b, 1, none⟩ = some (.slice ao bs.length cap) := by rw [Lib.cell_of_heap hbk]; rfl
  have f1 : w1.frozen? ⟨b, 1, none⟩ = false := Lib.frozen_of_heap hbk 1
  go_wp2_with (at_builtin; refine wpList_app_none _ rfl _ _ rfl ao bs.length cap rfl rfl hcap ?_)
  go_wp2
  go_ret2
  refine ⟨rfl, ?_, ?_⟩
  · exact Lib.BuilderAt.put (T := 42) (e := 5) hB hbk (bs' := bs) hown (by decide)
  · exact hb1.setCell (p := ⟨b, 1, none⟩) hB _

/-- the bytes that a slice holds -/
def BytesIn (B : Nat) (w : World) (p : Option Addr) (m c : Nat) (s : ByteArray) : Prop := s.size = m ∧ ((p = none ∧ m = 0 ∧ c = 0) ∨ ∃ b o, p = some ⟨b, o, none⟩ ∧ b < B ∧ Lib.Bytes w b o s)

theorem write_any (B b : Nat) (bs : List Value) (p : Option Addr) (m c : Nat) (s : ByteArray) (w : World) (h : Lib.IsBuilder 42 5 B b bs w)
    (hs : BytesIn B w p m c s) (hlen : bs.length + m ≤ 140737488355328) (hBw : B ≤ w.heap.size) :
    Calls Try.prog 24 #[.pointer (some ⟨b, 0, none⟩), .slice p m c] w fun e w' => e = .returned (.tuple #[.int .i64 m, .nilIface]) ∧ (Lib.BuilderAt 42 5 B b (.pointer (some ⟨b, 0, none⟩)) (bs ++ Lib.strCells s) w' ∧ Below B w w') := by
  obtain ⟨hsz, ⟨rfl, rfl, rfl⟩ | ⟨b', o, rfl, hlt, hby⟩⟩ := hs
  · have : Lib.strCells s = [] := List.eq_nil_of_length_eq_zero (by rw [Lib.strCells_length, hsz])
    rw [this, List.append_nil]
    exact write_nil B b bs w h
  · refine write_some B b bs ⟨b', o, none⟩ m c (Lib.strCells s) w h (by rw [Lib.strCells_length, hsz]) (fun j u hj => ?_) hlt (Lib.strCells_oneCell s) hlen hBw
    have hj' : j < s.size := by
      have := (List.getElem?_eq_some_iff.1 hj).1
      rwa [Lib.strCells_length] at this
    rw [WideShapes.add_plain, hby j hj', ← hj]
    simp [Lib.strCells, byte_at s j hj']

end Go.Proofs.Qxb6604284a
