import Derived.Test.Qxb6604284aRows
import Derived.Shelf.Strings.Builder1
import Derived.Shelf.Strings.Builder2
import Derived.WalkKit
import Derived.WalkSpells
import Derived.WalkLawsBesides
set_option linter.unusedVariables false
namespace Go.Proofs.Qxb6604284a
open Go.Shelf Go.RowKit

/-! ### strings.Builder: the kit's shelf at this program (String, Grow and the check that every writing method calls first), and Write and WriteString walked here -/
theorem info5 : (Try.prog.info? 5).map (fun i => (i.zero, i.size, i.bytes)) = some (some (.int .u8 0), 1, 1) := by kernel_rfl

def ren26 : Go.Shelf.Ren := ⟨fun | 169 => 26 | n => n, fun | 70 => 40 | 9 => 9 | 0 => 0 | 72 => 42 | 37 => 22 | 127 => 53 | 3 => 3 | 5 => 5 | n => n, fun | n => n⟩
theorem lays26 : Go.Proofs.Lays.n169 Try.prog ren26 := {
  mixed := by kernel_rfl
  f169 := Try.func26.trans (congrArg some (by kernel_rfl))
  t0 := Try.underlying0
  a0 := Try.isAgg0
  z0 := Try.sizeOf0
  v0 := Try.zeroValue0
  t3 := Try.underlying3
  a3 := Try.isAgg3
  z3 := Try.sizeOf3
  v3 := Try.zeroValue3
  t9 := Try.underlying9
  a9 := Try.isAgg9
  z9 := Try.sizeOf9
  v9 := Try.zeroValue9
  t37 := Try.underlying22
  a37 := Try.isAgg22
  z37 := Try.sizeOf22
  v37 := Try.zeroValue22
  t70 := Try.underlying40
  a70 := Try.isAgg40
  z70 := Try.sizeOf40
  v70 := Try.zeroValue40
  t72 := Try.underlying42
  a72 := Try.isAgg42
  z72 := Try.sizeOf42
  v72 := Try.zeroValue42
  t127 := Try.underlying53
  a127 := Try.isAgg53
  z127 := Try.sizeOf53
  v127 := Try.zeroValue53 }
theorem extra26 : Builder.Extra Try.prog ren26 := {
  sizeBuilder := by kernel_rfl
  liesBuilder := by kernel_rfl
  t5 := Try.underlying5
  a5 := Try.isAgg5
  z5 := Try.sizeOf5
  v5 := Try.zeroValue5
  infoByte := by kernel_rfl
  cellsByte := by kernel_rfl
  sizeByte := by kernel_rfl
  neB5 := by decide }

theorem string_any (B b : Nat) (l : List UInt8) (w : World) (hBw : B ≤ w.heap.size) (h : Lib.IsBuilder 42 5 B b (Lib.byteCells l) w) :
    Calls Try.prog 26 #[.pointer (some ⟨b, 0, none⟩)] w fun e w' => e = .returned (.string ⟨l.toArray⟩) ∧ Below B w w' := Any.Builder_String_any lays26 extra26 B b l w h hBw

def ren23 : Go.Shelf.Ren := ⟨fun | 165 => 23 | 240 => 28 | 241 => 29 | 276 => 30 | 277 => 31 | n => n, fun | 70 => 40 | 3 => 3 | 0 => 0 | 4 => 4 | 9 => 9 | 20 => 20 | 72 => 42 | 37 => 22 | 164 => 54 | 5 => 5 | n => n, fun | n => n⟩
theorem lays23 : Go.Proofs.Lays.n165 Try.prog ren23 := {
  mixed := by kernel_rfl
  f165 := Try.func23.trans (congrArg some (by kernel_rfl))
  f240 := Try.func28.trans (congrArg some (by kernel_rfl))
  f241 := Try.func29.trans (congrArg some (by kernel_rfl))
  f276 := Try.func30.trans (congrArg some (by kernel_rfl))
  f277 := Try.func31.trans (congrArg some (by kernel_rfl))
  t0 := Try.underlying0
  a0 := Try.isAgg0
  z0 := Try.sizeOf0
  v0 := Try.zeroValue0
  t3 := Try.underlying3
  a3 := Try.isAgg3
  z3 := Try.sizeOf3
  v3 := Try.zeroValue3
  t4 := Try.underlying4
  a4 := Try.isAgg4
  z4 := Try.sizeOf4
  v4 := Try.zeroValue4
  t9 := Try.underlying9
  a9 := Try.isAgg9
  z9 := Try.sizeOf9
  v9 := Try.zeroValue9
  t20 := Try.underlying20
  a20 := Try.isAgg20
  z20 := Try.sizeOf20
  v20 := Try.zeroValue20
  t37 := Try.underlying22
  a37 := Try.isAgg22
  z37 := Try.sizeOf22
  v37 := Try.zeroValue22
  t70 := Try.underlying40
  a70 := Try.isAgg40
  z70 := Try.sizeOf40
  v70 := Try.zeroValue40
  t72 := Try.underlying42
  a72 := Try.isAgg42
  z72 := Try.sizeOf42
  v72 := Try.zeroValue42
  t164 := Try.underlying54
  a164 := Try.isAgg54
  z164 := Try.sizeOf54
  v164 := Try.zeroValue54 }
theorem extra23 : Builder.Extra Try.prog ren23 := {
  sizeBuilder := by kernel_rfl
  liesBuilder := by kernel_rfl
  t5 := Try.underlying5
  a5 := Try.isAgg5
  z5 := Try.sizeOf5
  v5 := Try.zeroValue5
  infoByte := by kernel_rfl
  cellsByte := by kernel_rfl
  sizeByte := by kernel_rfl
  neB5 := by decide }

theorem Grow_fresh (B b n : Nat) (w : World) (hB : B ≤ b) (hbk : w.heap[b]? = some (.cells #[.pointer none, .slice none 0 0] 42 (0, 0))) (hBw : B ≤ w.heap.size) (hn : n ≤ 281474976710656) :
    Calls Try.prog 23 #[.pointer (some ⟨b, 0, none⟩), .int .i64 n] w fun e w' => e = .returned (.tuple #[]) ∧ (Lib.BuilderAt 42 5 B b (.pointer (some ⟨b, 0, none⟩)) [] w' ∧ Below B w w') := Any.Builder_Grow_fresh lays23 extra23 B b n w hB hbk hBw hn

theorem lays28 : Go.Proofs.Lays.n240 Try.prog ren23 := { lays23 with }

theorem copyCheck (B b : Nat) (bs : List Value) (w : World) (h : Lib.IsBuilder 42 5 B b bs w) :
    Calls Try.prog 28 #[.pointer (some ⟨b, 0, none⟩)] w fun e w' => e = .returned (.tuple #[]) ∧ (Lib.BuilderAt 42 5 B b (.pointer (some ⟨b, 0, none⟩)) bs w' ∧ Below B w w') := Any.Builder_copyCheck lays28 extra23.toX72 B b bs w h

set_option maxHeartbeats 2000000 in
set_option maxRecDepth 100000 in
theorem writeString (B b : Nat) (bs : List Value) (s : ByteArray) (w : World) (h : Lib.IsBuilder 42 5 B b bs w) (hlen : bs.length + s.size ≤ 140737488355328) (hBw : B ≤ w.heap.size) :
    Calls Try.prog 25 #[.pointer (some ⟨b, 0, none⟩), .string s] w fun e w' => e = .returned (.tuple #[.int .i64 s.size, .nilIface]) ∧ (Lib.BuilderAt 42 5 B b (.pointer (some ⟨b, 0, none⟩)) (bs ++ Lib.strCells s) w' ∧ Below B w w') := by
  obtain ⟨i0, hi, hz0, hz1, hz2⟩ := info_parts info5
  go_enter Try.func25, Try.ntmps25
  go_wp2_with (go_at_call 28; refine (copyCheck B b bs _ h).mono ?_)
  rintro e w1 ⟨rfl, h1, hb1⟩
  obtain ⟨hB, v, hbk, hown, hne⟩ := h1
  have c0 : w1.cell? ⟨b, 0, none⟩ = some (.pointer (some ⟨b, 0, none⟩)) := by rw [Lib.cell_of_heap hbk]; rfl
  have c1 : w1.cell? ⟨b, 1, none⟩ = some v := by rw [Lib.cell_of_heap hbk]; rfl
  go_wp2_with (at_builtin; refine Lib.wpList_append_own_string _ rfl _ _ 22 9 rfl B 5 i0 Try.underlying22 Try.underlying9 hi hz0 hz1 hz2 _ _ _ rfl hown s rfl ?c3 ?c4 ?c5 ?_)
  case c3 => unfold maxLen; omega
  case c4 => omega
  case c5 => have := hb1.size; omega
  intro v' w2 hown' hgrow _
  have hlt : b < w1.heap.size := by
    rcases Nat.lt_or_ge b w1.heap.size with h' | h'
    · exact h'
    · simp [Array.getElem?_eq_none h'] at hbk
  have hb2 : w2.heap[b]? = some (.cells #[.pointer (some ⟨b, 0, none⟩), v] 42 (0, 0)) := by
    rw [hgrow.block b hlt (fun e => hne e.symm)]
    exact hbk
  have d0 : w2.cell? ⟨b, 0, none⟩ = some (.pointer (some ⟨b, 0, none⟩)) := by rw [Lib.cell_of_heap hb2]; rfl
  have d1 : w2.cell? ⟨b, 1, none⟩ = some v := by rw [Lib.cell_of_heap hb2]; rfl
  have f1 : w2.frozen? ⟨b, 1, none⟩ = false := Lib.frozen_of_heap hb2 1
  obtain ⟨ao, n', cap, rfl⟩ : ∃ ao n' cap, v' = .slice ao n' cap := by
    rcases hown'.2 with ⟨hv, _⟩ | ⟨g, cap, cur, hv, _⟩
    · exact ⟨_, _, _, hv⟩
    · exact ⟨_, _, _, hv⟩
  go_wp2
  go_ret2
  refine ⟨rfl, ?_, ?_⟩
  · exact Lib.BuilderAt.put (T := 42) (e := 5) hB hb2 (bs' := bs ++ Lib.strCells s) (by simpa [Lib.strCells_length] using hown') (by decide)
  · exact (hb1.grown hgrow (by have := hb1.size; omega) (fun k hk => (hown.lt k hk).1)).setCell (p := ⟨b, 1, none⟩) hB _

set_option maxHeartbeats 2000000 in
set_option maxRecDepth 100000 in
theorem write_some (B b : Nat) (bs : List Value) (ad : Addr) (m c : Nat) (news : List Value) (w : World) (h : Lib.IsBuilder 42 5 B b bs w)
    (hl : news.length = m) (hnews : ∀ j u, news[j]? = some u → w.cell? (ad.add j) = some u) (hadB : ad.block < B) (h1 : ∀ u ∈ news, u.oneCell' = true)
    (hlen : bs.length + m ≤ 140737488355328) (hBw : B ≤ w.heap.size) :
    Calls Try.prog 24 #[.pointer (some ⟨b, 0, none⟩), .slice (some ad) m c] w fun e w' => e = .returned (.tuple #[.int .i64 m, .nilIface]) ∧ (Lib.BuilderAt 42 5 B b (.pointer (some ⟨b, 0, none⟩)) (bs ++ news) w' ∧ Below B w w') := by
  obtain ⟨i0, hi, hz0, hz1, hz2⟩ := info_parts info5
  go_enter Try.func24, Try.ntmps24
  go_wp2_with (go_at_call 28; refine (copyCheck B b bs _ h).mono ?_)
  rintro e w1 ⟨rfl, h1', hb1⟩
  obtain ⟨hB, v, hbk, hown, hne⟩ := h1'
  have c0 : w1.cell? ⟨b, 0, none⟩ = some (.pointer (some ⟨b, 0, none⟩)) := by rw [Lib.cell_of_heap hbk]; rfl
  have c1 : w1.cell? ⟨b, 1, none⟩ = some v := by rw [Lib.cell_of_heap hbk]; rfl
  have hnews1 : ∀ j u, news[j]? = some u → w1.cell? (ad.add j) = some u := fun j u hj => by rw [hb1.cell (p := ad.add j) (by unfold Addr.add; split <;> exact hadB)]; exact hnews j u hj
  go_wp2_with (at_builtin; refine wpList_append_own _ rfl _ _ 22 rfl B 5 i0 (.int .u8 0) 1 1 Try.underlying22 hi hz0 hz1 hz2 rfl (by decide) _ _ _ rfl hown ad m c news rfl (by omega) hnews1 h1 ?c3 ?c4 ?c5 ?_)
  case c3 => unfold maxLen; omega
  case c4 => omega
  case c5 => have := hb1.size; omega
  intro v' w2 hown' hgrow _
  have hlt : b < w1.heap.size := by
    rcases Nat.lt_or_ge b w1.heap.size with h' | h'
    · exact h'
    · simp [Array.getElem?_eq_none h'] at hbk
  have hb2 : w2.heap[b]? = some (.cells #[.pointer (some ⟨b, 0, none⟩), v] 42 (0, 0)) := by
    rw [hgrow.block b hlt (fun e => hne e.symm)]
    exact hbk
  have d0 : w2.cell? ⟨b, 0, none⟩ = some (.pointer (some ⟨b, 0, none⟩)) := by rw [Lib.cell_of_heap hb2]; rfl
  have d1 : w2.cell? ⟨b, 1, none⟩ = some v := by rw [Lib.cell_of_heap hb2]; rfl
  have f1 : w2.frozen? ⟨b, 1, none⟩ = false := Lib.frozen_of_heap hb2 1
  obtain ⟨ao, n', cap, rfl⟩ : ∃ ao n' cap, v' = .slice ao n' cap := by
    rcases hown'.2 with ⟨hv, _⟩ | ⟨g, cap, cur, hv, _⟩
    · exact ⟨_, _, _, hv⟩
    · exact ⟨_, _, _, hv⟩
  go_wp2
  go_ret2
  refine ⟨rfl, ?_, ?_⟩
  · exact Lib.BuilderAt.put (T := 42) (e := 5) hB hb2 (bs' := bs ++ news) (by simpa [hl] using hown') (by decide)
  · exact (hb1.grown hgrow (by have := hb1.size; omega) (fun k hk => (hown.lt k hk).1)).setCell (p := ⟨b, 1, none⟩) hB _

end Go.Proofs.Qxb6604284a
