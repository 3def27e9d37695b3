import Derived.Test.Qxb6604791aCmp
import Derived.Lib.RabinKarpLaws
import Derived.Lib.SlBytesRow
import Derived.OwnWalk
import Derived.Maps.AppendAt
import Derived.Laws.MakeOwn
import Derived.Laws.AppendOwn
namespace Go.Proofs.Qxb6604791a
open Go.RowKit

/-- a string's byte as a number, 0 behind its end -/
def bz (s : ByteArray) (i : Nat) : Int := ((s.data.toList.getD i 0).toNat : Int)

theorem bz_get (s : ByteArray) (i : Nat) (h : i < s.size) : ((s[i].toNat : Nat) : Int) = bz s i := by
  have := byte_at s i h
  unfold bz
  rw [List.getD, this]
  rfl

theorem bz_range (s : ByteArray) (i : Nat) : 0 ≤ bz s i ∧ bz s i ≤ 255 := by
  unfold bz
  have := UInt8.toNat_lt (s.data.toList.getD i 0)
  omega

theorem run_ix (s : ByteArray) (i : Nat) (h : i < s.size) (W : World) : (Instr.index 9 (.string s) (.int .i64 (i : Int))).run Try.prog W = .ok (.int .u8 (bz s i)) W := by
  rw [run_index_string W 9 s .i64 i Try.underlying9, dif_pos (by omega)]
  simp only [Int.toNat_natCast]
  rw [bz_get s i h]

/-- the code of a field's first i bytes -/
def encTo (s : ByteArray) (i : Nat) : List Int := (List.range i).map fun k => bz s k + 1
/-- the code of a field -/
def enc (s : ByteArray) : List Int := encTo s s.size ++ [0]

theorem encTo_succ (s : ByteArray) (i : Nat) : encTo s (i + 1) = encTo s i ++ [bz s i + 1] := by
  unfold encTo
  rw [List.range_succ]
  simp
theorem encTo_length (s : ByteArray) (i : Nat) : (encTo s i).length = i := by simp [encTo]
theorem enc_length (s : ByteArray) : (enc s).length = s.size + 1 := by simp [enc, encTo_length]

def u16s (l : List Int) : List Value := l.map (Value.int .u16)
theorem u16s_length (l : List Int) : (u16s l).length = l.length := by simp [u16s]
theorem u16s_append (a b : List Int) : u16s (a ++ b) = u16s a ++ u16s b := by simp [u16s]

theorem info51 : (Try.prog.info? 51).map (fun i => (i.zero, i.size, i.bytes)) = some (some (.int .u16 0), 1, 2) := by kernel_rfl

theorem wrap16 {x : Int} (h0 : 0 ≤ x) (h1 : x ≤ 65535) : IntKind.u16.wrap x = x := by
  have e : IntKind.u16.wrap x = x % 65536 := by
    unfold IntKind.wrap
    simp [IntKind.bits, IntKind.signed]
  rw [e]
  omega

set_option maxHeartbeats 1000000 in
set_option maxRecDepth 100000 in
theorem encodeField (B : Nat) (v : Value) (l : List Int) (s : ByteArray) (w : World) (hown : w.ownsRow B 51 1 v l.length (u16s l)) (hB : B ≤ w.heap.size) (hl : l.length ≤ 1048576) (hs : s.size ≤ 131072) :
    Calls Try.prog 35 #[v, .string s] w fun e w' => ∃ v', e = .returned v' ∧ w'.ownsRow B 51 1 v' (l ++ enc s).length (u16s (l ++ enc s)) ∧ Below B w w' := by
  obtain ⟨i0, hi0, hz0, hz1, hz2⟩ := info_parts info51
  have HI0 := hidd hi0
  have HZ0 := hidd hz0
  have HZ1 := hidd hz1
  have HZ2 := hidd hz2
  have HO0 := hidd hown
  clear hi0 hz0 hz1 hz2 hown
  go_enter Try.func35, Try.ntmps35
  go_wp2_with fail
  go_loopg [0, 5] s.size (fun gk ev iv wr => ∃ i : Nat, i + gk = s.size ∧ iv = .int .i64 i ∧ wr.ownsRow B 51 1 ev (l ++ encTo s i).length (u16s (l ++ encTo s i)) ∧ Below B w wr)
  case atStart =>
    refine ⟨0, by omega, rfl, ?_, Below.refl _ _⟩
    have e : l ++ encTo s 0 = l := by simp [encTo]
    rw [e]
    exact HO0.out
  case round =>
    clear HO0
    obtain ⟨i, hi, rfl, hown, hbel⟩ := hrel
    have HI := hidd hi
    have HO := hidd hown
    have HB := hidd hbel
    have hib : i ≤ s.size := by omega
    have hsz := Nat.le_trans hB hbel.size
    have hlen : (l ++ encTo s i).length = l.length + i := by rw [List.length_append, encTo_length]
    have HLEN := hidd hlen
    clear hi hown hbel hlen
    by_cases hlt : i < s.size
    · have hix := run_ix s i hlt
      have hr := bz_range s i
      have hw1 : IntKind.u16.wrap (bz s i) = bz s i := wrap16 (by omega) (by omega)
      have hw2 : IntKind.u16.wrap (bz s i + 1) = bz s i + 1 := wrap16 (by omega) (by omega)
      have hi0 := HI0.out
      have hz0 := HZ0.out
      have hz1 := HZ1.out
      have hz2 := HZ2.out
      go_wp2_with (first
        | (at_builtin; refine wpList_append_own _ rfl _ _ 40 rfl B 51 i0 (.int .u16 0) 1 2 Try.underlying40 hi0 hz0 hz1 hz2 rfl (by decide) _ _ _ rfl (HO.out.alloc _) ⟨wr.heap.size, 0, none⟩ 1 1 [.int .u16 (bz s i + 1)] rfl rfl (cell_one_new _ _ _) (ints_oneCell .u16 [bz s i + 1]) (by have := HLEN.out; unfold maxLen; omega) (by have := HLEN.out; omega) (by simp; omega) ?_; intro v' w2 hown' hgrow2 hnil2)
        | go_in)
      have HO2 := hidd hown'
      have HG2 := hidd ((HB.out.alloc hsz _).grown hgrow2 (by simp; omega) (fun j hj => (HO.out.lt j hj).1))
      clear hown' hgrow2 hnil2
      go_wp2
      go_roundg (gk - 1)
      case measure => have := HI.out; omega
      case rel =>
        refine ⟨i + 1, by have := HI.out; omega, by go_num, ?_, HG2.out⟩
        rw [encTo_succ, ← List.append_assoc, u16s_append, List.length_append]
        exact HO2.out
    · have hii : i = s.size := by omega
      have HII := hidd hii
      have hi0 := HI0.out
      have hz0 := HZ0.out
      have hz1 := HZ1.out
      have hz2 := HZ2.out
      clear hii
      go_wp2_with (first
        | (at_builtin; refine wpList_append_own _ rfl _ _ 40 rfl B 51 i0 (.int .u16 0) 1 2 Try.underlying40 hi0 hz0 hz1 hz2 rfl (by decide) _ _ _ rfl (HO.out.alloc _) ⟨wr.heap.size, 0, none⟩ 1 1 [.int .u16 0] rfl rfl (cell_one_new _ _ _) (ints_oneCell .u16 [0]) (by have := HLEN.out; unfold maxLen; omega) (by have := HLEN.out; omega) (by simp; omega) ?_; intro v' w2 hown' hgrow2 hnil2)
        | go_in)
      have HO2 := hidd hown'
      have HG2 := hidd ((HB.out.alloc hsz _).grown hgrow2 (by simp; omega) (fun j hj => (HO.out.lt j hj).1))
      clear hown' hgrow2 hnil2
      go_wp2
      go_ret
      refine ⟨_, rfl, ?_, HG2.out⟩
      unfold enc
      rw [← List.append_assoc, u16s_append, List.length_append, ← HII.out]
      exact HO2.out

end Go.Proofs.Qxb6604791a
