import Derived.Test.Qxb6604284aSmall
import Derived.Deep.LoopGhost
import Derived.WalkSmall
namespace Go.Proofs.Qxb6604284a
open Go.RowKit

theorem hidd {p : Prop} (h : p) : Hid p := h

/-! ### zzCodeLen, function 13 -/
theorem codeLen_nil (w : World) : Calls Try.prog 13 #[.slice none 0 0] w fun e w' => e = .returned (.int .i64 0) ∧ w' = w := by
  go_enter Try.func13, Try.ntmps13
  go_wp2
  refine wp_loop_rounds 1 ?_
  rw [rounds_succ]
  go_wp2
  go_ret
  exact ⟨rfl, rfl⟩

set_option maxHeartbeats 1000000 in
theorem codeLen_some (b L : Nat) (tx : ByteArray) (w : World) (hL : tx.size = L) (hm : L ≤ 4096) (hb : Lib.Bytes w b 0 tx) (c : Nat) (hc : IsCode (tb tx) L c) :
    Calls Try.prog 13 #[.slice (some ⟨b, 0, none⟩) L L] w fun e w' => e = .returned (.int .i64 c) ∧ w' = w := by
  have hcell : ∀ i, i < L → ∃ z : Int, w.cell? ⟨b, i, none⟩ = some (.int .u8 z) ∧ Hid (z = ((tb tx i).toNat : Int)) := fun i hi => ⟨_, bytes_cell hb (by omega), rfl⟩
  clear hb
  have hL' : Hid (tx.size = L) := hL
  clear hL
  go_enter Try.func13, Try.ntmps13
  go_wp2
  go_loopw [3] (fun i wr => ∃ k : Nat, k ≤ L ∧ i = .int .i64 k ∧ (∀ j, j < k → Cap (tb tx j)) ∧ wr = w) (fun i _ => L - (intOf i).toNat)
  case atStart => exact ⟨0, Nat.zero_le _, rfl, fun j h => absurd h (by omega), rfl⟩
  case round =>
    obtain ⟨k, hk, rfl, hcap, rfl⟩ := hrel
    by_cases hlt : k < L
    · obtain ⟨z, hz, hzz⟩ := hcell k hlt
      by_cases h1 : 65 ≤ z
      · by_cases h2 : z ≤ 90
        · go_wp2
          go_roundw
          case rel =>
            refine ⟨k + 1, by omega, by go_num, fun j hj => ?_, by trivial⟩
            by_cases e : j = k
            · subst e
              have := hzz.out
              unfold Cap
              omega
            · exact hcap j (by omega)
          case measure => simp [intOf]; omega
        · have hK : IsCaps (tb tx) L k := ⟨hk, hcap, fun _ h => by have := hzz.out; unfold Cap at h; omega⟩
          by_cases h3 : z = 32
          · omega
          · have h4 : c = 0 := hc.unique ⟨k, hK, .inl ⟨hlt, by have := hzz.out; omega, rfl⟩⟩
            subst h4
            go_wp2
            go_ret
            exact ⟨rfl, rfl⟩
      · have hK : IsCaps (tb tx) L k := ⟨hk, hcap, fun _ h => by have := hzz.out; unfold Cap at h; omega⟩
        by_cases h3 : z = 32
        · have h4 : c = k := hc.unique ⟨k, hK, .inr ⟨fun _ => by have := hzz.out; omega, rfl⟩⟩
          subst h4 h3
          go_wp2
          go_ret
          exact ⟨rfl, rfl⟩
        · have h4 : c = 0 := hc.unique ⟨k, hK, .inl ⟨hlt, by have := hzz.out; omega, rfl⟩⟩
          subst h4
          go_wp2
          go_ret
          exact ⟨rfl, rfl⟩
    · have : k = L := by omega
      subst this
      have h4 : c = k := hc.unique ⟨k, ⟨hk, hcap, fun h => absurd h hlt⟩, .inr ⟨fun h => absurd h hlt, rfl⟩⟩
      subst h4
      go_wp2
      go_ret
      exact ⟨rfl, rfl⟩

/-! ### zzStretchLen, function 14 -/
theorem stretchLen (l : Nat) (w : World) : Calls Try.prog 14 #[.int .i64 l] w fun e w' => e = .returned (.int .i64 (min 4 l : Nat)) ∧ w' = w := by
  by_cases h : 4 < l
  · have : min 4 l = 4 := by omega
    rw [this]
    go_enter Try.func14, Try.ntmps14
    go_wp2
    go_ret
    exact ⟨rfl, rfl⟩
  · have : min 4 l = l := by omega
    rw [this]
    go_enter Try.func14, Try.ntmps14
    go_wp2
    go_ret
    exact ⟨rfl, rfl⟩

/-! ### zzStretchAt, function 15 -/
def Iff' (p : Prop) (e : Ending) : Prop := ∃ r, e = .returned (.bool r) ∧ (r = true ↔ p)
theorem Iff'.no {p : Prop} (h : ¬ p) : Iff' p (.returned (.bool false)) := ⟨false, rfl, by simp [h]⟩
theorem Iff'.yes {p : Prop} (h : p) : Iff' p (.returned (.bool true)) := ⟨true, rfl, by simp [h]⟩

/-- the n bytes of h at i are some n bytes of p -/
def Win (h : Nat → UInt8) (i n : Nat) (p : Nat → UInt8) (lp : Nat) : Prop := ∃ j, j + n ≤ lp ∧ ∀ k, k < n → h (i + k) = p (j + k)

/-- a byte of a string, as the walk meets it -/
def bz (s : ByteArray) (i : Nat) : Int := ((tb s i).toNat : Int)

theorem run_ix (s : ByteArray) (i : Nat) (h : i < s.size) (W : World) : (Instr.index 9 (.string s) (.int .i64 (i : Int))).run Try.prog W = .ok (.int .u8 (bz s i)) W := by
  rw [run_index_string W 9 s .i64 i Try.underlying9, dif_pos (by omega)]
  simp only [Int.toNat_natCast]
  rw [tb_get s i h]
  rfl

theorem bz_eq {s s' : ByteArray} {i j : Nat} : bz s i = bz s' j ↔ tb s i = tb s' j := by
  unfold bz
  rw [Int.ofNat_inj]
  exact UInt8.toNat_inj

set_option maxHeartbeats 1000000 in
theorem stretchAt (h pw : ByteArray) (i n : Nat) (hn : n ≤ 4) (hi : i + n ≤ h.size) (hh : h.size ≤ 16777216) (hp : pw.size ≤ 4096) (w : World) :
    Calls Try.prog 15 #[.string h, .int .i64 i, .int .i64 n, .string pw] w fun e w' => Iff' (Win (tb h) i n (tb pw) pw.size) e ∧ ∃ q, w' = w.drewN q := by
  go_enter Try.func15, Try.ntmps15
  go_wp2
  go_loopg [9] (pw.size + 1) (fun gk jv wr => ∃ j : Nat, j + gk = pw.size + 1 ∧ jv = .int .i64 j ∧ (∀ j', j' < j → ¬ ∀ k, k < n → tb h (i + k) = tb pw (j' + k)) ∧ ∃ q, wr = w.drewN q)
  case atStart => exact ⟨0, by omega, rfl, fun j h => absurd h (by omega), 0, rfl⟩
  case round =>
    obtain ⟨j, hj, rfl, hno, q, hq⟩ := hrel
    have HJ := hidd hj
    have HQ := hidd hq
    have HNO := hidd hno
    have hjb : j ≤ 4097 := by omega
    clear hj hq hno
    obtain ⟨gO, rfl⟩ : ∃ gO, gO = gk := ⟨_, rfl⟩
    by_cases hlt : j + n ≤ pw.size
    · go_wp2
      go_loopg [10] n (fun gk kv wr => ∃ k : Nat, k + gk = n ∧ kv = .int .i64 k ∧ (∀ k', k' < k → tb h (i + k') = tb pw (j + k')) ∧ ∃ q, wr = w.drewN q)
      case atStart => exact ⟨0, by omega, rfl, fun j h => absurd h (by omega), q, HQ.out⟩
      case round =>
        obtain ⟨k, hk, rfl, hyes, q', hq'⟩ := hrel
        have HK := hidd hk
        have HQ' := hidd hq'
        have HY := hidd hyes
        clear hk hq' hyes HQ
        by_cases hkn : k < n
        · have d1 : decide ((k : Int) < (n : Int)) = true := by simpa using hkn
          have x1 := run_ix h (i + k) (by omega)
          have x2 := run_ix pw (j + k) (by omega)
          rw [Int.natCast_add] at x1 x2
          by_cases he : bz h (i + k) = bz pw (j + k)
          · have d2 : (bz h (i + k) == bz pw (j + k)) = true := by simpa using he
            have HE := hidd (bz_eq.1 he)
            clear he
            go_wp2
            go_quiet (fail)
            go_wp2
            go_roundg (gk - 1)
            case measure => have := HK.out; omega
            case rel =>
              refine ⟨k + 1, by have := HK.out; omega, by go_num, fun k' hk' => ?_, ?_⟩
              · by_cases e : k' = k
                · subst e; exact HE.out
                · exact HY.out k' (by omega)
              · rw [HQ'.out]; exact ⟨_, World.drewN_drewN ..⟩
          · have d2 : (bz h (i + k) == bz pw (j + k)) = false := by simpa using he
            have HE := hidd (fun e => he (bz_eq.2 e))
            clear he
            have d3 : ((k : Int) == (n : Int)) = false := by simp; omega
            go_wp2
            go_quiet (fail)
            go_wp2
            go_roundg (gO - 1)
            case measure => have := HJ.out; omega
            case rel =>
              refine ⟨j + 1, by have := HJ.out; omega, by go_num, fun j' hj' => ?_, ?_⟩
              · by_cases e : j' = j
                · subst e; exact fun h => HE.out (h k hkn)
                · exact HNO.out j' (by omega)
              · rw [HQ'.out]; exact ⟨_, World.drewN_drewN ..⟩
        · have d1 : decide ((k : Int) < (n : Int)) = false := by simpa using hkn
          have hkk : k = n := by have := HK.out; omega
          subst hkk
          go_wp2
          go_quiet (fail)
          go_wp2
          go_ret
          refine ⟨.yes ⟨j, hlt, fun k' hk' => HY.out k' hk'⟩, ?_⟩
          rw [HQ'.out]; exact ⟨_, World.drewN_drewN ..⟩
    · go_wp2
      go_ret
      exact ⟨.no (fun ⟨j', h1, h2⟩ => HNO.out j' (by omega) h2), q, HQ.out⟩

end Go.Proofs.Qxb6604284a
