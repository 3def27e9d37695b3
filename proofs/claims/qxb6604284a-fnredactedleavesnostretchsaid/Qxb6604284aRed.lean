import Derived.Test.Qxb6604284aPlain2
import Derived.OwnWalk
namespace Go.Proofs.Qxb6604284a
open Go.RowKit Go.Maps

theorem law9 : Keyed Try.prog 9 := string_keyed Try.underlying9
theorem zero39 (w : World) : (zeroValue 39).run Try.prog w = .ok (.agg #[]) w := by kernel_rfl
theorem run_mm (h : Int) (W : World) : (Instr.makeMap 38 (some (.int .i64 h))).run Try.prog W = .ok (.map (some W.heap.size)) (W.alloc (.map #[] 0)) := by
  simp [Instr.makeMap, run_underlying Try.underlying38, asInt, asIntOf]

theorem toList_empty {s : ByteArray} (h : s.size = 0) : s.toList.isEmpty = true := by
  have : s = ⟨#[]⟩ := by
    apply ByteArray.ext
    apply Array.toList_inj.1
    exact List.eq_nil_of_length_eq_zero (by rw [data_length, h])
  rw [this]
  simp

theorem toList_nonempty {s : ByteArray} (h : 0 < s.size) : s.toList.isEmpty = false := by
  rw [List.isEmpty_eq_false_iff]
  intro e
  rw [ByteArray.toList_eq] at e
  have e1 := congrArg List.length e
  rw [data_length, List.length_nil] at e1
  omega

theorem redacted_empty (A : Option Addr) (tx pw : ByteArray) (w : World) (h : IsText w A tx) (hp : pw.size = 0) :
    Calls Try.prog 20 #[.slice A tx.size tx.size, .string pw] w fun e w' => e = .returned (.string tx) ∧ Below w.heap.size w w' := by
  have d := toList_empty hp
  have hv := conv_whole h (Below.refl _ _)
  clear hp
  go_enter Try.func20, Try.ntmps20
  go_wp2
  go_ret
  exact ⟨rfl, Below.refl _ _⟩

theorem ownsMap_below {w w' : World} {b n B : Nat} {D : DataW Unit} (h : w.ownsMap Try.prog 9 unitElem b n D) (hb : Below B w w') (hlt : b < B) : w'.ownsMap Try.prog 9 unitElem b n D := by
  obtain ⟨es, clock, h1, r⟩ := h
  exact ⟨es, clock, (hb.block b hlt).trans h1, r⟩

theorem builder_alloc {T e : TypeId} {B b : Nat} {p : Value} {bs : List Value} {w : World} (h : Lib.BuilderAt T e B b p bs w) (o : Obj) : Lib.BuilderAt T e B b p bs (w.alloc o) := by
  have hlt := h.lt
  obtain ⟨hB, v, hb, hown, hne⟩ := h
  exact ⟨hB, v, (Lib.alloc_old w o b hlt).trans hb, hown.alloc _, hne⟩

theorem run_pw (pw : ByteArray) (i n : Nat) (h : i + n ≤ pw.size) (W : World) : (Instr.slice 9 (.string pw) (some (.int .i64 (i : Int))) (some (.int .i64 ((i : Int) + (n : Int)))) none).run Try.prog W = .ok (.string (pw.extract i (i + n))) W := by
  rw [run_slice_string W 9 pw .i64 .i64 i _ Try.underlying9 (by omega) (by omega) (by omega)]
  rw [← Int.natCast_add, Int.toNat_natCast, Int.toNat_natCast]

theorem key_ex (s : ByteArray) (i n : Nat) (h : i + n ≤ s.size) (hs : s.size ≤ 4096) : keyOf Try.prog 9 (.string (s.extract i (i + n))) = some (.string (seg (tb s) i (i + n))) := by
  rw [WideMaps.keyOf_string_mk Try.underlying9 (by rw [extract_size s i (i + n) h]; unfold maxLen; omega), seg_extract s i (i + n) (by omega) h]

set_option maxHeartbeats 3200000 in
set_option maxRecDepth 100000 in
theorem redacted_some (A : Option Addr) (tx pw : ByteArray) (w : World) (h : IsText w A tx) (hL : tx.size ≤ 4096) (hp : 0 < pw.size) (hpm : pw.size ≤ 4096) (c : Nat) (hc : IsCode (tb tx) tx.size c) :
    Calls Try.prog 20 #[.slice A tx.size tx.size, .string pw] w fun e w' => e = .returned (.string ⟨(Out tx pw c).toArray⟩) ∧ Below w.heap.size w w' := by
  have d := toList_nonempty hp
  obtain ⟨n, HN⟩ : ∃ n, Hid (n = min 4 pw.size) := ⟨_, hidd rfl⟩
  have hmin : min 4 (pw.size : Int) = (n : Int) := by have := HN.out; omega
  have hn0 : 0 < n := by have := HN.out; omega
  have hn4 : n ≤ 4 := by have := HN.out; omega
  have hnp : n ≤ pw.size := by have := HN.out; omega
  have hmm := run_mm
  have hcL := hc.le
  have HT := hidd h
  have HC := hidd hc
  clear h hc
  go_enter Try.func20, Try.ntmps20
  go_wp2_with fail
  clear hmm hmin d
  go_loopg [7] (pw.size + 1) (fun gk iv wr => ∃ (i : Nat) (D : DataW Unit), i + gk = pw.size + 1 ∧ iv = .int .i64 i ∧ wr.ownsMap Try.prog 9 unitElem w.heap.size i D ∧ SetTo pw n i D ∧ Below w.heap.size w wr ∧ w.heap.size + 1 ≤ wr.heap.size)
  case atStart => exact ⟨0, .map [], by omega, rfl, World.ownsMap_made _ _ _ _, setTo_zero _ _, (Below.refl _ _).alloc (Nat.le_refl _) _, by simp⟩
  case round =>
    obtain ⟨i, D, hi, rfl, hown, hset, hbel, hsz⟩ := hrel
    have HI := hidd hi
    have HO := hidd hown
    have HS := hidd hset
    have HB := hidd hbel
    have hib : i ≤ 4097 := by omega
    clear hi hset hbel
    by_cases hlt : i + n ≤ pw.size
    · have hkey := key_ex pw i n hlt hpm
      have hsl := run_pw pw i n hlt
      generalize pw.extract i (i + n) = sx at hkey hsl
      go_wp2_with (first
        | (at_mapUpdate; refine wpList_mapUpdate_own _ rfl _ _ _ 38 rfl 9 39 law9 Try.underlying38 (unitElem (H := Unit)) w.heap.size i D rfl hown (by unfold maxLen; omega) _ _ _ rfl rfl hkey _ [] unitElem_mk ?_; intro w1 hown1 hgrow1)
        | go_in)
      go_roundg (gk - 1)
      case measure => have := HI.out; omega
      case rel => exact ⟨i + 1, _, by have := HI.out; omega, by go_num, hown1, setTo_succ HS.out hlt _ hown1.isMap, HB.out.grown hgrow1 (by omega) (fun j hj => by cases hj; exact Nat.le_refl _), by have := hgrow1.size; omega⟩
    · clear hown
      go_wp2_with fail
      refine (errorCode_any A tx.size tx w wr rfl hL HT.out HB.out c HC.out).mono ?_
      rintro e W1 ⟨⟨X, Y, rfl⟩, rfl⟩
      have hmW : w.heap.size < W1.heap.size := by omega
      go_wp2_with fail
      refine (Grow_fresh W1.heap.size W1.heap.size tx.size _ (Nat.le_refl _) (heap_alloc_new _ _) (by simp) (by omega)).mono ?_
      rintro e w2 ⟨rfl, hB2, hb2⟩
      have hX2 : Below W1.heap.size W1 w2 := ((Below.refl _ _).alloc (Nat.le_refl _) _).trans hb2
      have HB2 := hidd hB2
      have HX2 := hidd hX2
      clear hB2 hb2 hX2
      have s1 := sl_h A tx.size c hcL
      go_wp2_with fail
      clear s1
      refine (write_any W1.heap.size W1.heap.size [] (SA A tx.size 0) c tx.size (tx.extract 0 c) w2 (.inr HB2.out) (bytesIn HT.out (HB.out.trans (HX2.out.mono (by omega))) (by omega) 0 c (by omega) hcL) (by simp; omega) HX2.out.size).mono ?_
      rintro e w3 ⟨rfl, hB3, hb3⟩
      have hX3 : Below W1.heap.size W1 w3 := HX2.out.trans hb3
      have HX3 := hidd hX3
      have HB3 := hidd hB3
      clear hB3 hb3 hX3 HX2 HB2
      have HM := hidd (marks tx pw n c hn0)
      go_wp2_with fail
      go_loopg [10, 11] (tx.size + 1 - c) (fun gk tv iv wq => ∃ (i to : Nat) (out : List UInt8), i + gk = tx.size + 1 ∧ c ≤ i ∧ tv = .int .i64 to ∧ iv = .int .i64 i ∧ Inv (tb tx) (Cov tx pw n c) (Hit tx pw n c) n c i to out ∧ to ≤ tx.size ∧
        Lib.BuilderAt 42 5 W1.heap.size W1.heap.size (.pointer (some ⟨W1.heap.size, 0, none⟩)) (Lib.byteCells out) wq ∧ Below W1.heap.size W1 wq)
      case atStart =>
        refine ⟨c, c, seg (tb tx) 0 c, by omega, Nat.le_refl _, rfl, rfl, inv_start HM.out, hcL, ?_, HX3.out⟩
        rw [← seg_extract tx 0 c (by omega) hcL, ← Lib.strCells_eq]
        exact HB3.out
      case round =>
        obtain ⟨k, to, out, hk, hck, rfl, rfl, hinv, hto, hbu, hbe⟩ := hrel
        have HK := hidd hk
        have HV := hidd hinv
        have HU := hidd hbu
        have HE := hidd hbe
        have hkb : k ≤ 4097 := by omega
        have hct : c ≤ to := hinv.le
        have hol : out.length ≤ 3 * to := by
          have e1 := congrArg List.length hinv.eq
          have e2 := M_length (tb tx) (Cov tx pw n c) to
          split at e1
          · rw [List.length_append] at e1; omega
          · omega
        have hsz2 : W1.heap.size ≤ wr.heap.size := hbe.size
        clear hk hinv hbu hbe HX3 HB3
        by_cases hlt2 : k + n ≤ tx.size
        · have s1 := sl_lh A tx.size k (k + n) (by omega) hlt2
          rw [Int.natCast_add, Nat.add_sub_cancel_left] at s1
          have s2 := conv_piece HT.out (HB.out.trans (HE.out.mono (by omega))) k n hn0 hlt2
          have hkey := key_ex tx k n hlt2 hL
          have hhit := setTo_hit (c := c) HS.out (by omega) hck hlt2
          rw [seg_extract tx k (k + n) (by omega) hlt2] at hhit
          generalize tx.extract k (k + n) = sx at s2 hkey
          generalize Lit.string (seg (tb tx) k (k + n)) = kl at hkey hhit
          have hown2 := ownsMap_below HO.out HE.out hmW
          cases hh : Maps.has D kl with
          | false =>
            have HNH := hidd (show ¬ Hit tx pw n c k from fun e => by rw [hhit.2 e] at hh; cases hh)
            clear hhit
            go_wp2_with (first
              | (at_lookup; refine wpList_lookup_own_unit _ rfl _ _ 38 rfl 9 39 law9 Try.underlying38 (zero39 _) w.heap.size i D rfl hown2 _ _ rfl hkey ?_; rw [hh])
              | go_in)
            go_roundg (gk - 1)
            case measure => have := HK.out; omega
            case rel => exact ⟨k + 1, to, out, by have := HK.out; omega, by omega, rfl, by go_num, HV.out.miss HNH.out, hto, builder_alloc HU.out _, HE.out.alloc hsz2 _⟩
          | true =>
            have HNH := hidd (hhit.1 hh)
            clear hhit
            by_cases hf : to < k
            · have s3 := sl_lh A tx.size to k (by omega) (by omega)
              by_cases hcc : c < to
              · go_wp2_with (first
                  | (at_lookup; refine wpList_lookup_own_unit _ rfl _ _ 38 rfl 9 39 law9 Try.underlying38 (zero39 _) w.heap.size i D rfl hown2 _ _ rfl hkey ?_; rw [hh])
                  | (go_at_call 25; refine (writeString W1.heap.size W1.heap.size (Lib.byteCells out) ⟨#[42, 42, 42]⟩ (wr.alloc (Obj.cells #[] 39)) (.inr (builder_alloc HU.out _)) (by rw [Lib.byteCells_length]; show _ + 3 ≤ _; omega) (by simp; omega)).mono ?_)
                  | go_in)
                rintro e wa ⟨rfl, hBa, hba⟩
                have hXa : Below W1.heap.size W1 wa := (HE.out.alloc hsz2 _).trans hba
                have HBA := hidd hBa
                have HXA := hidd hXa
                have hsa := hXa.size
                clear hBa hba hXa
                go_wp2_with fail
                refine (write_any W1.heap.size W1.heap.size _ (SA A tx.size to) (k - to) (tx.size - to) (tx.extract to k) wa (.inr HBA.out) (bytesIn HT.out (HB.out.trans (HXA.out.mono (by omega))) (by omega) to k (by omega) (by omega)) (by rw [List.length_append, Lib.byteCells_length, Lib.strCells_length]; show _ + 3 + _ ≤ _; omega) hsa).mono ?_
                rintro e wb ⟨rfl, hBb, hbb⟩
                have HBB := hidd hBb
                have HXB := hidd (HXA.out.trans hbb)
                clear hBb hbb
                go_wp2
                go_roundg (gk - 1)
                case measure => have := HK.out; omega
                case rel =>
                  refine ⟨k + 1, k + n, _, by have := HK.out; omega, by omega, by go_num, by go_num, HV.out.far HM.out HNH.out hf, by omega, ?_, HXB.out⟩
                  rw [if_pos hcc, ← seg_extract tx to k (by omega) (by omega), Lib.byteCells_append, Lib.byteCells_append, ← Lib.strCells_eq]
                  exact HBB.out
              · go_wp2_with (first
                  | (at_lookup; refine wpList_lookup_own_unit _ rfl _ _ 38 rfl 9 39 law9 Try.underlying38 (zero39 _) w.heap.size i D rfl hown2 _ _ rfl hkey ?_; rw [hh])
                  | (go_at_call 24; refine (write_any W1.heap.size W1.heap.size (Lib.byteCells out) (SA A tx.size to) (k - to) (tx.size - to) (tx.extract to k) (wr.alloc (Obj.cells #[] 39)) (.inr (builder_alloc HU.out _)) (bytesIn HT.out (HB.out.trans ((HE.out.alloc hsz2 _).mono (by omega))) (by omega) to k (by omega) (by omega)) (by rw [Lib.byteCells_length]; omega) (by simp; omega)).mono ?_)
                  | go_in)
                rintro e wb ⟨rfl, hBb, hbb⟩
                have HBB := hidd hBb
                have HXB := hidd ((HE.out.alloc hsz2 (Obj.cells #[] 39)).trans hbb)
                clear hBb hbb
                go_wp2
                go_roundg (gk - 1)
                case measure => have := HK.out; omega
                case rel =>
                  refine ⟨k + 1, k + n, _, by have := HK.out; omega, by omega, by go_num, by go_num, HV.out.far HM.out HNH.out hf, by omega, ?_, HXB.out⟩
                  rw [if_neg hcc, ← seg_extract tx to k (by omega) (by omega), Lib.byteCells_append, ← Lib.strCells_eq]
                  exact HBB.out
            · go_wp2_with (first
                | (at_lookup; refine wpList_lookup_own_unit _ rfl _ _ 38 rfl 9 39 law9 Try.underlying38 (zero39 _) w.heap.size i D rfl hown2 _ _ rfl hkey ?_; rw [hh])
                | go_in)
              go_roundg (gk - 1)
              case measure => have := HK.out; omega
              case rel => exact ⟨k + 1, k + n, out, by have := HK.out; omega, by omega, by go_num, by go_num, HV.out.near HM.out HNH.out (by omega), by omega, builder_alloc HU.out _, HE.out.alloc hsz2 _⟩
        · have s4 := sl_l A tx.size to hto
          have HD := hidd (HV.out.done HM.out hto (by omega))
          by_cases hcc : c < to
          · go_wp2_with fail
            refine (writeString W1.heap.size W1.heap.size (Lib.byteCells out) ⟨#[42, 42, 42]⟩ wr (.inr HU.out) (by rw [Lib.byteCells_length]; show _ + 3 ≤ _; omega) hsz2).mono ?_
            rintro e wa ⟨rfl, hBa, hba⟩
            have hXa : Below W1.heap.size W1 wa := HE.out.trans hba
            have HBA := hidd hBa
            have HXA := hidd hXa
            have hsa := hXa.size
            clear hBa hba hXa
            go_wp2_with fail
            refine (write_any W1.heap.size W1.heap.size _ (SA A tx.size to) (tx.size - to) (tx.size - to) (tx.extract to tx.size) wa (.inr HBA.out) (bytesIn HT.out (HB.out.trans (HXA.out.mono (by omega))) (by omega) to tx.size hto (Nat.le_refl _)) (by rw [List.length_append, Lib.byteCells_length, Lib.strCells_length]; show _ + 3 + _ ≤ _; omega) hsa).mono ?_
            rintro e wb ⟨rfl, hBb, hbb⟩
            have hXb := HXA.out.trans hbb
            have HXB := hidd hXb
            have hsb := hXb.size
            have hBc : Lib.BuilderAt 42 5 W1.heap.size W1.heap.size (.pointer (some ⟨W1.heap.size, 0, none⟩)) (Lib.byteCells (Out tx pw c)) wb := by
              unfold Out
              rw [← HN.out, ← HD.out, if_pos hcc, ← seg_extract tx to tx.size hto (Nat.le_refl _), Lib.byteCells_append, Lib.byteCells_append, ← Lib.strCells_eq]
              exact hBb
            have HBC := hidd hBc
            clear hBb hbb hXb hBc
            go_wp2_with fail
            refine (string_any W1.heap.size W1.heap.size (Out tx pw c) wb hsb (.inr HBC.out)).mono ?_
            rintro e wc ⟨rfl, hbc⟩
            have HBD := hidd (HXB.out.trans hbc)
            clear hbc
            go_wp2
            go_ret
            exact ⟨rfl, HB.out.trans (HBD.out.mono (by omega))⟩
          · go_wp2_with fail
            refine (write_any W1.heap.size W1.heap.size (Lib.byteCells out) (SA A tx.size to) (tx.size - to) (tx.size - to) (tx.extract to tx.size) wr (.inr HU.out) (bytesIn HT.out (HB.out.trans (HE.out.mono (by omega))) (by omega) to tx.size hto (Nat.le_refl _)) (by rw [Lib.byteCells_length]; omega) hsz2).mono ?_
            rintro e wb ⟨rfl, hBb, hbb⟩
            have hXb := HE.out.trans hbb
            have HXB := hidd hXb
            have hsb := hXb.size
            have hBc : Lib.BuilderAt 42 5 W1.heap.size W1.heap.size (.pointer (some ⟨W1.heap.size, 0, none⟩)) (Lib.byteCells (Out tx pw c)) wb := by
              unfold Out
              rw [← HN.out, ← HD.out, if_neg hcc, ← seg_extract tx to tx.size hto (Nat.le_refl _), Lib.byteCells_append, ← Lib.strCells_eq]
              exact hBb
            have HBC := hidd hBc
            clear hBb hbb hXb hBc
            go_wp2_with fail
            refine (string_any W1.heap.size W1.heap.size (Out tx pw c) wb hsb (.inr HBC.out)).mono ?_
            rintro e wc ⟨rfl, hbc⟩
            have HBD := hidd (HXB.out.trans hbc)
            clear hbc
            go_wp2
            go_ret
            exact ⟨rfl, HB.out.trans (HBD.out.mono (by omega))⟩

end Go.Proofs.Qxb6604284a
