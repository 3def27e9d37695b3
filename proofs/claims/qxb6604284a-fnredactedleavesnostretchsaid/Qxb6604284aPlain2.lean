import Derived.Test.Qxb6604284aPlain
import Derived.Test.Qxb6604284aSmall3
import Derived.Maps.OwnSet
import Derived.StringKeys
import Derived.Lib.BufferRead
namespace Go.Proofs.Qxb6604284a
open Go.RowKit Go.Maps

/-- a window of the text that is a window of the password -/
def Hit (tx pw : ByteArray) (n c : Nat) (i : Nat) : Prop := c ≤ i ∧ i + n ≤ tx.size ∧ Win (tb tx) i n (tb pw) pw.size

def winB (h : Nat → UInt8) (i n : Nat) (p : Nat → UInt8) (lp : Nat) : Bool := (List.range (lp + 1)).any fun j => decide (j + n ≤ lp) && (List.range n).all fun k => h (i + k) == p (j + k)

theorem winB_iff {h : Nat → UInt8} {i n : Nat} {p : Nat → UInt8} {lp : Nat} : winB h i n p lp = true ↔ Win h i n p lp := by
  unfold winB Win
  rw [List.any_eq_true]
  constructor
  · rintro ⟨j, _, h2⟩
    rw [Bool.and_eq_true, decide_eq_true_iff, List.all_eq_true] at h2
    exact ⟨j, h2.1, fun k hk => by have := h2.2 k (List.mem_range.2 hk); simpa using this⟩
  · rintro ⟨j, h1, h2⟩
    refine ⟨j, List.mem_range.2 (by omega), ?_⟩
    rw [Bool.and_eq_true, decide_eq_true_iff, List.all_eq_true]
    exact ⟨h1, fun k hk => by have := h2 k (List.mem_range.1 hk); simpa using this⟩

def hitB (tx pw : ByteArray) (n c i : Nat) : Bool := decide (c ≤ i ∧ i + n ≤ tx.size) && winB (tb tx) i n (tb pw) pw.size

theorem hitB_iff {tx pw : ByteArray} {n c i : Nat} : hitB tx pw n c i = true ↔ Hit tx pw n c i := by
  unfold hitB Hit
  rw [Bool.and_eq_true, decide_eq_true_iff, winB_iff, and_assoc]

/-- the bytes marked by the windows below m -/
def CovTo (tx pw : ByteArray) (n c m p : Nat) : Bool := (List.range m).any fun i => hitB tx pw n c i && decide (i ≤ p ∧ p < i + n)

theorem covTo_iff {tx pw : ByteArray} {n c m p : Nat} : CovTo tx pw n c m p = true ↔ ∃ i, i < m ∧ Hit tx pw n c i ∧ i ≤ p ∧ p < i + n := by
  unfold CovTo
  rw [List.any_eq_true]
  constructor
  · rintro ⟨i, h1, h2⟩
    rw [Bool.and_eq_true, decide_eq_true_iff, hitB_iff] at h2
    exact ⟨i, List.mem_range.1 h1, h2.1, h2.2⟩
  · rintro ⟨i, h1, h2, h3⟩
    refine ⟨i, List.mem_range.2 h1, ?_⟩
    rw [Bool.and_eq_true, decide_eq_true_iff, hitB_iff]
    exact ⟨h2, h3⟩

/-- the bytes that are masked -/
def Cov (tx pw : ByteArray) (n c : Nat) (p : Nat) : Bool := CovTo tx pw n c (p + 1) p

theorem cov_iff {tx pw : ByteArray} {n c p : Nat} : Cov tx pw n c p = true ↔ ∃ i, Hit tx pw n c i ∧ i ≤ p ∧ p < i + n := by
  unfold Cov
  rw [covTo_iff]
  constructor
  · rintro ⟨i, _, h⟩; exact ⟨i, h⟩
  · rintro ⟨i, h1, h2, h3⟩; exact ⟨i, by omega, h1, h2, h3⟩

theorem marks (tx pw : ByteArray) (n c : Nat) (hn : 0 < n) : Marks (Cov tx pw n c) (Hit tx pw n c) n c tx.size :=
  ⟨hn, fun _ => cov_iff, fun _ h => ⟨h.1, h.2.1⟩⟩

/-- what redacted answers -/
def Out (tx pw : ByteArray) (c : Nat) : List UInt8 := M (tb tx) (Cov tx pw (min 4 pw.size) c) tx.size

theorem M_length (t : Nat → UInt8) (cov : Nat → Bool) (p : Nat) : (M t cov p).length ≤ 3 * p := by
  induction p with
  | zero => simp [M]
  | succ p ih =>
    unfold M
    split
    · split
      · rw [List.length_append]; simp only [List.length_cons, List.length_nil]; omega
      · omega
    · rw [List.length_append]; simp only [List.length_cons, List.length_nil]; omega

theorem data_length (s : ByteArray) : s.data.toList.length = s.size := by simp

theorem ext_data (s : ByteArray) (a b : Nat) : (s.extract a b).data.toList = (s.data.toList.drop a).take (b - a) := by
  rw [ByteArray.data_extract]
  simp

theorem seg_extract (s : ByteArray) (a b : Nat) (h1 : a ≤ b) (h2 : b ≤ s.size) : (s.extract a b).data.toList = seg (tb s) a b := by
  rw [ext_data]
  unfold seg
  apply List.ext_getElem?
  intro i
  by_cases hi : i < b - a
  · rw [List.getElem?_take_of_lt hi, List.getElem?_drop, List.getElem?_map, List.getElem?_range hi]
    have h3 : a + i < s.data.toList.length := by rw [data_length]; omega
    simp only [Option.map_some]
    unfold tb
    rw [List.getD, List.getElem?_eq_getElem h3]
    rfl
  · rw [List.getElem?_eq_none (by rw [List.length_take]; omega), List.getElem?_eq_none (by simp; omega)]

theorem extract_size (s : ByteArray) (a b : Nat) (h2 : b ≤ s.size) : (s.extract a b).size = b - a := by
  rw [← data_length, ext_data, List.length_take, List.length_drop, data_length]; omega

theorem seg_eq {t p : Nat → UInt8} {i j n : Nat} : seg t i (i + n) = seg p j (j + n) ↔ ∀ k, k < n → t (i + k) = p (j + k) := by
  unfold seg
  rw [Nat.add_sub_cancel_left, Nat.add_sub_cancel_left]
  constructor
  · intro h k hk
    have := congrArg (fun l : List UInt8 => l[k]?) h
    simpa [hk] using this
  · intro h
    exact List.map_congr_left fun k hk => h k (List.mem_range.1 hk)

/-- the set holds the password's windows below i -/
def SetTo (pw : ByteArray) (n i : Nat) (D : DataW Unit) : Prop := IsMap D ∧ ∀ l : List UInt8, Maps.has D (.string l) = true ↔ ∃ j, j < i ∧ j + n ≤ pw.size ∧ l = seg (tb pw) j (j + n)

theorem setTo_zero (pw : ByteArray) (n : Nat) : SetTo pw n 0 (.map []) := ⟨⟨_, rfl⟩, fun l => by
  rw [has_eq]
  constructor
  · intro h; simp at h
  · rintro ⟨j, h, _⟩; omega⟩

theorem setTo_succ {pw : ByteArray} {n i : Nat} {D : DataW Unit} (h : SetTo pw n i D) (hi : i + n ≤ pw.size) (d : DataW Unit) (hD : IsMap (D.put (.string (seg (tb pw) i (i + n))) d)) : SetTo pw n (i + 1) (D.put (.string (seg (tb pw) i (i + n))) d) := by
  refine ⟨hD, fun l => ?_⟩
  by_cases e : l = seg (tb pw) i (i + n)
  · subst e
    rw [has_put_same h.1 (by trivial)]
    exact ⟨fun _ => ⟨i, by omega, hi, rfl⟩, fun _ => rfl⟩
  · rw [has_put_other (by intro h'; exact e (by injection h')), h.2 l]
    constructor
    · rintro ⟨j, h1, h2⟩; exact ⟨j, by omega, h2⟩
    · rintro ⟨j, h1, h2, h3⟩
      refine ⟨j, ?_, h2, h3⟩
      rcases Nat.lt_or_ge j i with h4 | h4
      · exact h4
      · obtain rfl : j = i := by omega
        exact absurd h3 e

theorem setTo_hit {tx pw : ByteArray} {n i c m : Nat} {D : DataW Unit} (h : SetTo pw n m D) (hm : pw.size < m + n) (hc : c ≤ i) (hi : i + n ≤ tx.size) :
    Maps.has D (.string (tx.extract i (i + n)).data.toList) = true ↔ Hit tx pw n c i := by
  rw [seg_extract tx i (i + n) (by omega) hi, h.2]
  constructor
  · rintro ⟨j, h1, h2, h3⟩
    exact ⟨hc, hi, j, h2, seg_eq.1 h3⟩
  · rintro ⟨_, _, j, h2, h3⟩
    exact ⟨j, by omega, h2, seg_eq.2 h3⟩

/-! ### pieces of the text -/
def SA (A : Option Addr) (L l : Nat) : Option Addr := if L = l then A else A.map (·.add (l * 1))

theorem size5' (w : World) : (Go.sizeOf 5).run Try.prog w = .ok 1 w := by kernel_rfl

theorem elem22 : Try.prog.elem 22 = 5 := by simp [Program.elem, Try.underlying22]
theorem under22 : Try.prog.underlying 22 = some (.slice (Try.prog.elem 22)) := by rw [elem22]; exact Try.underlying22

theorem sl_lh (A : Option Addr) (L l h : Nat) (h1 : l ≤ h) (h2 : h ≤ L) (W : World) :
    (Instr.slice 22 (.slice A L L) (some (.int .i64 (l : Int))) (some (.int .i64 (h : Int))) none).run Try.prog W = .ok (.slice (SA A L l) (h - l) (L - l)) W := by
  rw [run_slice_lh W 22 A L L under22 .i64 .i64 l h (by omega) (by omega) (by omega), elem22, size5']
  rfl

theorem sl_h (A : Option Addr) (L h : Nat) (h2 : h ≤ L) (W : World) :
    (Instr.slice 22 (.slice A L L) none (some (.int .i64 (h : Int))) none).run Try.prog W = .ok (.slice (SA A L 0) h L) W := by
  rw [run_slice_h W 22 A L L under22 .i64 h (by omega) (by omega), elem22, size5']
  rfl

theorem sl_l (A : Option Addr) (L l : Nat) (h1 : l ≤ L) (W : World) :
    (Instr.slice 22 (.slice A L L) (some (.int .i64 (l : Int))) none none).run Try.prog W = .ok (.slice (SA A L l) (L - l) (L - l)) W := by
  rw [run_slice_l W 22 A L L under22 .i64 l (by omega) (by omega), elem22, size5']
  rfl

theorem bytesIn {w W : World} {B : Nat} {A : Option Addr} {tx : ByteArray} (h : IsText w A tx) (hb : Below w.heap.size w W) (hB : w.heap.size ≤ B) (l h' : Nat) (h1 : l ≤ h') (h2 : h' ≤ tx.size) :
    BytesIn B W (SA A tx.size l) (h' - l) (tx.size - l) (tx.extract l h') := by
  refine ⟨extract_size tx l h' h2, ?_⟩
  rcases h with ⟨rfl, h0⟩ | ⟨b, rfl, hlt, hby⟩
  · left
    refine ⟨?_, by omega, by omega⟩
    unfold SA
    split <;> rfl
  · right
    have hby' : ∀ i (hi : i < tx.size), W.cell? ⟨b, 0 + i, none⟩ = some (.int .u8 (tx[i].toNat : Int)) := fun i hi => (hb.cell (by exact hlt)).trans (hby i hi)
    unfold SA
    by_cases e : tx.size = l
    · rw [if_pos e]
      refine ⟨b, 0, rfl, by omega, fun i hi => ?_⟩
      rw [extract_size tx l h' h2] at hi
      omega
    · rw [if_neg e]
      refine ⟨b, l, by simp [Addr.add]; omega, by omega, fun i hi => ?_⟩
      have hi' := hi
      rw [extract_size tx l h' h2] at hi'
      have := hby' (l + i) (by omega)
      rw [Nat.zero_add] at this
      rw [this]
      congr 3
      rw [ByteArray.getElem_extract]

theorem conv_piece {w W : World} {A : Option Addr} {tx : ByteArray} (h : IsText w A tx) (hb : Below w.heap.size w W) (l n : Nat) (h1 : 0 < n) (h2 : l + n ≤ tx.size) :
    (convert 22 9 (.slice (SA A tx.size l) n (tx.size - l))).run Try.prog W = .ok (.string (tx.extract l (l + n))) W := by
  rcases h with ⟨rfl, h0⟩ | ⟨b, rfl, hlt, hby⟩
  · omega
  · have hby' : Lib.Bytes W b 0 tx := fun i hi => (hb.cell (by exact hlt)).trans (hby i hi)
    have e : SA (some ⟨b, 0, none⟩) tx.size l = some ⟨b, 0 + l, none⟩ := by
      unfold SA
      rw [if_neg (by omega)]
      simp [Addr.add]
      omega
    rw [e]
    exact Lib.run_convert_window W 22 5 9 Try.underlying22 Try.underlying5 Try.underlying9 b 0 tx hby' l n _ h2

theorem conv_whole {w W : World} {A : Option Addr} {tx : ByteArray} (h : IsText w A tx) (hb : Below w.heap.size w W) :
    (convert 22 9 (.slice A tx.size tx.size)).run Try.prog W = .ok (.string tx) W := by
  rcases h with ⟨rfl, h0⟩ | ⟨b, rfl, hlt, hby⟩
  · have : tx = ByteArray.empty := by
      apply ByteArray.ext
      apply Array.toList_inj.1
      exact List.eq_nil_of_length_eq_zero (by rw [data_length, h0])
    subst this
    exact Lib.run_convert_nil_bytes W 22 9 5 _ Try.underlying22 Try.underlying5 Try.underlying9
  · have hby' : Lib.Bytes W b 0 tx := fun i hi => (hb.cell (by exact hlt)).trans (hby i hi)
    exact Lib.run_convert_whole W 22 5 9 Try.underlying22 Try.underlying5 Try.underlying9 b 0 tx hby' _

theorem errorCode_any (A : Option Addr) (L : Nat) (tx : ByteArray) (w W : World) (hL : tx.size = L) (hm : L ≤ 4096) (h : IsText w A tx) (hb : Below w.heap.size w W) (c : Nat) (hc : IsCode (tb tx) L c) :
    Calls Try.prog 22 #[.slice A L L] W fun e w' => (∃ X Y, e = .returned (.slice X c Y)) ∧ w' = W := by
  rcases h with ⟨rfl, h0⟩ | ⟨b, rfl, hlt, hby⟩
  · obtain rfl : L = 0 := by omega
    obtain rfl := code_nil hc
    exact errorCode_nil W
  · exact errorCode_some b L tx W hL hm (fun i hi => (hb.cell (by exact hlt)).trans (hby i hi)) c hc

theorem codeLen_any (A : Option Addr) (L : Nat) (tx : ByteArray) (w W : World) (hL : tx.size = L) (hm : L ≤ 4096) (h : IsText w A tx) (hb : Below w.heap.size w W) (c : Nat) (hc : IsCode (tb tx) L c) :
    Calls Try.prog 13 #[.slice A L L] W fun e w' => e = .returned (.int .i64 c) ∧ w' = W := by
  rcases h with ⟨rfl, h0⟩ | ⟨b, rfl, hlt, hby⟩
  · obtain rfl : L = 0 := by omega
    obtain rfl := code_nil hc
    exact codeLen_nil W
  · exact codeLen_some b L tx W hL hm (fun i hi => (hb.cell (by exact hlt)).trans (hby i hi)) c hc

end Go.Proofs.Qxb6604284a
