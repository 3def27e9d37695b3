import Derived.Test.Qxb6600446aApart
import Derived.OpenShut
import Derived.ProofKit
namespace Go.Proofs.Qxb6600446a
open Go.RowKit

/-- an array of 256 words -/
def IsArr (cs : Array Value) (F : Nat → Nat) : Prop := cs.size = 256 ∧ ∀ i, i < 256 → cs[i]? = some (.int .u64 (F i : Int)) ∧ F i < 18446744073709551616

theorem zzApart (b1 b2 : Nat) (F L : Nat → Nat) (w : World) (hF : Words w b1 F) (hL : Words w b2 L) :
    Calls Try.prog 25 #[.pointer (some ⟨b1, 0, none⟩), .pointer (some ⟨b2, 0, none⟩)] w fun e w' => e = .returned (.bool (scan (fb F) (fb L) 16384).isSome) ∧ ∃ q, w' = w.drewN q := by
  go_enter Try.func25, Try.ntmps25
  go_wp2_with fail
  refine (apart33 b1 b2 F L w hF hL).mono ?_
  rintro e w' ⟨rfl, hq⟩
  go_wp2
  go_ret
  exact ⟨rfl, hq⟩

theorem two_boxes (w : World) (cs ds : Array Value) (F L : Nat → Nat) (hc : IsArr cs F) (hd : IsArr ds L) :
    ∃ W, W = (w.alloc (.cells cs 42)).alloc (.cells ds 42) ∧ Words W w.heap.size F ∧ Words W (w.heap.size + 1) L ∧ Below w.heap.size w W := by
  refine ⟨_, rfl, fun i hi => ⟨?_, (hc.2 i hi).2⟩, fun i hi => ⟨?_, (hd.2 i hi).2⟩, ((Below.refl _ _).alloc (Nat.le_refl _) _).alloc (by simp) _⟩
  · have h : ((w.alloc (.cells cs 42)).alloc (.cells ds 42)).heap[w.heap.size]? = some (.cells cs 42 (0, 0)) := by
      rw [Below.heap_alloc _ _ _ (by simp)]
      exact heap_alloc_new w _
    simp only [World.cell?, h]
    exact (hc.2 i hi).1
  · have h : ((w.alloc (.cells cs 42)).alloc (.cells ds 42)).heap[w.heap.size + 1]? = some (.cells ds 42 (0, 0)) := by
      have := heap_alloc_new (w.alloc (.cells cs 42)) (.cells ds 42)
      simpa using this
    simp only [World.cell?, h]
    exact (hd.2 i hi).1

set_option maxRecDepth 100000 in
theorem law_walk (cs ds : Array Value) (F L : Nat → Nat) (w : World) (hc : IsArr cs F) (hd : IsArr ds L) :
    Calls Try.prog 7 #[.agg cs, .agg ds] w fun e w' => e = .returned (.bool true) ∧ Below w.heap.size w w' := by
  obtain ⟨W, hW, h1, h2, hb⟩ := two_boxes w cs ds F L hc hd
  have H1 := hidd h1
  have H2 := hidd h2
  have HB := hidd hb
  clear h1 h2 hb hc hd
  go_enter Try.func7, Try.ntmps7
  go_wp2_with fail
  rw [← hW]
  clear hW
  refine (model24 w.heap.size (w.heap.size + 1) F L W H1.out H2.out).mono ?_
  rintro e x1 ⟨rfl, rfl⟩
  go_wp2_with fail
  refine (zzApart w.heap.size (w.heap.size + 1) F L x1 H1.out H2.out).mono ?_
  rintro e x2 ⟨rfl, q, hq⟩
  have HB2 := hidd (show Below w.heap.size w x2 by rw [hq]; exact below_drewN HB.out q)
  clear hq
  generalize (scan (fb F) (fb L) 16384).isSome = r
  have t : (r == r) = true := by simp
  go_wp2
  go_ret
  refine ⟨?_, HB2.out⟩
  simp

/-- a word of an array -/
def wordAt (cs : Array Value) (i : Nat) : Nat := match cs[i]? with
  | some (.int _ n) => n.toNat
  | _ => 0

theorem wordAt_eq {cs : Array Value} {i : Nat} {k : IntKind} {n : Int} (h : cs[i]? = some (.int k n)) : wordAt cs i = n.toNat := by
  unfold wordAt
  rw [h]

theorem law_walk' (cs : Array Value) (F : Nat → Nat) (ds : Array Value) (L : Nat → Nat) (w : World) (hc : IsArr cs F) (hd : IsArr ds L) :
    Calls Try.prog 7 #[.agg cs, .agg ds] w fun e w' => e = .returned (.bool true) ∧ Below w.heap.size w w' := law_walk cs ds F L w hc hd

/-- an array argument, opened -/
theorem open_arr {H : Type} {enc : TypeId × Value → H} {W : World} {base base' : Nat} {spare : Nat → Bool} {held : Bool} {v : Value} {d : DataW H} {ps : List MemPlace} (hv : Value.okWide Try.prog W .any base' 42 v) (h : DataW.Trod enc Try.prog W base spare held 42 v d ps) :
    ∃ cs F, v = .agg cs ∧ IsArr cs F := by
  obtain ⟨cs, rfl, hsz, _⟩ : ∃ cs, v = .agg cs ∧ cs.size = Try.prog.cellsOf 42 ∧ Row.okWide Try.prog W .any base' 42 cs := by
    unfold Value.okWide at hv
    rw [Try.underlying42] at hv
    exact hv
  obtain ⟨fuel, hf⟩ := h
  obtain ⟨xs, m, rfl, _, hl, hxl, hel⟩ := DataW.trod_array Try.underlying42 hf
  have c42 : Try.prog.cellsOf 42 = 256 := by kernel_rfl
  have c40 : Try.prog.cellsOf 40 = 1 := by kernel_rfl
  rw [c42] at hsz
  have key : ∀ i, i < 256 → ∃ n : Int, cs[i]? = some (.int .u64 n) ∧ (Lit.int .u64 n).wf = true := fun i hi => by
    have h1 := hel i hi
    rw [List.getElem?_eq_getElem (by omega)] at h1
    obtain ⟨n, h2, _, h3⟩ := DataW.trod_int Try.underlying40 h1
    refine ⟨n, ?_, h3⟩
    rw [c40, Nat.mul_one] at h2
    have h4 : (Value.cells (.agg cs)).toList = cs.toList := by simp [Value.cells]
    rw [h4] at h2
    have h5 := congrArg (fun l : List Value => l[0]?) h2
    simp [List.getElem?_drop] at h5
    simpa using h5
  refine ⟨cs, wordAt cs, rfl, hsz, fun i hi => ?_⟩
  obtain ⟨n, h1, h2⟩ := key i hi
  have h3 := bounds_u64 h2
  rw [wordAt_eq h1, h1]
  exact ⟨by congr 2; omega, by omega⟩

end Go.Proofs.Qxb6600446a
