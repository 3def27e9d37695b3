import Derived.Test.Qxb6603909aModel
import Derived.Test.Qxb6603909aPlain3
import Derived.Deep.DeepCutAuto
import Derived.Deep.LoopGhost
import Derived.Deep.CutBlock
namespace Go.Proofs.Qxb6603909a
open Go.RowKit
set_option linter.unusedVariables false
set_option linter.unusedSimpArgs false

/-- nothing but block b has turned -/
structure Only (b : Nat) (w w' : World) : Prop where
  os : w'.os = w.os
  tape : w'.tape = w.tape
  output : w'.output = w.output
  size : w'.heap.size = w.heap.size
  block : ∀ k, k ≠ b → w'.heap[k]? = w.heap[k]?

theorem Only.refl (b : Nat) (w : World) : Only b w w := ⟨rfl, rfl, rfl, rfl, fun _ _ => rfl⟩
theorem Only.setCell {b : Nat} {w w' : World} (h : Only b w w') {p : Addr} (hp : p.block = b) (u : Value) : Only b w (w'.setCell p u) :=
  ⟨h.os, h.tape, h.output, by simpa [World.setCell] using h.size, fun k hk => (Below.heap_setCell _ _ _ _ (by omega)).trans (h.block k hk)⟩
theorem Only.cell {b : Nat} {w w' : World} (h : Only b w w') {p : Addr} (hp : p.block ≠ b) : w'.cell? p = w.cell? p := World.cell?_of_block (w := w) (h.block p.block hp)
theorem Only.below {b B : Nat} {w w' : World} (h : Only b w w') (hB : B ≤ b) : Below B w w' := ⟨h.os, h.tape, h.output, by rw [h.size]; exact Nat.le_refl _, fun k hk => h.block k (by omega)⟩

/-- the struct that relabel is given -/
structure Obj5 (w : World) (bo bg bp bn n cg cp cn : Nat) (hd : Int) (g : Nat) : Prop where
  c0 : w.cell? ⟨bo, 0, none⟩ = some (.slice (some ⟨bg, 0, none⟩) n cg)
  c1 : w.cell? ⟨bo, 1, none⟩ = some (.slice (some ⟨bp, 0, none⟩) n cp)
  c2 : w.cell? ⟨bo, 2, none⟩ = some (.slice (some ⟨bn, 0, none⟩) n cn)
  c3 : w.cell? ⟨bo, 3, none⟩ = some (.int .i32 hd)
  c4 : w.cell? ⟨bo, 4, none⟩ = some (.float .f64 g)

theorem Obj5.below {w w' : World} {bo bg bp bn n cg cp cn : Nat} {hd : Int} {g B : Nat} (h : Obj5 w bo bg bp bn n cg cp cn hd g) (hb : Below B w w') (hB : bo < B) : Obj5 w' bo bg bp bn n cg cp cn hd g :=
  ⟨by rw [hb.cell (by exact hB)]; exact h.c0, by rw [hb.cell (by exact hB)]; exact h.c1, by rw [hb.cell (by exact hB)]; exact h.c2, by rw [hb.cell (by exact hB)]; exact h.c3, by rw [hb.cell (by exact hB)]; exact h.c4⟩
theorem Obj5.only {w w' : World} {bo bg bp bn n cg cp cn : Nat} {hd : Int} {g b : Nat} (h : Obj5 w bo bg bp bn n cg cp cn hd g) (hb : Only b w w') (hB : bo ≠ b) : Obj5 w' bo bg bp bn n cg cp cn hd g :=
  ⟨by rw [hb.cell (by exact hB)]; exact h.c0, by rw [hb.cell (by exact hB)]; exact h.c1, by rw [hb.cell (by exact hB)]; exact h.c2, by rw [hb.cell (by exact hB)]; exact h.c3, by rw [hb.cell (by exact hB)]; exact h.c4⟩

set_option maxHeartbeats 3200000 in
set_option maxRecDepth 100000 in
theorem relabel_any (bo bg bp bn n cg cp cn : Nat) (L P N : Nat → Int) (m p : Nat) (nd : Nat → Nat) (R : Pl.Ring L P N n m nd) (g : Nat) (w : World) (hn2 : n ≤ 1048576) (hp : p ≤ m)
    (hO : Obj5 w bo bg bp bn n cg cp cn (nd 0) g) (hbo : bo ≠ bg) (hbp : bp ≠ bg) (hbn : bn ≠ bg)
    (hL : w.rowIs bg 39 n (fun i => .int .u64 (L i))) (hPr : w.rowIs bp 21 n (fun i => .int .i32 (P i))) (hNr : w.rowIs bn 21 n (fun i => .int .i32 (N i)))
    (k0 : Nat) (hk1 : 1 ≤ k0) (hk2 : k0 ≤ 62) (hsk : ∀ j, 1 ≤ j → j < k0 → skips g j (Pl.cC L nd m (L (nd p)) j) = true) (hns : skips g k0 (Pl.cC L nd m (L (nd p)) k0) = false) :
    Calls Try.prog 31 #[.pointer (some ⟨bo, 0, none⟩), .int .i32 (nd p)] w fun e w' =>
      e = .returned (.tuple #[]) ∧ w'.rowIs bg 39 n (fun x => .int .u64 (Pl.newLab L nd m (L (nd p)) k0 x)) ∧ (∀ k, k ≠ bg → k < w.heap.size → w'.heap[k]? = w.heap[k]?) ∧ w.heap.size ≤ w'.heap.size ∧ w'.os = w.os ∧ w'.tape = w.tape ∧ w'.output = w.output := by
  have hpn := R.lt p hp
  have hmn := R.mn
  have hh := R.lt 0 (by omega)
  obtain ⟨l, hl⟩ : ∃ l, l = L (nd p) := ⟨_, rfl⟩
  have hl0 : 0 ≤ l := by rw [hl]; exact R.nonneg p hp
  have hl1 : l < 4611686018427387904 := by rw [hl]; exact R.lim p hp
  -- the levels
  have hA1 : ∀ k, Pl.lA L nd m l (k + 1) ≤ Pl.lA L nd m l k := fun k => Pl.lA_succ l k
  have hB1 : ∀ k, Pl.lB L nd m l k ≤ Pl.lB L nd m l (k + 1) := fun k => Pl.lB_succ l k
  have hAB : ∀ k, Pl.lA L nd m l k ≤ Pl.lB L nd m l k := fun k => Pl.lAB l k
  have hBm : ∀ k, Pl.lB L nd m l k ≤ m := fun k => Pl.lB_le l k
  have hAp : 0 < p → ∀ k, Pl.lA L nd m l k < p := fun h k => by rw [hl]; exact R.a_lt hp h k
  have hAz : p = 0 → ∀ k, Pl.lA L nd m l k = 0 := fun h k => by subst h; rw [hl]; exact R.a_zero k
  have hBp : ∀ k, p ≤ Pl.lB L nd m l k := fun k => by rw [hl]; exact R.b_ge hp k
  have hA0 : Pl.lA L nd m l 0 = p - 1 := by rw [hl]; exact R.a0 hp
  have hB0 : Pl.lB L nd m l 0 = p := by rw [hl]; exact R.b0 hp
  have hCC : ∀ k, Pl.cC L nd m l k = Pl.lB L nd m l k - Pl.lA L nd m l k := fun k => rfl
  rw [← hl] at hsk hns ⊢
  have HL := hid hl
  have HLEV := hid (And.intro hA1 (And.intro hB1 (And.intro hAB (And.intro hBm (And.intro hAp (And.intro hAz (And.intro hBp (And.intro hA0 (And.intro hB0 hCC)))))))))
  have HSK := hid hsk
  have HNS := hid hns
  clear hl hA1 hB1 hAB hBm hAp hAz hBp hA0 hB0 hCC hsk hns
  obtain ⟨o0, o1, o2, o3, o4⟩ := hO
  have hO : Obj5 w bo bg bp bn n cg cp cn (nd 0) g := ⟨o0, o1, o2, o3, o4⟩
  have hzo : bo < w.heap.size := World.block_lt_of_cell? _ _ o0
  have hzg := hL.lt
  have hzp := hPr.lt
  have hzn := hNr.lt
  go_enter Try.func31, Try.ntmps31
  go_upto_if 23 with fail
  go_cut [6] (fun c wc => c = .int .u64 (Pl.cC L nd m l 0 : Nat) ∧ wc = w)
  case first =>
    by_cases e : p = 0
    · have g0 : ((nd p : Int) == (nd 0 : Int)) = true := by subst e; simp
      have g1 : Pl.cC L nd m l 0 = 0 := by
        obtain ⟨-, -, -, -, -, -, -, h1, h2, h3⟩ := HLEV.out
        rw [h3]; omega
      have G1 := hid g1
      clear g1
      go_wp2
      go_meet
      case rel => exact ⟨by rw [G1.out]; rfl, rfl⟩
    · have g0 : ((nd p : Int) == (nd 0 : Int)) = false := by
        rw [beq_eq_false_iff_ne]; intro h; exact e (R.inj hp (by omega) (by omega))
      have g1 : Pl.cC L nd m l 0 = 1 := by
        obtain ⟨-, -, -, -, -, -, -, h1, h2, h3⟩ := HLEV.out
        rw [h3]; omega
      have G1 := hid g1
      clear g1
      go_wp2
      go_meet
      case rel => exact ⟨by rw [G1.out]; rfl, rfl⟩
  case rest =>
    obtain ⟨rfl, rfl⟩ := hcut
    go_wp2_with fail
    obtain ⟨z, hz⟩ : ∃ z : Nat, z = if p = 0 then 0 else 1 := ⟨_, rfl⟩
    have hz0 : p = 0 → z = 0 := fun h => by rw [hz, if_pos h]
    have hz1 : 0 < p → z = 1 := fun h => by rw [hz, if_neg (by omega)]
    have HZ := hid (And.intro hz0 hz1)
    clear hz hz0 hz1 o0 o1 o2 o3 o4
    go_loopg [4, 5, 6, 7, 8] 62 (fun gk f la c al i wr => ∃ k ab : Nat, gk + k = 62 ∧ k < k0 ∧ f = .int .i32 (nd (Pl.lA L nd m l k + z)) ∧ la = .int .i32 (nd (Pl.lB L nd m l k)) ∧ c = .int .u64 (Pl.cC L nd m l k : Nat) ∧
      al = .float .f64 ab ∧ allow g k = some ab ∧ i = .int .u64 (k + 1) ∧ Below wc.heap.size wc wr)
    case atStart =>
      obtain ⟨-, -, -, -, -, -, -, h1, h2, h3⟩ := HLEV.out
      obtain ⟨z0, z1⟩ := HZ.out
      have e : Pl.lA L nd m l 0 + z = p := by
        by_cases e : p = 0
        · rw [h1, z0 e]; omega
        · rw [h1, z1 (by omega)]; omega
      exact ⟨0, _, rfl, by omega, by rw [e], by rw [h2], rfl, rfl, rfl, rfl, Below.refl _ _⟩
    case round =>
      obtain ⟨k, ab, hgk, hkk, rfl, rfl, rfl, rfl, hab, rfl, hbr⟩ := hrel
      obtain ⟨rr, w3, hrun, hb3, hgt, hal⟩ := mul_step g k ab hab wr
      have hbw : Below wc.heap.size wc w3 := hbr.trans (hb3.mono hbr.size)
      have o4 := (hO.below hbr hzo).c4
      obtain ⟨p0, p1, p2, p3, -⟩ := hO.below hbw hzo
      have e1 : IntKind.u64.wrap (2 ^ (k + 1)) = 2 ^ (k + 1) := wrap_pow (k + 1) (by omega)
      have e2 : bits BinOp.andNot IntKind.u64 l (2 ^ (k + 1) - 1) = Pl.lo l (k + 1) := andNot_lo l (k + 1) (by omega) hl0 hl1
      have b1 := Pl.pow_le (k + 1) (by omega)
      have b2 := Pl.pow_ge (k + 1) (by omega)
      have q1 := Pl.lo_nonneg l (k + 1) hl0
      have q2 := Pl.lo_lim l (k + 1) (by omega) hl1
      have cl : w3.cell? ⟨bg, nd p, none⟩ = some (.int .u64 l) := by rw [hbw.cell (by exact hzg), hL.cell hpn, HL.out]
      have HGT := hid (hgt (Pl.cC L nd m l (k + 1)))
      have HAL : Hid (∀ c, skips g (k + 1) c = true → allow g (k + 1) = some rr) := hal
      have d30 : decide ((k : Int) + 1 ≤ 62) = true := by simp; omega
      -- the nodes of the range are nd (A'+1), .., nd B'
      have iA := fun j h1 h2 => R.a_iff l (k + 1) j h1 h2
      have iB := fun j h1 h2 => R.b_iff l (k + 1) j h1 h2
      obtain ⟨hA1, hB1, hAB, hBm, hAp, hAz, hBp, hA0, hB0, hCC⟩ := HLEV.out
      have HC0 := hid (hCC k)
      have HC1 := hid (hCC (k + 1))
      have v1 := hA1 k
      have v2 := hB1 k
      have v3 := hAB k
      have v4 := hAB (k + 1)
      have v5 := hBm (k + 1)
      have v6 := hBp k
      have v7 := hBp (k + 1)
      have v8 := fun h => hAp h k
      have v9 := fun h => hAp h (k + 1)
      have v10 := fun h => hAz h k
      have v11 := fun h => hAz h (k + 1)
      have V := hid (And.intro v1 (And.intro v2 (And.intro v3 (And.intro v4 (And.intro v5 (And.intro v6 (And.intro v7 (And.intro v8 (And.intro v9 (And.intro v10 v11))))))))))
      have IA := hid iA
      have IB := hid iB
      have HNL : Hid (Pl.newLab L nd m l (k + 1) = Pl.relbl L nd (Pl.lo l (k + 1)) (2 ^ (k + 1) / ((Pl.cC L nd m l (k + 1) : Int) + 1)) (Pl.lA L nd m l (k + 1)) (Pl.cC L nd m l (k + 1))) := rfl
      clear hA1 hB1 hAB hBm hAp hAz hBp hA0 hB0 hCC v1 v2 v3 v4 v5 v6 v7 v8 v9 v10 v11 iA iB hab hal hgt
      have HGK := hid hgk
      clear hgk
      have HK : Hid (k + 1 ≤ k0) := hkk
      generalize hB' : Pl.lB L nd m l (k + 1) = B' at V HC1 IB
      generalize hA' : Pl.lA L nd m l (k + 1) = A' at V HC1 IA HNL
      have HEB := hid hB'
      have HEA := hid hA'
      clear hA' hB'
      generalize Pl.lB L nd m l k = B at *
      generalize Pl.lA L nd m l k = A at *
      generalize hC' : Pl.cC L nd m l (k + 1) = C' at HC1 HNL HGT
      generalize hC : Pl.cC L nd m l k = C at *
      have HC' := hid hC'
      have HC := hid hC
      clear hC hC'
      go_upto_block 2 with fail
      clear e1 e2 hrun d30 cl
      generalize hS : (2 : Int) ^ (k + 1) = S at *
      generalize hlo : Pl.lo l (k + 1) = lo at *
      have HS := hid hS
      have HLO := hid hlo
      clear hS hlo
      go_cut [4, 6] (fun f c wx => f = .int .i32 (nd (A' + z)) ∧ c = .int .u64 (C + (A - A') : Nat) ∧ w3 = wx)
      case first =>
        go_wp2_with fail
        go_loopg [4, 6] (A + z) (fun gk f c wx => ∃ a : Nat, a = gk ∧ f = .int .i32 (nd a) ∧ A' + z ≤ a ∧ a ≤ A + z ∧ c = .int .u64 (C + (A + z - a) : Nat) ∧ w3 = wx)
        case atStart =>
          obtain ⟨v1, _⟩ := V.out
          exact ⟨A + z, rfl, rfl, by omega, by omega, by rw [Nat.sub_self]; rfl, rfl⟩
        case round =>
          obtain ⟨a, rfl, rfl, ha1, ha2, rfl, rfl⟩ := hrel
          obtain ⟨v1, v2, v3, v4, v5, v6, v7, v8, v9, v10, v11⟩ := V.out
          obtain ⟨z0, z1⟩ := HZ.out
          by_cases hp0 : p = 0
          · have ez := z0 hp0
            have eA := v10 hp0
            have eA' := v11 hp0
            have ea : a = 0 := by omega
            subst ez eA eA' ea
            have t0 : ((nd 0 : Int) != nd 0) = false := by simp
            clear v1 v2 v3 v4 v5 v6 v7 v8 v9 v10 v11 z0 z1 hp0
            go_wp2
            go_meet
            case rel => exact ⟨rfl, rfl, rfl⟩
          have ez := z1 (by omega)
          subst ez
          have ham : a ≤ m := by have := v8 (by omega); omega
          have t0 : ((nd a : Int) != nd 0) = true := by
            rw [bne_iff_ne]; intro h; have := R.inj (i := a) (j := 0) ham (by omega) (by omega); omega
          obtain ⟨a1, rfl⟩ : ∃ a1, a = a1 + 1 := ⟨a - 1, by omega⟩
          have hlt := R.lt (a1 + 1) ham
          have hlt1 := R.lt a1 (by omega)
          have cP : w3.cell? ⟨bp, nd (a1 + 1), none⟩ = some (.int .i32 (nd a1)) := by rw [hbw.cell (by exact hzp), hPr.cell hlt, R.pv a1 (by omega)]
          have cLa : w3.cell? ⟨bg, nd a1, none⟩ = some (.int .u64 (L (nd a1))) := by rw [hbw.cell (by exact hzg), hL.cell hlt1]
          have hCm : C ≤ m := by have := HC0.out; omega
          have hAm : A ≤ m := by omega
          by_cases h1 : a1 = 0
          · have t1 : ((nd a1 : Int) == nd 0) = true := by rw [h1]; simp
            have hA'0 : A' = 0 := by omega
            have H1 := hid h1
            have HA := hid hA'0
            clear v1 v2 v3 v4 v5 v6 v7 v8 v9 v10 v11 z0 z1 h1 hA'0
            go_wp2
            go_meet
            case rel => exact ⟨by rw [HA.out, H1.out], by rw [HA.out, H1.out]; congr 2, rfl⟩
          have t1 : ((nd a1 : Int) == nd 0) = false := by
            rw [beq_eq_false_iff_ne]; intro h; have := R.inj (i := a1) (j := 0) (by omega) (by omega) (by omega); omega
          have hi := IA.out a1 (by omega) (by omega)
          by_cases h2 : a1 ≤ A'
          · have t2 : L (nd a1) < lo := hi.2 h2
            have hA'1 : a1 = A' := by omega
            have HA := hid hA'1
            clear v1 v2 v3 v4 v5 v6 v7 v8 v9 v10 v11 z0 z1 hi hA'1
            go_wp2
            go_meet
            case rel => exact ⟨by rw [HA.out], by rw [HA.out]; congr 2, rfl⟩
          · have t2 : ¬ L (nd a1) < lo := fun h => h2 (hi.1 h)
            clear v1 v2 v3 v4 v5 v6 v7 v8 v9 v10 v11 z0 z1 hi
            go_wp2
            go_roundg a1
            case measure => omega
            case rel => exact ⟨a1, rfl, rfl, by omega, by omega, by congr 1; omega, rfl⟩
      case rest =>
        obtain ⟨rfl, rfl, rfl⟩ := hcut
        go_upto_block 4 with fail
        go_cut [5, 6] (fun la c wx => la = .int .i32 (nd B') ∧ c = .int .u64 (C' : Nat) ∧ w3 = wx)
        case first =>
          go_wp2_with fail
          go_loopg [5, 6] (m - B) (fun gk la c wx => ∃ b : Nat, b + gk = m ∧ la = .int .i32 (nd b) ∧ B ≤ b ∧ b ≤ B' ∧ c = .int .u64 (C + (A - A') + (b - B) : Nat) ∧ w3 = wx)
          case atStart =>
            obtain ⟨v1, v2, v3, v4, v5, v6, v7, v8, v9, v10, v11⟩ := V.out
            exact ⟨B, by omega, rfl, by omega, by omega, by rw [Nat.sub_self]; rfl, rfl⟩
          case round =>
            obtain ⟨b, hgb, rfl, hb1, hb2, rfl, rfl⟩ := hrel
            obtain ⟨v1, v2, v3, v4, v5, v6, v7, v8, v9, v10, v11⟩ := V.out
            have hCm : C ≤ m := by have := HC0.out; omega
            have hAm : A ≤ m := by omega
            have hbm : b ≤ m := by omega
            have hlt := R.lt b hbm
            have cN : w3.cell? ⟨bn, nd b, none⟩ = some (.int .i32 (Pl.ndx nd m (b + 1))) := by rw [hbw.cell (by exact hzn), hNr.cell hlt, R.next b hbm]
            have HV := hid (And.intro v1 (And.intro v2 (And.intro v3 v4)))
            have HGB := hid hgb
            clear v1 v2 v3 v4 v6 v7 v8 v9 v10 v11 hgb
            by_cases h1 : b = m
            · rw [Pl.ndx, if_neg (by omega)] at cN
              have t1 : ((nd 0 : Int) == nd 0) = true := by simp
              have hB' : b = B' := by omega
              have HB := hid hB'
              clear hB' h1
              go_wp2
              go_meet
              case rel =>
                refine ⟨by rw [HB.out], ?_, rfl⟩
                obtain ⟨v1, v2, v3, v4⟩ := HV.out
                have h1 := HC0.out
                have h2 := HC1.out
                have h3 := HB.out
                congr 1
                omega
            rw [Pl.ndx, if_pos (by omega)] at cN
            have hlt1 := R.lt (b + 1) (by omega)
            have t1 : ((nd (b + 1) : Int) == nd 0) = false := by
              rw [beq_eq_false_iff_ne]; intro h; have := R.inj (i := b + 1) (j := 0) (by omega) (by omega) (by omega); omega
            have cLb : w3.cell? ⟨bg, nd (b + 1), none⟩ = some (.int .u64 (L (nd (b + 1)))) := by rw [hbw.cell (by exact hzg), hL.cell hlt1]
            have hi := IB.out (b + 1) (by omega) (by omega)
            by_cases h2 : b + 1 ≤ B'
            · have t2 : ¬ lo + S ≤ L (nd (b + 1)) := by have := hi.2 h2; omega
              clear hi
              go_wp2
              go_roundg (gk - 1)
              case measure => have := HGB.out; omega
              case rel => exact ⟨b + 1, by have := HGB.out; omega, rfl, by omega, by omega, by congr 1; omega, rfl⟩
            · have t2 : lo + S ≤ L (nd (b + 1)) := by omega
              have hB' : b = B' := by omega
              have HB := hid hB'
              clear hB' hi
              go_wp2
              go_meet
              case rel =>
                refine ⟨by rw [HB.out], ?_, rfl⟩
                obtain ⟨v1, v2, v3, v4⟩ := HV.out
                have h1 := HC0.out
                have h2 := HC1.out
                have h3 := HB.out
                congr 1
                omega
        case rest =>
          obtain ⟨rfl, rfl, rfl⟩ := hcut
          obtain ⟨v1, v2, v3, v4, v5, v6, v7, v8, v9, v10, v11⟩ := V.out
          have hC'm : C' ≤ m := by have := HC1.out; omega
          have hAC : A' + C' = B' := by have := HC1.out; omega
          have HAC := hid hAC
          have HV := hid (And.intro v5 (And.intro v9 v11))
          clear v1 v2 v3 v4 v5 v6 v7 v8 v9 v10 v11 hAC
          by_cases hlast : k + 1 < k0
          · have t1 : (FloatKind.f64.format.order (floatOfInt .f64 ((C' : Int) + 1)) rr == some .gt) = true := by
              rw [HGT.out, ← HC'.out]; exact HSK.out (k + 1) (by omega) hlast
            have hal : allow g (k + 1) = some rr := HAL.out C' (by rw [← HGT.out]; exact t1)
            have HAL1 := hid hal
            clear hal
            go_wp2
            go_roundg (gk - 1)
            case measure => have := HGK.out; omega
            case rel => exact ⟨k + 1, rr, by have := HGK.out; omega, hlast, by rw [HEA.out], by rw [HEB.out], by rw [HC'.out], rfl, HAL1.out, by go_num, hbw⟩
          have hk0 : k + 1 = k0 := by have := HK.out; omega
          have t1 : (FloatKind.f64.format.order (floatOfInt .f64 ((C' : Int) + 1)) rr == some .gt) = false := by
            rw [HGT.out, ← HC'.out, hk0]; exact HNS.out
          have HK0 := hid hk0
          clear hk0 hlast
          go_upto_if 123 with fail
          clear t1
          go_cut [14] (fun nn wx => nn = .int .i32 (Pl.ndx nd m (A' + 1)) ∧ w3 = wx)
          case first =>
            obtain ⟨z0, z1⟩ := HZ.out
            obtain ⟨v5, v9, v11⟩ := HV.out
            by_cases hp0 : p = 0
            · have ez := z0 hp0
              have eA' := v11 hp0
              subst ez eA'
              have t0 : ((nd (0 + 0) : Int) == nd 0) = true := by simp
              have cN : w3.cell? ⟨bn, nd 0, none⟩ = some (.int .i32 (Pl.ndx nd m (0 + 1))) := by rw [hbw.cell (by exact hzn), hNr.cell hh, R.next 0 (by omega)]
              clear hp0 z0 z1 v9 v11
              go_wp2
              go_meet
              case rel => exact ⟨rfl, rfl⟩
            · have ez := z1 (by omega)
              subst ez
              have hA'p := v9 (by omega)
              have t0 : ((nd (A' + 1) : Int) == nd 0) = false := by
                rw [beq_eq_false_iff_ne]; intro h; have := R.inj (i := A' + 1) (j := 0) (by omega) (by omega) (by omega); omega
              clear z0 z1 v9 v11
              go_wp2
              go_meet
              case rel => exact ⟨by rw [Pl.ndx, if_pos (by omega)], rfl⟩
          case rest =>
            obtain ⟨rfl, rfl⟩ := hcut
            have hst0 : 0 ≤ S / ((C' : Int) + 1) := Int.ediv_nonneg (by omega) (by omega)
            have hst1 : ∀ t : Nat, t ≤ C' → 0 ≤ ((t : Int) + 1) * (S / ((C' : Int) + 1)) ∧ ((t : Int) + 1) * (S / ((C' : Int) + 1)) ≤ S := by
              intro t ht
              have h1 : ((C' : Int) + 1) * (S / ((C' : Int) + 1)) ≤ S := Int.mul_ediv_self_le (by omega)
              have h2 : ((t : Int) + 1) * (S / ((C' : Int) + 1)) ≤ ((C' : Int) + 1) * (S / ((C' : Int) + 1)) := Int.mul_le_mul_of_nonneg_right (by omega) hst0
              exact ⟨Int.mul_nonneg (by omega) hst0, by omega⟩
            have hst2 : S / ((C' : Int) + 1) ≤ S := Int.ediv_le_self _ (by omega)
            generalize hst : S / ((C' : Int) + 1) = st at *
            have HST1 := hid hst1
            clear hst1 hst
            have hrow0 : w3.rowIs bg 39 n (fun i => .int .u64 (L i)) := hL.of_block (hbw.block _ hzg)
            have HR0 := hid hrow0
            have hO3 := hid (hO.below hbw hzo)
            clear hrow0
            go_wp2_with fail
            clear p0 p1 p2 p3 o4
            go_loopg [6, 14, 15] C' (fun gk c nn lab wx => ∃ t : Nat, t + gk = C' ∧ c = .int .u64 gk ∧ nn = .int .i32 (Pl.ndx nd m (A' + 1 + t)) ∧ lab = .int .u64 (lo + ((t : Int) + 1) * st) ∧
              wx.rowIs bg 39 n (fun x => .int .u64 (Pl.relbl L nd lo st A' t x)) ∧ Only bg w3 wx)
            case atStart => exact ⟨0, by omega, rfl, rfl, by simp, by simpa [Pl.relbl] using HR0.out, Only.refl _ _⟩
            case round =>
              obtain ⟨t, htg, rfl, rfl, rfl, hrow, honly⟩ := hrel
              by_cases hg0 : gk = 0
              · have ht : t = C' := by omega
                subst ht
                have t0 : ¬ (0 : Int) < (gk : Int) := by omega
                clear htg hg0
                go_wp2
                refine bodyPost_ret (v := .tuple #[]) (by simp [results, Try.results31, go_sem]) rfl ⟨rfl, ?_, ?_, ?_, ?_, ?_, ?_⟩
                · rw [← HK0.out, HNL.out]; exact hrow
                · intro j h1 h2; rw [honly.block j h1, hbw.block j h2]
                · have := hbw.size; have := honly.size; omega
                · rw [honly.os, hbw.os]
                · rw [honly.tape, hbw.tape]
                · rw [honly.output, hbw.output]
              · obtain ⟨g1, rfl⟩ : ∃ g1, gk = g1 + 1 := ⟨gk - 1, by omega⟩
                have hAC := HAC.out
                obtain ⟨v5, _, _⟩ := HV.out
                have hj : A' + 1 + t ≤ m := by omega
                have hlt := R.lt (A' + 1 + t) hj
                rw [Pl.ndx, if_pos hj]
                obtain ⟨r0, r1, r2, r3, r4⟩ := hO3.out.only honly hbo
                have hrow2 := hrow.set (nd (A' + 1 + t)) (.int .u64 (lo + ((t : Int) + 1) * st))
                have hrow3 := hid (hrow2.congr (g := fun x => .int .u64 (Pl.relbl L nd lo st A' (t + 1) x)) (fun x hx => by
                  simp only [Pl.relbl, show A' + t + 1 = A' + 1 + t by omega]
                  split <;> rfl))
                have honly2 := hid (honly.setCell (p := ⟨bg, nd (A' + 1 + t), none⟩) rfl (.int .u64 (lo + ((t : Int) + 1) * st)))
                have cW := hrow.cell hlt
                have fW := hrow.frozen (nd (A' + 1 + t))
                have cN : (wr.setCell ⟨bg, nd (A' + 1 + t), none⟩ (.int .u64 (lo + ((t : Int) + 1) * st))).cell? ⟨bn, nd (A' + 1 + t), none⟩ = some (.int .i32 (Pl.ndx nd m (A' + 1 + t + 1))) := by
                  rw [honly2.out.cell (by exact hbn), hbw.cell (by exact hzn), hNr.cell hlt, R.next _ hj]
                obtain ⟨r0', r1', r2', r3', r4'⟩ := hO3.out.only honly2.out hbo
                obtain ⟨s1, s2⟩ := HST1.out t (by omega)
                obtain ⟨s3, s4⟩ := HST1.out (t + 1) (by omega)
                have e6 : ((t + 1 : Nat) : Int) + 1 = (t : Int) + 1 + 1 := by omega
                rw [e6, Int.add_mul, Int.one_mul] at s3 s4
                have hnx := R.ndx_lt (A' + 1 + t + 1)
                have HTG := hid htg
                have hg1m : g1 ≤ 1048576 := by omega
                clear hrow hrow2 hAC v5 e6 htg
                generalize hw0 : Pl.relbl L nd lo st A' t (nd (A' + 1 + t)) = w0 at cW
                clear hw0
                have HPR : Hid (((t : Int) + 1) * st + st = (((t + 1 : Nat) : Int) + 1) * st) := by
                  have : ((t + 1 : Nat) : Int) + 1 = (t : Int) + 1 + 1 := by omega
                  show _ = _
                  rw [this, Int.add_mul ((t : Int) + 1), Int.one_mul]
                generalize hpr : ((t : Int) + 1) * st = pr at *
                clear hpr
                go_wp2
                go_roundg g1
                case measure => omega
                case rel => exact ⟨t + 1, by have := HTG.out; omega, by go_num, by rw [show A' + 1 + (t + 1) = A' + 1 + t + 1 by omega], by rw [← HPR.out, Int.add_assoc], hrow3.out, honly2.out⟩
end Go.Proofs.Qxb6603909a
