import Derived.Test.Qxb6606006aDoorIdx
import Derived.Test.Qxb6606006aDoorImage
import Derived.Test.Qxb6606006aDoorBytes
import Derived.Lib.Builder
namespace Go.Proofs.Qxb6606006aDoor.Ix
open Go.RowKit
set_option linter.unusedVariables false
set_option linter.unusedSimpArgs false
attribute [local go_sem ↓] Go.wp_at_zero Go.wp_at_succ

/-- What the loaded index shows: n repositories, six cells each. -/
def Loaded (wy : World) (I : Nat) (n : Nat) (S0 S1 S2 : Nat → ByteArray) (K : Nat → Int) : Prop :=
  ∃ (a : Option Addr) (b c : Nat), wy.cell? ⟨I, 3, none⟩ = some (.slice a n c) ∧ (0 < n → a = some ⟨b, 0, none⟩) ∧ ∀ k, k < n → wy.cell? ⟨b, k * 6, none⟩ = some (.string (S0 k)) ∧ wy.cell? ⟨b, k * 6 + 1, none⟩ = some (.string (S1 k)) ∧ wy.cell? ⟨b, k * 6 + 2, none⟩ = some (.string (S2 k)) ∧ wy.cell? ⟨b, k * 6 + 3, none⟩ = some (.pointer (some ⟨I, 0, none⟩)) ∧ wy.cell? ⟨b, k * 6 + 4, none⟩ = some (.int .i64 (sumK K k : Nat)) ∧ wy.cell? ⟨b, k * 6 + 5, none⟩ = some (.int .i64 ((sumK K k : Nat) + K k))

def ZLoadPost (w : World) (I n : Nat) (S0 S1 S2 : Nat → ByteArray) (K : Nat → Int) (e : Ending) (w' : World) : Prop :=
  e = .returned .nilIface ∧ Loaded w' I n S0 S1 S2 K ∧ w.grownBy w' (some I)

/-- What 'ZZload' gives. -/
def ZOK : Prop := ∀ (I g N n : Nat) (f : Nat → Int) (S0 S1 S2 : Nat → ByteArray) (K : Nat → Int) (V : Nat → Value) (w : World)
    (hix : w.rowIs I 56 12 V) (hv0 : V 0 = .slice (some ⟨g, 0, none⟩) N N) (hv3 : V 3 = .slice none 0 0) (hdat : w.rowIs g 5 N (fun p => .int .u8 (f p))) (hne : I ≠ g)
    (hNe : N = 14 + sumS S0 S1 S2 n + 40 * sumK K n + 48 * n + 64) (hN : N ≤ 1048576) (img : Img f S0 S1 S2 K n) (hK : ∀ i, i < n → 0 ≤ K i ∧ K i ≤ 255),
    Calls Tryd.prog 11 #[.pointer (some ⟨I, 0, none⟩)] w fun e w' => ZLoadPost w I n S0 S1 S2 K e w'

theorem IsStrs.grown {w w' : World} {a : Option Addr} {b o n I : Nat} {S : Nat → ByteArray} (h : IsStrs w a b o n S) (hb : w.grownBy w' (some I)) (hne : 0 < n → b ≠ I) : IsStrs w' a b o n S :=
  ⟨h.top, fun i hi => by
    have hc := h.cell i hi
    have := hb.block b (World.block_lt_of_cell? _ _ hc) (fun e => hne (by omega) (Option.some.inj e))
    unfold World.cell? at hc ⊢
    rw [this]; exact hc⟩
theorem IsNums.grown {w w' : World} {a : Option Addr} {b o n I : Nat} {K : Nat → Int} (h : IsNums w a b o n K) (hb : w.grownBy w' (some I)) (hne : 0 < n → b ≠ I) : IsNums w' a b o n K :=
  ⟨h.top, fun i hi => by
    have hc := h.cell i hi
    have := hb.block b (World.block_lt_of_cell? _ _ hc) (fun e => hne (by omega) (Option.some.inj e))
    unfold World.cell? at hc ⊢
    rw [this]; exact hc⟩
theorem below_grown {w w7 w8 : World} {I : Nat} (h : Below w.heap.size w w7) (k : w7.grownBy w8 (some I)) (hI : w.heap.size ≤ I) : Below w.heap.size w w8 :=
  ⟨k.os.trans h.os, k.tape.trans h.tape, k.output.trans h.output, Nat.le_trans h.size k.size, fun i hi => (k.block i (Nat.lt_of_lt_of_le hi h.size) (fun e => by have := Option.some.inj e; omega)).trans (h.block i hi)⟩
theorem Below.cell_of {w w' : World} {p : Addr} {v : Value} (h : Below w.heap.size w w') (hc : w.cell? p = some v) : w'.cell? p = some v := by
  rw [h.cell (World.block_lt_of_cell? _ _ hc)]; exact hc

theorem ptr_same (I : Nat) (wx : World) : (binOp .neq 28 (.pointer (some ⟨I, 0, none⟩)) (.pointer (some ⟨I, 0, none⟩))).run Tryd.prog wx = .ok (.bool false) wx := by
  have h : (Tryd.prog.info? 56).isSome = true := by kernel_rfl
  obtain ⟨j, hj⟩ := Option.isSome_iff_exists.1 h
  exact Lib.run_neq_ptr_same (P := Tryd.prog) wx ⟨I, 0, none⟩ Tryd.underlying28 hj

def MainPost (w : World) (e : Ending) (w' : World) : Prop := e = .returned (.bool true) ∧ Below w.heap.size w w'

set_option maxHeartbeats 4000000 in
set_option maxRecDepth 100000 in
theorem main_any (hz : ZOK) (a0 : Option Addr) (b0 o0 n0 c0 : Nat) (S0 : Nat → ByteArray) (a1 : Option Addr) (b1 o1 n1 c1 : Nat) (S1 : Nat → ByteArray) (a2 : Option Addr) (b2 o2 n2 c2 : Nat) (S2 : Nat → ByteArray) (a3 : Option Addr) (b3 o3 n3 c3 : Nat) (K : Nat → Int) (w : World)
    (h0 : IsStrs w a0 b0 o0 n0 S0) (hn0 : n0 ≤ maxLen) (hs0 : ∀ i, i < n0 → (S0 i).size ≤ maxLen) (h1 : IsStrs w a1 b1 o1 n1 S1) (hn1 : n1 ≤ maxLen) (hs1 : ∀ i, i < n1 → (S1 i).size ≤ maxLen) (h2 : IsStrs w a2 b2 o2 n2 S2) (hn2 : n2 ≤ maxLen) (hs2 : ∀ i, i < n2 → (S2 i).size ≤ maxLen)
    (h3 : IsNums w a3 b3 o3 n3 K) (hn3 : n3 ≤ maxLen) (hK : ∀ i, i < n3 → 0 ≤ K i ∧ K i ≤ 255) :
    Calls Tryd.prog 3 #[.slice a0 n0 c0, .slice a1 n1 c1, .slice a2 n2 c2, .slice a3 n3 c3] w fun e w' => MainPost w e w' := by
  have hby := bytes5_any a0 b0 o0 n0 c0 S0 a1 b1 o1 n1 c1 S1 a2 b2 o2 n2 c2 S2 a3 n3 c3 w h0 hn0 hs0 h1 hn1 hs1 h2 hn2 hs2 hn3
  unfold maxLen at hn0 hn1 hn2 hn3
  clear hs0 hs1 hs2
  go_enter Tryd.func3, Tryd.ntmps3
  go_wp2_with fail
  refine hby.mono ?_
  clear hby
  rintro e w' ⟨b, rfl, hw, hb⟩
  obtain rfl := hw.symm
  cases b with
  | false =>
    clear hb
    go_wp2_with fail
    go_ret
    exact ⟨rfl, Below.refl _ _⟩
  | true =>
    obtain ⟨-, hs0, -, hs1, -, hs2, -⟩ := hb rfl
    clear hb
    have HH : Hid (IsStrs w a0 b0 o0 n0 S0 ∧ IsStrs w a1 b1 o1 n1 S1 ∧ IsStrs w a2 b2 o2 n2 S2 ∧ IsNums w a3 b3 o3 n3 K) := ⟨h0, h1, h2, h3⟩
    have HS : Hid ((∀ i, i < n0 → (S0 i).size ≤ 1048576) ∧ (∀ i, i < n1 → (S1 i).size ≤ 1048576) ∧ (∀ i, i < n2 → (S2 i).size ≤ 1048576) ∧ (∀ i, i < n3 → 0 ≤ K i ∧ K i ≤ 255)) := ⟨hs0, hs1, hs2, hK⟩
    clear h0 h1 h2 h3 hs0 hs1 hs2 hK
    by_cases l0 : (65536 : Int) < (n0 : Int)
    · go_wp2_with fail
      go_ret
      exact ⟨rfl, Below.refl _ _⟩
    by_cases l1 : (65536 : Int) < (n1 : Int)
    · go_wp2_with fail
      go_ret
      exact ⟨rfl, Below.refl _ _⟩
    by_cases l2 : (65536 : Int) < (n2 : Int)
    · go_wp2_with fail
      go_ret
      exact ⟨rfl, Below.refl _ _⟩
    by_cases l3 : (65536 : Int) < (n3 : Int)
    · go_wp2_with fail
      go_ret
      exact ⟨rfl, Below.refl _ _⟩
    go_wp2_with fail
    clear hn0 hn1 hn2 hn3
    refine (fits_any a0 b0 o0 n0 c0 S0 a1 b1 o1 n1 c1 S1 a2 b2 o2 n2 c2 S2 a3 b3 o3 n3 c3 K 0 w HH.out.1 HH.out.2.1 HH.out.2.2.1 HH.out.2.2.2 (by omega) (by omega) (by omega) (by omega) HS.out.1 HS.out.2.1 HS.out.2.2.1 HS.out.2.2.2 (by omega) (by omega)).mono ?_
    rintro e w1 ⟨b, rfl, hw1, hb⟩
    cases b with
    | false =>
      clear hb
      go_wp2_with fail
      go_ret
      exact ⟨rfl, hw1⟩
    | true =>
      obtain ⟨e1, e2, e3, hT, hfit⟩ := hb rfl
      obtain rfl := e1.symm
      obtain rfl := e2.symm
      obtain rfl := e3.symm
      clear hb
      obtain ⟨h0, h1, h2, h3⟩ := HH.out
      have h0 := h0.below hw1
      have h1 := h1.below hw1
      have h2 := h2.below hw1
      have h3 := h3.below hw1
      obtain ⟨hs0, hs1, hs2, hK⟩ := HS.out
      clear HH HS l1 l2 l3
      go_wp2_with fail
      refine (cloneS_any a0 b0 o0 n0 c0 S0 w1 h0 (by omega)).mono ?_
      rintro e w2 ⟨x0, d0, p0, z0, rfl, g0, hw2⟩
      have h1 := h1.below hw2
      have h2 := h2.below hw2
      have h3 := h3.below hw2
      clear h0
      go_wp2_with fail
      refine (cloneS_any a1 b1 o1 n0 c1 S1 w2 h1 (by omega)).mono ?_
      rintro e w3 ⟨x1, d1, p1, z1, rfl, g1, hw3⟩
      have g0 := g0.below hw3
      have h2 := h2.below hw3
      have h3 := h3.below hw3
      clear h1
      go_wp2_with fail
      refine (cloneS_any a2 b2 o2 n0 c2 S2 w3 h2 (by omega)).mono ?_
      rintro e w4 ⟨x2, d2, p2, z2, rfl, g2, hw4⟩
      have g0 := g0.below hw4
      have g1 := g1.below hw4
      have h3 := h3.below hw4
      clear h2
      go_wp2_with fail
      refine (cloneN_any a3 b3 o3 n0 c3 K w4 h3 (by omega)).mono ?_
      rintro e w5 ⟨x3, d3, p3, z3, rfl, g3, hw5⟩
      have g0 := g0.below hw5
      have g1 := g1.below hw5
      have g2 := g2.below hw5
      clear h3
      have hw := hw1.trans (hw2.mono hw1.size)
      have hw := hw.trans (hw3.mono hw.size)
      have hw := hw.trans (hw4.mono hw.size)
      have hw := hw.trans (hw5.mono hw.size)
      clear hw1 hw2 hw3 hw4 hw5
      go_wp2_with fail
      refine (image_any x0 d0 p0 z0 S0 x1 d1 p1 z1 S1 x2 d2 p2 z2 S2 x3 d3 p3 z3 K n0 w5 g0 g1 g2 g3 hK hfit).mono ?_
      rintro e w6 ⟨g, f, rfl, hdat, himg, hw6, hg⟩
      have g0 := g0.below hw6
      have g1 := g1.below hw6
      have g2 := g2.below hw6
      have g3 := g3.below hw6
      have hw := hw.trans (hw6.mono hw.size)
      clear hw6
      obtain ⟨N, hN⟩ : ∃ N, N = 14 + sumS S0 S1 S2 n0 + 40 * sumK K n0 + 48 * n0 + 64 := ⟨_, rfl⟩
      rw [← hN] at hdat hfit ⊢
      have HN : Hid (N = 14 + sumS S0 S1 S2 n0 + 40 * sumK K n0 + 48 * n0 + 64) := hN
      clear hN
      go_wp2_with fail
      refine (new_any g N w6).mono ?_
      rintro e w7 ⟨V, rfl, hw7, hix, hv0, hv3⟩
      obtain ⟨I, hI⟩ : ∃ I, I = w6.heap.size := ⟨_, rfl⟩
      rw [← hI] at hix ⊢
      have hne : I ≠ g := by have := hdat.lt; omega
      have hdat := hdat.of_block (hw7.block _ hdat.lt)
      have k0 := g0
      have k1 := g1
      have k2 := g2
      have k3 := g3
      have g0 := g0.below hw7
      have g1 := g1.below hw7
      have g2 := g2.below hw7
      have g3 := g3.below hw7
      have hIw : w.heap.size ≤ I := by rw [hI]; exact hw.size
      have hw := hw.trans (hw7.mono hw.size)
      have hold : ∀ (b o : Nat) (v : Value), w6.cell? ⟨b, o, none⟩ = some v → b ≠ I := fun b o v h => by
        have h' : b < w6.heap.size := World.block_lt_of_cell? _ _ h
        omega
      have HO : Hid (0 < n0 → d0 ≠ I ∧ d1 ≠ I ∧ d2 ≠ I ∧ d3 ≠ I) := fun h => ⟨hold _ _ _ (k0.cell 0 h), hold _ _ _ (k1.cell 0 h), hold _ _ _ (k2.cell 0 h), hold _ _ _ (k3.cell 0 h)⟩
      clear hw7 hold hI k0 k1 k2 k3
      go_wp2_with fail
      refine (hz I g N n0 f S0 S1 S2 K V w7 hix hv0 hv3 hdat hne HN.out hfit himg hK).mono ?_
      rintro e w8 ⟨rfl, hlo, hw8⟩
      have g0 := g0.grown hw8 (fun h => (HO.out h).1)
      have g1 := g1.grown hw8 (fun h => (HO.out h).2.1)
      have g2 := g2.grown hw8 (fun h => (HO.out h).2.2.1)
      have g3 := g3.grown hw8 (fun h => (HO.out h).2.2.2)
      have hw := below_grown hw hw8 hIw
      clear hz hw8 HO hix hv0 hv3 hdat hne HN hfit himg hIw hg
      obtain ⟨a, b, c, hc3, hab, hcs⟩ := hlo
      go_wp2_with fail
      refine (repos_any I (.slice a n0 c) w8 hc3).mono ?_
      rintro e w' ⟨rfl, hw'⟩
      obtain rfl := hw'.symm
      clear hw' hc3
      go_wp2_with fail
      go_loopg [13, 14] n0 (fun m nx i wr => ∃ k : Nat, k ≤ n0 ∧ m = n0 - k ∧ nx = .int .i64 (sumK K k : Nat) ∧ i = .int .i64 k ∧ Below w8.heap.size w8 wr)
      case atStart => exact ⟨0, Nat.zero_le _, rfl, rfl, rfl, Below.refl _ _⟩
      case round =>
        obtain ⟨k, hk, rfl, rfl, rfl, hwr⟩ := hrel
        by_cases hlt : k < n0
        · have hkz : (k : Int) < (n0 : Int) := by omega
          obtain rfl := hab (by omega)
          obtain rfl := g0.top (by omega)
          obtain rfl := g1.top (by omega)
          obtain rfl := g2.top (by omega)
          obtain rfl := g3.top (by omega)
          obtain ⟨q0, q1, q2, q3, q4, q5⟩ := hcs k hlt
          have q0 := Below.cell_of hwr q0
          have q1 := Below.cell_of hwr q1
          have q2 := Below.cell_of hwr q2
          have q3 := Below.cell_of hwr q3
          have q4 := Below.cell_of hwr q4
          have q5 := Below.cell_of hwr q5
          have r0 := Below.cell_of hwr (g0.cell k hlt)
          have r1 := Below.cell_of hwr (g1.cell k hlt)
          have r2 := Below.cell_of hwr (g2.cell k hlt)
          have r3 := Below.cell_of hwr (g3.cell k hlt)
          obtain ⟨l1, l2⟩ := hK k hlt
          have m2 := sumK_mono K (show k + 1 ≤ n0 by omega)
          rw [sumK] at m2
          go_wp2_with fail
          refine (fields_any (S0 k) (S1 k) (S2 k) I _ _ wr).mono ?_
          rintro e w9 ⟨rfl, hw9⟩
          have q0 := Below.cell_of hw9 q0
          have q1 := Below.cell_of hw9 q1
          have r0 := Below.cell_of hw9 r0
          have r1 := Below.cell_of hw9 r1
          have r2 := Below.cell_of hw9 r2
          have r3 := Below.cell_of hw9 r3
          have hwr := hwr.trans (hw9.mono hwr.size)
          clear hw9 q2 q3 q4 q5
          go_wp2_with fail
          go_quiet (fail)
          have kp := fun wx => ptr_same I wx
          have ke : ((sumK K k : Int) + K k != (sumK K k : Int) + K k) = false := by simp
          go_wp2_with fail
          go_roundg (n0 - (k + 1))
          case measure => omega
          case rel => exact ⟨k + 1, by omega, rfl, by rw [sumK]; go_num, by go_num, below_drewN hwr _⟩
        · have hkz : ¬ (k : Int) < (n0 : Int) := by omega
          go_wp2_with fail
          go_ret
          exact ⟨rfl, hw.trans (hwr.mono hw.size)⟩

end Go.Proofs.Qxb6606006aDoor.Ix
