import Derived.Test.Qxb6606006aDoorMain
import Derived.Test.Qxb6606006aDoorSearch
namespace Go.Proofs.Qxb6606006aDoor.Ix
open Go.RowKit
set_option linter.unusedVariables false
set_option linter.unusedSimpArgs false
attribute [local go_sem ↓] Go.wp_at_zero Go.wp_at_succ

theorem up_of_chain {S : Nat → ByteArray} {n : Nat} (h : ∀ j, j + 1 < n → sLess (S j) (S (j + 1)) = true) : ∀ i j, i < j → j < n → sLess (S i) (S j) = true := by
  intro i j hij hj
  induction j with
  | zero => omega
  | succ j ih =>
    by_cases e : i = j
    · subst e; exact h i hj
    · exact bl_trans (ih (by omega) (by omega)) (h j hj)

theorem ptr42 (x : Nat) (b : Nat) (wx : World) : (binOp .neq 42 (.pointer (some ⟨b, x, none⟩)) (.pointer (some ⟨b, x, none⟩))).run Tryd.prog wx = .ok (.bool false) wx := by
  have h : (Tryd.prog.info? 39).isSome = true := by kernel_rfl
  obtain ⟨j, hj⟩ := Option.isSome_iff_exists.1 h
  exact Lib.run_neq_ptr_same (P := Tryd.prog) wx ⟨b, x, none⟩ Tryd.underlying42 hj
theorem ptr42e (x : Nat) (b : Nat) (wx : World) : (binOp .eql 42 (.pointer (some ⟨b, x, none⟩)) (.pointer (some ⟨b, x, none⟩))).run Tryd.prog wx = .ok (.bool true) wx := by
  have h : (Tryd.prog.info? 39).isSome = true := by kernel_rfl
  obtain ⟨j, hj⟩ := Option.isSome_iff_exists.1 h
  exact run_eql_ptr_same (P := Tryd.prog) (w := wx) ⟨b, x, none⟩ Tryd.underlying42 hj

set_option maxHeartbeats 4000000 in
set_option maxRecDepth 100000 in
theorem main2_any (hz : ZOK) (a0 : Option Addr) (b0 o0 n0 c0 : Nat) (S0 : Nat → ByteArray) (a1 : Option Addr) (b1 o1 n1 c1 : Nat) (S1 : Nat → ByteArray) (a2 : Option Addr) (b2 o2 n2 c2 : Nat) (S2 : Nat → ByteArray) (a3 : Option Addr) (b3 o3 n3 c3 : Nat) (K : Nat → Int) (w : World)
    (h0 : IsStrs w a0 b0 o0 n0 S0) (hn0 : n0 ≤ maxLen) (hs0 : ∀ i, i < n0 → (S0 i).size ≤ maxLen) (h1 : IsStrs w a1 b1 o1 n1 S1) (hn1 : n1 ≤ maxLen) (hs1 : ∀ i, i < n1 → (S1 i).size ≤ maxLen) (h2 : IsStrs w a2 b2 o2 n2 S2) (hn2 : n2 ≤ maxLen) (hs2 : ∀ i, i < n2 → (S2 i).size ≤ maxLen)
    (h3 : IsNums w a3 b3 o3 n3 K) (hn3 : n3 ≤ maxLen) (hK : ∀ i, i < n3 → 0 ≤ K i ∧ K i ≤ 255) (s4 : ByteArray) (hz4 : s4.size ≤ maxLen) :
    Calls Tryd.prog 4 #[.slice a0 n0 c0, .slice a1 n1 c1, .slice a2 n2 c2, .slice a3 n3 c3, .string s4] w fun e w' => MainPost w e w' := by
  have hby := bytes14_any a0 b0 o0 n0 c0 S0 a1 b1 o1 n1 c1 S1 a2 b2 o2 n2 c2 S2 a3 n3 c3 s4 w h0 hn0 hs0 h1 hn1 hs1 h2 hn2 hs2 hn3 hz4
  unfold maxLen at hn0 hn1 hn2 hn3 hz4
  clear hs0 hs1 hs2
  go_enter Tryd.func4, Tryd.ntmps4
  go_wp2_with fail
  refine hby.mono ?_
  clear hby
  rintro e w' ⟨b, rfl, hw, hb⟩
  obtain rfl := hw.symm
  cases b with
  | false =>
    clear hb
    go_wp2_with fail
    go_ret
    exact ⟨rfl, Below.refl _ _⟩
  | true =>
    obtain ⟨-, hs0, -, hs1, -, hs2, -, hz5⟩ := hb rfl
    have l4 : ¬ (1048576 : Int) < (s4.size : Int) := by omega
    clear hb
    have HH : Hid (IsStrs w a0 b0 o0 n0 S0 ∧ IsStrs w a1 b1 o1 n1 S1 ∧ IsStrs w a2 b2 o2 n2 S2 ∧ IsNums w a3 b3 o3 n3 K) := ⟨h0, h1, h2, h3⟩
    have HS : Hid ((∀ i, i < n0 → (S0 i).size ≤ 1048576) ∧ (∀ i, i < n1 → (S1 i).size ≤ 1048576) ∧ (∀ i, i < n2 → (S2 i).size ≤ 1048576) ∧ (∀ i, i < n3 → 0 ≤ K i ∧ K i ≤ 255)) := ⟨hs0, hs1, hs2, hK⟩
    clear h0 h1 h2 h3 hs0 hs1 hs2 hK
    by_cases l0 : (65536 : Int) < (n0 : Int)
    · go_wp2_with fail
      go_ret
      exact ⟨rfl, Below.refl _ _⟩
    by_cases l1 : (65536 : Int) < (n1 : Int)
    · go_wp2_with fail
      go_ret
      exact ⟨rfl, Below.refl _ _⟩
    by_cases l2 : (65536 : Int) < (n2 : Int)
    · go_wp2_with fail
      go_ret
      exact ⟨rfl, Below.refl _ _⟩
    by_cases l3 : (65536 : Int) < (n3 : Int)
    · go_wp2_with fail
      go_ret
      exact ⟨rfl, Below.refl _ _⟩
    go_wp2_with fail
    clear hn0 hn1 hn2 hn3
    refine (fits_any a0 b0 o0 n0 c0 S0 a1 b1 o1 n1 c1 S1 a2 b2 o2 n2 c2 S2 a3 b3 o3 n3 c3 K (s4.size : Int) w HH.out.1 HH.out.2.1 HH.out.2.2.1 HH.out.2.2.2 (by omega) (by omega) (by omega) (by omega) HS.out.1 HS.out.2.1 HS.out.2.2.1 HS.out.2.2.2 (by omega) (by omega)).mono ?_
    rintro e w1 ⟨b, rfl, hw1, hb⟩
    cases b with
    | false =>
      clear hb
      go_wp2_with fail
      go_ret
      exact ⟨rfl, hw1⟩
    | true =>
      obtain ⟨e1, e2, e3, hT, hfit⟩ := hb rfl
      obtain rfl := e1.symm
      obtain rfl := e2.symm
      obtain rfl := e3.symm
      clear hb
      obtain ⟨h0, h1, h2, h3⟩ := HH.out
      have h0 := h0.below hw1
      have h1 := h1.below hw1
      have h2 := h2.below hw1
      have h3 := h3.below hw1
      obtain ⟨hs0, hs1, hs2, hK⟩ := HS.out
      clear HH HS l1 l2 l3
      go_wp2_with fail
      go_loopg [11] n0 (fun m i wr => ∃ k : Nat, (k = 0 ∨ k < n0) ∧ m = n0 - k ∧ i = .int .i64 ((k : Int) + 1) ∧ Hid (∀ j, j + 1 < k + 1 → sLess (S0 j) (S0 (j + 1)) = true) ∧ Below w1.heap.size w1 wr)
      case atStart => exact ⟨0, Or.inl rfl, rfl, rfl, fun j hj => absurd hj (by omega), Below.refl _ _⟩
      case round =>
        obtain ⟨k, hk, rfl, rfl, HU, hwr⟩ := hrel
        by_cases hlt : k + 1 < n0
        · have hkz : (k : Int) + 1 < (n0 : Int) := by omega
          obtain rfl := h0.top (by omega)
          have c1' := (h0.below hwr).cell k (by omega)
          have c2' := (h0.below hwr).cell (k + 1) (by omega)
          have z1 := hs0 k (by omega)
          have z2 := hs0 (k + 1) hlt
          go_wp2_with fail
          have k1 := cell_regrown c1'
          have k2 := cell_regrown c2'
          refine wp_region_quiet_below (by kernel_rfl) (by kernel_rfl) ?_
          repeat (go_big_quiet_step (first | (go_at_call 15; exact Calls.regrown_of (less_any _ _ _ (by omega) (by omega)))))
          refine wpQuiet_nil ?_
          intro _ hw'
          obtain ⟨⟨dq, osq⟩, hw''⟩ := hw'
          subst hw''
          have hb := below_regrown wr dq osq
          have hwr := hwr.trans (hb.mono hwr.size)
          generalize Sort.grow (redrawn wr dq) osq = wq at hwr ⊢
          clear hb k1 k2 c1' c2'
          cases hs : sLess (S0 k) (S0 (k + 1)) with
          | false =>
            go_wp2_with fail
            go_ret
            exact ⟨rfl, hw1.trans (hwr.mono hw1.size)⟩
          | true =>
            go_wp2_with fail
            go_roundg (n0 - (k + 1))
            case measure => omega
            case rel =>
              refine ⟨k + 1, Or.inr hlt, rfl, by go_num, fun j hj => ?_, hwr⟩
              by_cases e : j = k
              · subst e; exact hs
              · exact HU.out j (by omega)
        · have hkz : ¬ (k : Int) + 1 < (n0 : Int) := by omega
          have HUP : Hid (∀ i j, i < j → j < n0 → sLess (S0 i) (S0 j) = true) := up_of_chain (fun j hj => HU.out j (by omega))
          clear HU
          have h0 := h0.below hwr
          have h1 := h1.below hwr
          have h2 := h2.below hwr
          have h3 := h3.below hwr
          have hw1 := hw1.trans (hwr.mono hw1.size)
          obtain ⟨w1', hw1'⟩ : ∃ w1' : World, w1' = wr := ⟨_, rfl⟩
          rw [← hw1'] at h0 h1 h2 h3 hw1 ⊢
          clear hw1' hwr hk
          go_wp2_with fail
          refine (cloneS_any a0 b0 o0 n0 c0 S0 w1' h0 (by omega)).mono ?_
          rintro e w2 ⟨x0, d0, p0, z0, rfl, g0, hw2⟩
          have h1 := h1.below hw2
          have h2 := h2.below hw2
          have h3 := h3.below hw2
          clear h0
          go_wp2_with fail
          refine (cloneS_any a1 b1 o1 n0 c1 S1 w2 h1 (by omega)).mono ?_
          rintro e w3 ⟨x1, d1, p1, z1, rfl, g1, hw3⟩
          have g0 := g0.below hw3
          have h2 := h2.below hw3
          have h3 := h3.below hw3
          clear h1
          go_wp2_with fail
          refine (cloneS_any a2 b2 o2 n0 c2 S2 w3 h2 (by omega)).mono ?_
          rintro e w4 ⟨x2, d2, p2, z2, rfl, g2, hw4⟩
          have g0 := g0.below hw4
          have g1 := g1.below hw4
          have h3 := h3.below hw4
          clear h2
          go_wp2_with fail
          refine (cloneN_any a3 b3 o3 n0 c3 K w4 h3 (by omega)).mono ?_
          rintro e w5 ⟨x3, d3, p3, z3, rfl, g3, hw5⟩
          have g0 := g0.below hw5
          have g1 := g1.below hw5
          have g2 := g2.below hw5
          clear h3
          have hw := hw1.trans (hw2.mono hw1.size)
          have hw := hw.trans (hw3.mono hw.size)
          have hw := hw.trans (hw4.mono hw.size)
          have hw := hw.trans (hw5.mono hw.size)
          clear hw1 hw2 hw3 hw4 hw5
          go_wp2_with fail
          refine (image_any x0 d0 p0 z0 S0 x1 d1 p1 z1 S1 x2 d2 p2 z2 S2 x3 d3 p3 z3 K n0 w5 g0 g1 g2 g3 hK hfit).mono ?_
          rintro e w6 ⟨g, f, rfl, hdat, himg, hw6, hg⟩
          have g0 := g0.below hw6
          have g1 := g1.below hw6
          have g2 := g2.below hw6
          have g3 := g3.below hw6
          have hw := hw.trans (hw6.mono hw.size)
          clear hw6
          obtain ⟨N, hN⟩ : ∃ N, N = 14 + sumS S0 S1 S2 n0 + 40 * sumK K n0 + 48 * n0 + 64 := ⟨_, rfl⟩
          rw [← hN] at hdat hfit ⊢
          have HN : Hid (N = 14 + sumS S0 S1 S2 n0 + 40 * sumK K n0 + 48 * n0 + 64) := hN
          clear hN
          go_wp2_with fail
          refine (new_any g N w6).mono ?_
          rintro e w7 ⟨V, rfl, hw7, hix, hv0, hv3⟩
          obtain ⟨I, hI⟩ : ∃ I, I = w6.heap.size := ⟨_, rfl⟩
          rw [← hI] at hix ⊢
          have hne : I ≠ g := by have := hdat.lt; omega
          have hdat := hdat.of_block (hw7.block _ hdat.lt)
          have k0 := g0
          have k1 := g1
          have k2 := g2
          have k3 := g3
          have g0 := g0.below hw7
          have g1 := g1.below hw7
          have g2 := g2.below hw7
          have g3 := g3.below hw7
          have hIw : w.heap.size ≤ I := by rw [hI]; exact hw.size
          have hw := hw.trans (hw7.mono hw.size)
          have hold : ∀ (b o : Nat) (v : Value), w6.cell? ⟨b, o, none⟩ = some v → b ≠ I := fun b o v h => by
            have h' : b < w6.heap.size := World.block_lt_of_cell? _ _ h
            omega
          have HO : Hid (0 < n0 → d0 ≠ I ∧ d1 ≠ I ∧ d2 ≠ I ∧ d3 ≠ I) := fun h => ⟨hold _ _ _ (k0.cell 0 h), hold _ _ _ (k1.cell 0 h), hold _ _ _ (k2.cell 0 h), hold _ _ _ (k3.cell 0 h)⟩
          clear hw7 hold hI k0 k1 k2 k3
          go_wp2_with fail
          refine (hz I g N n0 f S0 S1 S2 K V w7 hix hv0 hv3 hdat hne HN.out hfit himg hK).mono ?_
          rintro e w8 ⟨rfl, hlo, hw8⟩
          have g0 := g0.grown hw8 (fun h => (HO.out h).1)
          have g1 := g1.grown hw8 (fun h => (HO.out h).2.1)
          have g2 := g2.grown hw8 (fun h => (HO.out h).2.2.1)
          have g3 := g3.grown hw8 (fun h => (HO.out h).2.2.2)
          have hw := below_grown hw hw8 hIw
          clear hz hw8 HO hix hv0 hv3 hdat hne HN hfit himg hIw hg
          obtain ⟨a, b, c, hc3, hab, hcs⟩ := hlo
          go_wp2_with fail
          refine (repos_any I (.slice a n0 c) w8 hc3).mono ?_
          rintro e w' ⟨rfl, hw'⟩
          obtain rfl := hw'.symm
          clear hw'
          go_wp2_with fail
          clear g1 g2 g3
          go_loopg [16, 17] n0 (fun m wt i wr => ∃ (k : Nat) (y : Int), k ≤ n0 ∧ m = n0 - k ∧ wt = .int .i64 y ∧ i = .int .i64 k ∧ Hid ((y = -1 ∧ ∀ j, j < k → S0 j ≠ s4) ∨ ∃ j : Nat, j < k ∧ S0 j = s4 ∧ y = j) ∧ Below w8.heap.size w8 wr)
          case atStart => exact ⟨0, -1, Nat.zero_le _, rfl, rfl, rfl, Or.inl ⟨rfl, fun j hj => absurd hj (Nat.not_lt_zero _)⟩, Below.refl _ _⟩
          case round =>
            obtain ⟨k, y, hk, rfl, rfl, rfl, HY, hwr⟩ := hrel
            have HN : Hid (∀ i, i < n0 → wr.cell? ⟨b, i * 6, none⟩ = some (.string (S0 i))) := fun i hi => Below.cell_of hwr (hcs i hi).1
            have HA : Hid (0 < n0 → a = some ⟨b, 0, none⟩) := hab
            have c3 := Below.cell_of hwr hc3
            by_cases hlt : k < n0
            · have hkz : (k : Int) < (n0 : Int) := by omega
              obtain rfl := hab (by omega)
              obtain rfl := g0.top (by omega)
              have q0 := HN.out k hlt
              have r0 := Below.cell_of hwr (g0.cell k hlt)
              clear hcs
              have cF : ∀ d os, Calls Tryd.prog 16 #[.pointer (some ⟨I, 0, none⟩), .string (S0 k)] (Sort.grow (redrawn wr d) os) fun e w'' => e = .returned (.pointer (some ⟨b, k * 6, none⟩)) ∧ ∃ p : Regrown, w'' = Sort.grow (redrawn wr p.d) p.os := fun d os =>
                Calls.regrown_of ((find_any I b n0 c _ S0 (S0 k) _ (cell_regrown c3 d os) HA.out (fun i hi => cell_regrown (HN.out i hi) d os) (by omega) HUP.out).mono (fun e w' h => by
                  obtain ⟨v, he, h1, -, hb⟩ := h
                  exact ⟨by rw [he, h1 k hlt rfl], hb⟩))
              have k1 := cell_regrown q0
              have k2 := cell_regrown r0
              have kp := fun wx => ptr42 (k * 6) b wx
              go_wp2_with fail
              refine wp_region_quiet_below (by kernel_rfl) (by kernel_rfl) ?_
              repeat (go_big_quiet_step (first | (go_at_call 16; exact cF _ _)))
              refine wpQuiet_nil ?_
              intro _ hw'
              obtain ⟨⟨dq, osq⟩, hw''⟩ := hw'
              subst hw''
              have r0 := k2 dq osq
              have hb := below_regrown wr dq osq
              have hwr := hwr.trans (hb.mono hwr.size)
              generalize Sort.grow (redrawn wr dq) osq = wq at hwr r0 ⊢
              clear hb k1 k2 kp cF q0 c3
              by_cases he : S0 k = s4
              · have hs : ((S0 k).toList == s4.toList) = true := by rw [he]; simp
                go_wp2_with fail
                go_roundg (n0 - (k + 1))
                case measure => omega
                case rel => exact ⟨k + 1, k, by omega, rfl, rfl, by go_num, Or.inr ⟨k, by omega, he, rfl⟩, hwr⟩
              · have hs : ((S0 k).toList == s4.toList) = false := by
                  rw [beq_eq_false_iff_ne]
                  intro h
                  rw [ByteArray.toList_eq, ByteArray.toList_eq] at h
                  exact he (Go.WideShapes.bytes_inj h)
                go_wp2_with fail
                go_roundg (n0 - (k + 1))
                case measure => omega
                case rel =>
                  refine ⟨k + 1, y, by omega, rfl, rfl, by go_num, ?_, hwr⟩
                  rcases HY.out with ⟨e, h⟩ | ⟨j, h1, h2, h3⟩
                  · refine Or.inl ⟨e, fun j hj => ?_⟩
                    by_cases e2 : j = k
                    · subst e2; exact he
                    · exact h j (by omega)
                  · exact Or.inr ⟨j, by omega, h2, h3⟩
            · have hkz : ¬ (k : Int) < (n0 : Int) := by omega
              obtain rfl : n0 = k := by omega
              go_wp2_with fail
              refine (find_any I b n0 c _ S0 s4 wr c3 HA.out HN.out (by omega) HUP.out).mono ?_
              rintro e w9 ⟨v, rfl, hf, hnf, hw9⟩
              have hwr := hwr.trans (hw9.mono hwr.size)
              clear hw9 c3 HN
              rcases HY.out with ⟨e, h⟩ | ⟨j, h1, h2, h3⟩
              · subst e
                obtain rfl := hnf h
                clear hf hnf
                go_wp2_with fail
                go_ret
                exact ⟨rfl, hw.trans (hwr.mono hw.size)⟩
              · subst h3
                obtain rfl := hf j h1 h2
                obtain rfl := HA.out (by omega)
                clear hf hnf
                have hjz : ¬ (j : Int) < 0 := by omega
                have hjn : (j : Int) < (n0 : Int) := by omega
                have kp := fun wx => ptr42e (j * 6) b wx
                go_wp2_with fail
                go_ret
                exact ⟨rfl, hw.trans (hwr.mono hw.size)⟩

end Go.Proofs.Qxb6606006aDoor.Ix
