import Derived.Test.Qxb6606006aDoorLoopFour
namespace Go.Proofs.Qxb6606006aDoor.Ix
open Go.RowKit
set_option linter.unusedVariables false
set_option linter.unusedSimpArgs false
attribute [local go_sem ↓] Go.wp_at_zero Go.wp_at_succ

/-- WHAT 'load' LEAVES. -/
def LoadPost (w : World) (I g N SS T SE FE RE n : Nat) (f : Nat → Int) (S0 S1 S2 : Nat → ByteArray) (K : Nat → Int) (e : Ending) (w' : World) : Prop :=
  e = .returned .nilIface ∧ ∃ oS oF, Done4 w w' I g N SS T SE FE RE n f S0 S1 S2 K oS oF

set_option maxHeartbeats 4000000 in
set_option maxRecDepth 100000 in
theorem load_any (I g SS SE FE RE N T n : Nat) (f : Nat → Int) (S0 S1 S2 : Nat → ByteArray) (K : Nat → Int) (V : Nat → Value) (w : World)
    (hix : w.rowIs I 56 12 V) (hv0 : V 0 = .slice (some ⟨g, 0, none⟩) N N) (hdat : w.rowIs g 5 N (fun p => .int .u8 (f p))) (hne : I ≠ g) (hN : N ≤ 1048576) (hN14 : 78 ≤ N) (himg : strAt f 0 hdrS)
    (o1 : 14 ≤ SE) (o2 : SE ≤ FE) (o3 : FE ≤ RE) (o4 : RE + 64 ≤ N) (o5 : N ≤ RE + 64) (htr : ∀ s, s < 8 → le8 f (N - 64 + s * 8) (offs SE FE RE s : Nat))
    (p1 : SE ≤ 14 + SS) (p2 : 14 + SS ≤ SE) (p3 : FE ≤ SE + 40 * T) (p4 : SE + 40 * T ≤ FE) (p5 : RE ≤ FE + 48 * n) (p6 : FE + 48 * n ≤ RE) (hfil : ∀ p, SE ≤ p → p < FE → f p = 0) (hv3 : V 3 = .slice none 0 0)
    (hrecs : ∀ r, r < n → Rec f S0 S1 S2 K FE r) (q1 : sumS S0 S1 S2 n ≤ SS) (q2 : SS ≤ sumS S0 S1 S2 n) (q3 : sumK K n ≤ T) (q4 : T ≤ sumK K n) (hK : ∀ i, i < n → 0 ≤ K i ∧ K i ≤ 255) :
    Calls Tryd.prog 19 #[.pointer (some ⟨I, 0, none⟩)] w (LoadPost w I g N SS T SE FE RE n f S0 S1 S2 K) := by
  have hc0 : w.cell? ⟨I, 0, none⟩ = some (.slice (some ⟨g, 0, none⟩) N N) := by rw [hix.cell (by omega), hv0]
  have kc : ∀ (o : Obj) (C : Array Value), (convert 23 23 (.slice (some ⟨w.heap.size + 1, 0, none⟩) 14 14)).run Tryd.prog ((w.alloc o).alloc (.cells C 5)) = .ok (.slice (some ⟨w.heap.size + 1, 0, none⟩) 14 14) ((w.alloc o).alloc (.cells C 5 (C.size, C.size + 1))) := fun o C => by
    have := Lib.run_convert_bytes_const (P := Tryd.prog) (w.alloc o) 23 5 C 14 14 Tryd.underlying23 Tryd.underlying5
    simpa using this
  go_enter Tryd.func19, Tryd.ntmps19
  go_wp2_with fail
  refine (hasPrefix_any g N N (w.heap.size + 1) 14 _ (by omega) (by omega) hN (fun j hj => ?_) (fun j hj => ?_)).mono ?_
  · have hg := hdat.lt
    rw [World.cell?_alloc_old _ _ _ (by simp; omega), World.cell?_alloc_old _ _ _ (by show g ≠ _; omega)]
    rw [Nat.zero_add, hdat.cell (by omega)]
    have := himg j (by rw [hdrS_size]; exact hj)
    rw [Nat.zero_add] at this
    rw [this]
  · rw [show w.heap.size + 1 = (w.alloc (.cells #[.slice (some ⟨g, 0, none⟩) N N] 23)).heap.size by simp]
    rw [World.cell?_alloc_mark]
    rw [Nat.zero_add]
    rcases (show j = 0 ∨ j = 1 ∨ j = 2 ∨ j = 3 ∨ j = 4 ∨ j = 5 ∨ j = 6 ∨ j = 7 ∨ j = 8 ∨ j = 9 ∨ j = 10 ∨ j = 11 ∨ j = 12 ∨ j = 13 by omega) with rfl | rfl | rfl | rfl | rfl | rfl | rfl | rfl | rfl | rfl | rfl | rfl | rfl | rfl <;> rfl
  rintro e w' ⟨rfl, hw⟩
  subst hw
  clear kc
  go_wp2_with fail
  clear hc0
  -- ████ THE TRAILER's EIGHT NUMBERS
  go_loopg [33] 8 (fun m i wr => ∃ k : Nat, k ≤ 8 ∧ m = 8 - k ∧ i = .int .i64 k ∧ LS w wr I g w.heap.size (w.heap.size + 1 + 1) N f V (fun j => if j < k then (offs SE FE RE j : Nat) else 0))
  case atStart => exact ⟨0, Nat.zero_le _, rfl, rfl, by simpa using ls_start hix hdat hne _ _⟩
  case round =>
    obtain ⟨k, hk, rfl, rfl, hL⟩ := hrel
    by_cases hlt : k < 8
    · have hkz : (k : Int) < 8 := by omega
      have c1 : wr.cell? ⟨w.heap.size, 0, none⟩ = some (.slice (some ⟨g, 0, none⟩) N N) := hL.dv.cell (by omega)
      go_wp2_with fail
      have k1 := cell_regrown c1
      have b1 : (0 : Int) ≤ (N : Int) - 64 + (k : Int) * 8 := by omega
      have b2 : (N : Int) - 64 + (k : Int) * 8 ≤ (N : Int) := by omega
      have hle := offs_le o1 o2 o3 k
      have cU : ∀ d os, Calls Tryd.prog 23 #[.agg #[], .slice (some ⟨g, N - 64 + k * 8, none⟩) (N - (N - 64 + k * 8)) (N - (N - 64 + k * 8))] (Sort.grow (redrawn wr d) os) fun e w'' => e = .returned (.int .u64 (offs SE FE RE k : Nat)) ∧ ∃ p : Regrown, w'' = Sort.grow (redrawn wr p.d) p.os := fun d os =>
        Calls.regrown_of (u64_any f g _ _ _ _ _ (by omega) (fun j hj => cell_regrown (hL.dat.cell (by omega)) d os) (htr k hlt) (by omega) (by omega))
      refine wp_region_quiet_below (by kernel_rfl) (by kernel_rfl) ?_
      repeat (go_big_quiet_step (exact cU _ _))
      refine wpQuiet_nil ?_
      intro _ hw'
      obtain ⟨⟨dq, osq⟩, hw''⟩ := hw'
      subst hw''
      have hLq := hL.below (below_regrown wr dq osq)
      generalize Sort.grow (redrawn wr dq) osq = wq at hLq ⊢
      clear cU k1 c1 hL
      have c3 : wq.cell? ⟨w.heap.size + 1 + 1, k, none⟩ = some (.int .i64 0) := by rw [hLq.ov.cell hlt, if_neg (by omega)]
      have f3 : wq.frozen? ⟨w.heap.size + 1 + 1, k, none⟩ = false := hLq.ov.frozen k
      have hrel : LS w (wq.setCell ⟨w.heap.size + 1 + 1, k, none⟩ (.int .i64 (offs SE FE RE k : Nat))) I g w.heap.size (w.heap.size + 1 + 1) N f V (fun j => if j < k + 1 then (offs SE FE RE j : Nat) else 0) := by
        have h1 := hLq.setO k (offs SE FE RE k : Nat)
        refine ⟨h1.gr, h1.ix, h1.dv, h1.ov.congr (fun j _ => ?_), h1.dat, h1.hI, h1.hg, h1.hD, h1.hO, h1.ne⟩
        by_cases e : j = k
        · subst e; rw [if_pos rfl, if_pos (by omega)]
        · rw [if_neg e]
          by_cases e2 : j < k
          · rw [if_pos e2, if_pos (by omega)]
          · rw [if_neg e2, if_neg (by omega)]
      have HR : Hid (LS w (wq.setCell ⟨w.heap.size + 1 + 1, k, none⟩ (.int .i64 (offs SE FE RE k : Nat))) I g w.heap.size (w.heap.size + 1 + 1) N f V (fun j => if j < k + 1 then (offs SE FE RE j : Nat) else 0)) := hrel
      clear hrel
      by_cases hk0 : k = 0
      · subst hk0
        have e0 : offs SE FE RE 0 = 14 := rfl
        rw [e0] at HR ⊢
        clear hLq
        go_wp2_with fail
        go_roundg (8 - (0 + 1))
        case measure => omega
        case rel => exact ⟨0 + 1, by omega, rfl, by go_num, HR.out⟩
      · have hk0' : ((k : Int) == 0) = false := by simp; omega
        have hkp : (0 : Int) < (k : Int) := by omega
        have hmono := offs_mono o1 o2 o3 (k - 1)
        rw [show k - 1 + 1 = k by omega] at hmono
        have c4 : wq.cell? ⟨w.heap.size + 1 + 1, k - 1, none⟩ = some (.int .i64 (offs SE FE RE (k - 1) : Nat)) := by rw [hLq.ov.cell (by omega), if_pos (by omega)]
        have hle2 := offs_le o1 o2 o3 (k - 1)
        clear hLq
        go_wp2_with fail
        go_roundg (8 - (k + 1))
        case measure => omega
        case rel => exact ⟨k + 1, by omega, rfl, by go_num, HR.out⟩
    · have hkz : ¬ (k : Int) < 8 := by omega
      obtain rfl : k = 8 := by omega
      have c7 : wr.cell? ⟨w.heap.size + 1 + 1, 7, none⟩ = some (.int .i64 RE) := by rw [hL.ov.cell (by omega), if_pos (by omega)]; rfl
      have c1 : wr.cell? ⟨w.heap.size, 0, none⟩ = some (.slice (some ⟨g, 0, none⟩) N N) := hL.dv.cell (by omega)
      have he : ((RE : Int) != (N : Int) - 64) = false := by simp; omega
      obtain ⟨oS, has, has2⟩ : ∃ oS, sec g 14 SE = .slice (some ⟨g, oS, none⟩) SS SS ∧ (0 < SS → oS = 14) := ⟨if SE = 14 then 0 else 14, by unfold sec; rw [show SE - 14 = SS by omega]; split <;> rfl, fun h => if_neg (by omega)⟩
      obtain ⟨oF, haf, haf2⟩ : ∃ oF, sec g SE FE = .slice (some ⟨g, oF, none⟩) (40 * T) (40 * T) ∧ (0 < T → oF = SE) := ⟨if FE = SE then 0 else SE, by unfold sec; rw [show FE - SE = 40 * T by omega]; split <;> rfl, fun h => if_neg (by omega)⟩
      obtain ⟨oR, har, har2⟩ : ∃ oR, sec g FE RE = .slice (some ⟨g, oR, none⟩) (48 * n) (48 * n) ∧ (0 < n → oR = FE) := ⟨if RE = FE then 0 else FE, by unfold sec; rw [show RE - FE = 48 * n by omega]; split <;> rfl, fun h => if_neg (by omega)⟩
      have hat : sec g RE RE = .slice (some ⟨g, 0, none⟩) 0 0 := by simp [sec]
      have HAS : Hid (sec g 14 SE = .slice (some ⟨g, oS, none⟩) SS SS) := has
      have HAF : Hid (sec g SE FE = .slice (some ⟨g, oF, none⟩) (40 * T) (40 * T)) := haf
      have HAR : Hid (sec g FE RE = .slice (some ⟨g, oR, none⟩) (48 * n) (48 * n)) := har
      have HAT : Hid (sec g RE RE = .slice (some ⟨g, 0, none⟩) 0 0) := hat
      have HS2 : Hid (0 < SS → oS = 14) := has2
      have HF2 : Hid (0 < T → oF = SE) := haf2
      have HR2 : Hid (0 < n → oR = FE) := har2
      clear has haf har hat has2 haf2 har2
      go_wp2_with fail
      clear c7 c1 he
      refine (sec_any 0 w.heap.size (w.heap.size + 1 + 1) g N 14 SE wr (by omega) (by omega) (hL.dv.cell (by omega)) (hL.ov.cell (by decide)) (hL.ov.cell (by decide)) (by omega) (by omega) hN).mono ?_
      rintro e w1 ⟨rfl, nd1, hw1⟩
      have hL1 := hL.below (show Below wr.heap.size wr w1 by rw [hw1]; exact below_drewN (Below.refl _ _) _)
      rw [HAS.out]
      clear hw1 hL
      go_wp2_with fail
      refine (sec_any 1 w.heap.size (w.heap.size + 1 + 1) g N SE FE w1 (by omega) (by omega) (hL1.dv.cell (by omega)) (hL1.ov.cell (by decide)) (hL1.ov.cell (by decide)) (by omega) (by omega) hN).mono ?_
      rintro e w2 ⟨rfl, nd2, hw2⟩
      have hL2 := hL1.below (show Below w1.heap.size w1 w2 by rw [hw2]; exact below_drewN (Below.refl _ _) _)
      rw [HAF.out]
      clear hw2 hL1
      have d1 : w2.cell? ⟨I, 1, none⟩ = some (V 1) := hL2.ix.cell (by omega)
      have d2 : w2.cell? ⟨I, 2, none⟩ = some (V 2) := hL2.ix.cell (by omega)
      have f1 : w2.frozen? ⟨I, 1, none⟩ = false := hL2.ix.frozen 1
      have f2 : w2.frozen? ⟨I, 2, none⟩ = false := hL2.ix.frozen 2
      have hL3 := (hL2.setI 1 (.slice (some ⟨g, oS, none⟩) SS SS)).setI 2 (.slice (some ⟨g, oF, none⟩) (40 * T) (40 * T))
      go_wp2_with fail
      generalize (w2.setCell ⟨I, 1, none⟩ (.slice (some ⟨g, oS, none⟩) SS SS)).setCell ⟨I, 2, none⟩ (.slice (some ⟨g, oF, none⟩) (40 * T) (40 * T)) = w3 at hL3 ⊢
      clear d1 d2 f1 f2 hL2
      have cs : ∀ (i : Int) (wx : World), (i = 3 ∨ i = 4 ∨ i = 5 ∨ i = 6) → wx.cell? ⟨w.heap.size, 0, none⟩ = some (.slice (some ⟨g, 0, none⟩) N N) → (∀ j, 3 ≤ j → j < 8 → wx.cell? ⟨w.heap.size + 1 + 1, j, none⟩ = some (.int .i64 RE)) →
          Calls Tryd.prog 24 #[.int .i64 i, .pointer (some ⟨w.heap.size, 0, none⟩), .pointer (some ⟨w.heap.size + 1 + 1, 0, none⟩)] wx fun e w' => e = .returned (.slice (some ⟨g, 0, none⟩) 0 0) ∧ ∃ n, w' = wx.drewN n := fun i wx hi h1 h2 => by
        have := sec_any i w.heap.size (w.heap.size + 1 + 1) g N RE RE wx (by omega) (by omega) h1 (h2 _ (by omega) (by omega)) (h2 _ (by omega) (by omega)) (by omega) (by omega) hN
        unfold SecPost at this
        rw [HAT.out] at this
        exact this
      have HCS : Hid _ := cs
      clear cs
      have d0 : w3.cell? ⟨w.heap.size, 0, none⟩ = some (.slice (some ⟨g, 0, none⟩) N N) := hL3.dv.cell (by omega)
      have d3 : ∀ j, 3 ≤ j → j < 8 → w3.cell? ⟨w.heap.size + 1 + 1, j, none⟩ = some (.int .i64 RE) := fun j h1 h2 => by
        rw [hL3.ov.cell h2, if_pos h2]
        simp [offs, show j ≠ 0 by omega, show j ≠ 1 by omega, show j ≠ 2 by omega]
      have d4 : w3.cell? ⟨I, 4, none⟩ = some (V 4) := hL3.ix.cell (by omega)
      have d5 : w3.cell? ⟨I, 5, none⟩ = some (V 5) := hL3.ix.cell (by omega)
      have f4 : w3.frozen? ⟨I, 4, none⟩ = false := hL3.ix.frozen 4
      have f5 : w3.frozen? ⟨I, 5, none⟩ = false := hL3.ix.frozen 5
      go_region_held3 (fun _ => True) (trivial)
        (first | (go_at_call_of 24 (Value.int IntKind.i64 4); refine (HCS.out _ _ (by omega) (by simp [*]) (by intro j h1 h2; simp [*])).mono ?_; rintro e w' ⟨rfl, nd4, rfl⟩) | (go_at_call_of 24 (Value.int IntKind.i64 3); refine (HCS.out _ _ (by omega) (by simp [*]) (by intro j h1 h2; simp [*])).mono ?_; rintro e w' ⟨rfl, nd3, rfl⟩))
      have hL4 := ((hL3.below (below_drewN (Below.refl _ _) (1 + nd4 + nd3))).setI 4 (.slice (some ⟨g, 0, none⟩) 0 0)).setI 5 (.slice (some ⟨g, 0, none⟩) 0 0)
      generalize ((w3.drewN (1 + nd4 + nd3)).setCell ⟨I, 4, none⟩ (.slice (some ⟨g, 0, none⟩) 0 0)).setCell ⟨I, 5, none⟩ (.slice (some ⟨g, 0, none⟩) 0 0) = w4 at hL4 ⊢
      clear d0 d3 d4 d5 f4 f5 hL3
      go_wp2_with fail
      have d0 : w4.cell? ⟨w.heap.size, 0, none⟩ = some (.slice (some ⟨g, 0, none⟩) N N) := hL4.dv.cell (by omega)
      have d3 : ∀ j, 3 ≤ j → j < 8 → w4.cell? ⟨w.heap.size + 1 + 1, j, none⟩ = some (.int .i64 RE) := fun j h1 h2 => by
        rw [hL4.ov.cell h2, if_pos h2]
        simp [offs, show j ≠ 0 by omega, show j ≠ 1 by omega, show j ≠ 2 by omega]
      have d4 : w4.cell? ⟨I, 6, none⟩ = some (V 6) := hL4.ix.cell (by omega)
      have d5 : w4.cell? ⟨I, 7, none⟩ = some (V 7) := hL4.ix.cell (by omega)
      have f4 : w4.frozen? ⟨I, 6, none⟩ = false := hL4.ix.frozen 6
      have f5 : w4.frozen? ⟨I, 7, none⟩ = false := hL4.ix.frozen 7
      go_region_held3 (fun _ => True) (trivial)
        (first | (go_at_call_of 24 (Value.int IntKind.i64 6); refine (HCS.out _ _ (by omega) (by simp [*]) (by intro j h1 h2; simp [*])).mono ?_; rintro e w' ⟨rfl, nd6, rfl⟩) | (go_at_call_of 24 (Value.int IntKind.i64 5); refine (HCS.out _ _ (by omega) (by simp [*]) (by intro j h1 h2; simp [*])).mono ?_; rintro e w' ⟨rfl, nd5, rfl⟩))
      have hL5 := ((hL4.below (below_drewN (Below.refl _ _) (1 + nd6 + nd5))).setI 6 (.slice (some ⟨g, 0, none⟩) 0 0)).setI 7 (.slice (some ⟨g, 0, none⟩) 0 0)
      generalize ((w4.drewN (1 + nd6 + nd5)).setCell ⟨I, 6, none⟩ (.slice (some ⟨g, 0, none⟩) 0 0)).setCell ⟨I, 7, none⟩ (.slice (some ⟨g, 0, none⟩) 0 0) = w5 at hL5 ⊢
      clear d0 d3 d4 d5 f4 f5 hL4 HCS
      go_wp2_with fail
      refine (sec_any 2 w.heap.size (w.heap.size + 1 + 1) g N FE RE w5 (by omega) (by omega) (hL5.dv.cell (by omega)) (hL5.ov.cell (by decide)) (hL5.ov.cell (by decide)) (by omega) (by omega) hN).mono ?_
      rintro e w6 ⟨rfl, nd2, hw6⟩
      have hL6 := hL5.below (show Below w5.heap.size w5 w6 by rw [hw6]; exact below_drewN (Below.refl _ _) _)
      rw [HAR.out]
      clear hw6 hL5
      have e2 : w6.cell? ⟨I, 2, none⟩ = some (.slice (some ⟨g, oF, none⟩) (40 * T) (40 * T)) := hL6.ix.cell (by omega)
      have e4 : w6.cell? ⟨I, 4, none⟩ = some (.slice (some ⟨g, 0, none⟩) 0 0) := hL6.ix.cell (by omega)
      have e5 : w6.cell? ⟨I, 5, none⟩ = some (.slice (some ⟨g, 0, none⟩) 0 0) := hL6.ix.cell (by omega)
      have e6 : w6.cell? ⟨I, 6, none⟩ = some (.slice (some ⟨g, 0, none⟩) 0 0) := hL6.ix.cell (by omega)
      have e7 : w6.cell? ⟨I, 7, none⟩ = some (.slice (some ⟨g, 0, none⟩) 0 0) := hL6.ix.cell (by omega)
      go_wp2_with fail
      clear e2 e4 e5 e6 e7
      -- ████ THE TABLES, both empty
      have ix0 : ∀ w : World, (Instr.index 46 (.agg #[.slice (some ⟨g, 0, none⟩) 0 0, .slice (some ⟨g, 0, none⟩) 0 0, .slice (some ⟨g, 0, none⟩) 0 0, .slice (some ⟨g, 0, none⟩) 0 0]) (.int .i64 0)).run Tryd.prog w = .ok (.agg #[.slice (some ⟨g, 0, none⟩) 0 0, .slice (some ⟨g, 0, none⟩) 0 0]) w := fun _ => by kernel_rfl
      have ix1 : ∀ w : World, (Instr.index 46 (.agg #[.slice (some ⟨g, 0, none⟩) 0 0, .slice (some ⟨g, 0, none⟩) 0 0, .slice (some ⟨g, 0, none⟩) 0 0, .slice (some ⟨g, 0, none⟩) 0 0]) (.int .i64 1)).run Tryd.prog w = .ok (.agg #[.slice (some ⟨g, 0, none⟩) 0 0, .slice (some ⟨g, 0, none⟩) 0 0]) w := fun _ => by kernel_rfl
      obtain ⟨V6, hV6⟩ : ∃ V6 : Nat → Value, V6 = (fun j => if j = 7 then Value.slice (some ⟨g, 0, none⟩) 0 0 else if j = 6 then Value.slice (some ⟨g, 0, none⟩) 0 0 else if j = 5 then Value.slice (some ⟨g, 0, none⟩) 0 0 else if j = 4 then Value.slice (some ⟨g, 0, none⟩) 0 0 else if j = 2 then Value.slice (some ⟨g, oF, none⟩) (40 * T) (40 * T) else if j = 1 then Value.slice (some ⟨g, oS, none⟩) SS SS else V j) := ⟨_, rfl⟩
      have hL6 : LS w w6 I g w.heap.size (w.heap.size + 1 + 1) N f V6 (fun j => if j < 8 then (offs SE FE RE j : Nat) else 0) := by rw [hV6]; exact hL6
      have v1 : V6 1 = .slice (some ⟨g, oS, none⟩) SS SS := by rw [hV6]; rfl
      have v2 : V6 2 = .slice (some ⟨g, oF, none⟩) (40 * T) (40 * T) := by rw [hV6]; rfl
      have v3 : V6 3 = V 3 := by rw [hV6]; rfl
      clear hV6
      have HV : Hid (V6 1 = .slice (some ⟨g, oS, none⟩) SS SS ∧ V6 2 = .slice (some ⟨g, oF, none⟩) (40 * T) (40 * T) ∧ V6 3 = V 3) := ⟨v1, v2, v3⟩
      clear v1 v2 v3
      go_loopg [127] 2 (fun m i wr => ∃ k : Nat, k ≤ 2 ∧ m = 2 - k ∧ i = .int .i64 k ∧ LS w wr I g w.heap.size (w.heap.size + 1 + 1) N f V6 (fun j => if j < 8 then (offs SE FE RE j : Nat) else 0))
      case atStart => exact ⟨0, Nat.zero_le _, rfl, rfl, hL6⟩
      case round =>
        obtain ⟨k, hk, rfl, rfl, hL7⟩ := hrel
        clear hL6
        rcases (show k = 0 ∨ k = 1 ∨ k = 2 by omega) with rfl | rfl | rfl
        · go_wp2_with fail
          go_roundg 1
          case measure => omega
          case rel => exact ⟨1, by omega, rfl, by go_num, hL7.below ((Below.refl _ _).alloc (Nat.le_refl _) _)⟩
        · go_wp2_with fail
          go_roundg 0
          case measure => omega
          case rel => exact ⟨2, by omega, rfl, by go_num, hL7.below ((Below.refl _ _).alloc (Nat.le_refl _) _)⟩
        · clear ix0 ix1
          obtain ⟨w7, hw7⟩ : ∃ w7 : World, w7 = wr := ⟨_, rfl⟩
          rw [← hw7] at hL7 ⊢
          clear hw7
          go_wp2_with fail
          -- ████ THE FILES
          refine (numFiles_any I (some ⟨g, oF, none⟩) T (40 * T) w7 (by omega) (by rw [hL7.ix.cell (by omega), HV.out.2.1])).mono ?_
          rintro e w' ⟨rfl, hw⟩
          obtain rfl := hw.symm
          clear hw
          go_wp2_with fail
          have HZ : Hid (∀ p, SE ≤ p → p + 8 ≤ FE → le8 f p 0) := fun p h1 h2 j hj => by rw [hfil _ (by omega) (by omega)]; simp [byteOf]
          go_loopg [139] T (fun m i wr => ∃ k : Nat, k ≤ T ∧ m = T - k ∧ i = .int .i64 k ∧ LS w wr I g w.heap.size (w.heap.size + 1 + 1) N f V6 (fun j => if j < 8 then (offs SE FE RE j : Nat) else 0))
          case atStart => exact ⟨0, Nat.zero_le _, rfl, rfl, hL7⟩
          case round =>
            obtain ⟨k, hk, rfl, rfl, hL8⟩ := hrel
            clear hL7
            by_cases hkT : k < T
            · have hkz : (k : Int) < (T : Int) := by omega
              obtain rfl := HF2.out (by omega)
              have e1 : wr.cell? ⟨I, 1, none⟩ = some (.slice (some ⟨g, oS, none⟩) SS SS) := by rw [hL8.ix.cell (by omega), HV.out.1]
              have e2 : wr.cell? ⟨I, 2, none⟩ = some (.slice (some ⟨g, oF, none⟩) (40 * T) (40 * T)) := by rw [hL8.ix.cell (by omega), HV.out.2.1]
              go_wp2_with fail
              have HC : Hid (∀ p, p < N → wr.cell? ⟨g, p, none⟩ = some (.int .u8 (f p))) := fun p hp => hL8.dat.cell hp
              have k1 := cell_regrown e1
              clear e1 e2
              refine wp_region_quiet_below (by kernel_rfl) (by kernel_rfl) ?_
              repeat (go_big_quiet_step (first | (go_at_call 27; exact Calls.regrown_of (number_any f g _ _ _ 0 _ (by omega) (fun j hj => cell_regrown (HC.out _ (by omega)) _ _) (HZ.out _ (by omega) (by omega)) (by omega) (by omega))) | (go_at_call 26; exact Calls.regrown_same (within_any _ _ _ _ _ _ (by omega) (by omega) (by omega) (by omega)))))
              refine wpQuiet_nil ?_
              intro _ hw'
              obtain ⟨⟨dq, osq⟩, hw''⟩ := hw'
              subst hw''
              have hLq := hL8.below (below_regrown wr dq osq)
              generalize Sort.grow (redrawn wr dq) osq = wq at hLq ⊢
              clear k1 hL8 HC
              go_wp2_with fail
              go_roundg (T - (k + 1))
              case measure => omega
              case rel => exact ⟨k + 1, by omega, rfl, by go_num, hLq⟩
            · have hkz : ¬ (k : Int) < (T : Int) := by omega
              obtain rfl : T = k := by omega
              go_wp2_with fail
              have hown0 : wr.ownsRow (w.heap.size + 3) 39 6 (V6 3) 0 (repCells I S0 S1 S2 K 0) := by rw [HV.out.2.2, hv3]; exact World.ownsRow_nil _ _ _ _
              obtain ⟨w8, hw8⟩ : ∃ w8 : World, w8 = wr := ⟨_, rfl⟩
              rw [← hw8] at hL8 hown0 ⊢
              clear hw8 HZ HF2
              refine loop4 I g SS SE FE RE N T n f S0 S1 S2 K oS oF oR V6 w w8 hN hN14 o1 o2 o3 o4 o5 p1 p2 p3 p4 p5 p6 hrecs q1 q2 q3 q4 hK HS2 HR2 hL8 HV.out.1 HV.out.2.1 hown0 _ _ _ _ _ _ _ _ _ _ _ _ _ _ _ _ _ _ _ _ _ _ _ _ _ _ _ _ _ _ _ _ _ _ _ _ _ _ _ _ _ _ _ _ _ _ _ _ _ _ _ _ _ _ _ _ _ _ _ _ _ _ _ _ _ _ _ _ _ _ _ _ _ _ _ _ _ _ _ _ _ _ _ _ _ _ _ _ _ _ _ _ _ _ _ _ _ _ _ _ _ _ _ _ _ _ _ _ _ _ _ _ _ _ _ _ _ _ _ _ _ _ _ _ _ _ _ _ _ _ _ _ _ _ _ _ _ _ _ _ _ _ _ _ _ _ _ _ _ _ _ _ _ _ _ _ _ _ _ _ _ _ _ _ _ _ _ _ _ _ _ _ _ _ _ _ _ _ _ _ _ _ _ _ _ _ _ _ _ _ _ _ _ _ _ _ _ _ _ _ _ _ _ _ _ _ _ _ _ _ _ _ _ _ _ _ _ _ _ _ _ _ _ _ _ _ _ _ _ _ _ _ _ _ _ _ _ _ _ _ _ _ _ _ _ _ _ _ _ _ _ _ _ _ _ _ _ _ _ _ _ _ _ _ _ _ _ _ _ _ _ _ _ _ _ _ _ _ _ _ _ _ _ _ _ _ _ _ _ _ _ _ _ _ _ _ _ _ _ _ _ _ _ _ _ (by kernel_rfl) _ ?_
              intro u1 u2 u3 u4 u5 u6 u7 u8 u9 u10 u11 u12 u14 u15 u16 u17 u18 u19 u20 u21 u22 u23 u24 u25 u26 u27 u28 u29 u30 u31 u32 u33 u34 u35 u36 u37 u38 u39 u40 u41 u42 u43 u44 u45 u46 u47 u48 u49 u50 u51 u52 u53 u54 u55 u56 u57 u58 u59 u60 u61 u62 u63 u64 u65 u66 u67 u68 u69 u70 u71 u72 u73 u74 u75 u76 u77 u78 u79 u80 u81 u82 u83 u84 u85 u86 u87 u88 u89 u90 u91 u92 u93 u94 u95 u96 u97 u98 u99 u100 u101 u102 u103 u104 u105 u106 u107 u108 u109 u110 u111 u112 u113 u114 u115 u116 u117 u118 u119 u120 u121 u122 u123 u124 u125 u126 u127 u128 u129 u130 u131 u132 u133 u134 u135 u136 u137 u138 u139 u140 u141 u142 u143 u144 u145 u146 u147 u148 u149 u150 u151 u152 u153 u154 u155 u156 u157 u158 u159 u160 u161 u162 u163 u164 u165 u166 u167 u168 u169 u170 u171 u172 u173 u174 u175 u176 u177 u178 u179 u180 u181 u182 u183 u184 u185 u186 u187 u188 u189 u190 u191 u192 u193 u194 u195 u196 u197 u198 u199 u200 u201 u202 u203 u204 u205 u206 u207 u208 u209 u210 u211 u212 u213 u214 u215 u216 u217 u218 u219 u220 u221 u222 u223 u224 u225 u226 u227 u228 u229 u230 u231 u232 u233 u234 u235 u236 u237 u238 u239 u240 u241 u242 u243 u244 u245 u246 u247 u248 u249 u250 u251 u252 u253 u254 u255 u256 u257 u258 u259 u260 u261 u262 u263 u264 u265 u266 u267 u268 u269 u270 u271 u272 u273 u274 u275 u276 u277 u278 u279 u280 u281 u282 u283 u284 u285 u286 u287 u288 u289 u290 u291 u292 u293 u294 u295 u296 u297 u298 u299 u300 u301 u302 u303 u304 u305 u306 u307 wy hdone
              clear hL8 hown0 HV
              obtain ⟨V7, hL9, v1, v2, hown⟩ := hdone
              go_wp2_with fail
              refine (numFiles_any I (some ⟨g, oF, none⟩) T (40 * T) wy (by omega) (by rw [hL9.ix.cell (by omega), v2])).mono ?_
              rintro e w' ⟨rfl, hw⟩
              obtain rfl := hw.symm
              clear hw
              have hT : ((sumK K n : Int) != (T : Int)) = false := by simp; omega
              go_wp2_with fail
              go_ret
              exact ⟨rfl, oS, oF, V7, hL9, v1, v2, hown⟩

end Go.Proofs.Qxb6606006aDoor.Ix
