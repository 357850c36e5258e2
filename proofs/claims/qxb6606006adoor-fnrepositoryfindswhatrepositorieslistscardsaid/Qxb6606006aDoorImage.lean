import Derived.Test.Qxb6606006aDoorImg
namespace Go.Proofs.Qxb6606006aDoor.Ix
open Go.RowKit
set_option linter.unusedVariables false

def ImagePost (S0 S1 S2 : Nat → ByteArray) (K : Nat → Int) (n : Nat) (w : World) (e : Ending) (w' : World) : Prop :=
  ∃ (g : Nat) (f : Nat → Int), e = .returned (.slice (some ⟨g, 0, none⟩) (14 + sumS S0 S1 S2 n + 40 * sumK K n + 48 * n + 64) (14 + sumS S0 S1 S2 n + 40 * sumK K n + 48 * n + 64)) ∧
    w'.rowIs g 5 (14 + sumS S0 S1 S2 n + 40 * sumK K n + 48 * n + 64) (fun p => .int .u8 (f p)) ∧ Img f S0 S1 S2 K n ∧ Below w.heap.size w w' ∧ w.heap.size ≤ g

/-- The image while its trailer is written: the first k numbers stand. -/
structure Tr (f : Nat → Int) (S0 S1 S2 : Nat → ByteArray) (K : Nat → Int) (n RE k : Nat) : Prop extends Part f S0 S1 S2 K n n where
  t0 : le8 f RE 14
  t1 : le8 f (RE + 8) ((14 + sumS S0 S1 S2 n : Nat) : Int)
  t2 : le8 f (RE + 16) ((14 + sumS S0 S1 S2 n + 40 * sumK K n : Nat) : Int)
  t3 : ∀ s, 3 ≤ s → s < k → le8 f (RE + 8 * s) (RE : Int)

theorem tr_start {f : Nat → Int} {S0 S1 S2 : Nat → ByteArray} {K : Nat → Int} {n RE : Nat} (h : Part f S0 S1 S2 K n n) (hRE : RE = 14 + sumS S0 S1 S2 n + 40 * sumK K n + 48 * n) :
    Tr (put8 (put8 (put8 f RE 14) (RE + 8) ((14 + sumS S0 S1 S2 n : Nat) : Int)) (RE + 16) ((14 + sumS S0 S1 S2 n + 40 * sumK K n : Nat) : Int)) S0 S1 S2 K n RE 3 := by
  refine ⟨h.congr (Nat.le_refl _) (fun p hp => ?_), ?_, ?_, ?_, fun s h1 h2 => absurd h2 (by omega)⟩
  · rw [put8_off (by omega), put8_off (by omega), put8_off (by omega)]
  · refine le8.put8 ?_ (by omega); refine le8.put8 ?_ (by omega); exact le8_put8 _ _ _
  · refine le8.put8 ?_ (by omega); exact le8_put8 _ _ _
  · exact le8_put8 _ _ _

theorem Tr.step {f : Nat → Int} {S0 S1 S2 : Nat → ByteArray} {K : Nat → Int} {n RE k : Nat} (h : Tr f S0 S1 S2 K n RE k) (hRE : RE = 14 + sumS S0 S1 S2 n + 40 * sumK K n + 48 * n) (h3 : 3 ≤ k) (h8 : k < 8) :
    Tr (put8 f (RE + 8 * k) (RE : Int)) S0 S1 S2 K n RE (k + 1) := by
  refine ⟨h.toPart.congr (Nat.le_refl _) (fun p hp => ?_), h.t0.put8 (by omega), h.t1.put8 (by omega), h.t2.put8 (by omega), fun s h1 h2 => ?_⟩
  · rw [put8_off (by omega)]
  · by_cases e : s = k
    · subst e; exact le8_put8 _ _ _
    · exact (h.t3 s h1 (by omega)).put8 (by omega)

theorem Tr.img {f : Nat → Int} {S0 S1 S2 : Nat → ByteArray} {K : Nat → Int} {n RE : Nat} (h : Tr f S0 S1 S2 K n RE 8) (hRE : RE = 14 + sumS S0 S1 S2 n + 40 * sumK K n + 48 * n) : Img f S0 S1 S2 K n := by
  subst hRE
  exact ⟨h.toPart, h.t0, h.t1, h.t2, h.t3⟩

set_option maxHeartbeats 4000000 in
set_option maxRecDepth 100000 in
theorem image_any (a0 : Option Addr) (b0 o0 c0 : Nat) (S0 : Nat → ByteArray) (a1 : Option Addr) (b1 o1 c1 : Nat) (S1 : Nat → ByteArray) (a2 : Option Addr) (b2 o2 c2 : Nat) (S2 : Nat → ByteArray) (a3 : Option Addr) (b3 o3 c3 : Nat) (K : Nat → Int) (n : Nat) (w : World)
    (h0 : IsStrs w a0 b0 o0 n S0) (h1 : IsStrs w a1 b1 o1 n S1) (h2 : IsStrs w a2 b2 o2 n S2) (h3 : IsNums w a3 b3 o3 n K)
    (hK : ∀ i, i < n → 0 ≤ K i ∧ K i ≤ 255) (hfit : 14 + sumS S0 S1 S2 n + 40 * sumK K n + 48 * n + 64 ≤ 1048576) :
    Calls Tryd.prog 10 #[.slice a0 n c0, .slice a1 n c1, .slice a2 n c2, .slice a3 n c3] w fun e w' => ImagePost S0 S1 S2 K n w e w' := by
  go_enter Tryd.func10, Tryd.ntmps10
  go_wp2
  go_loopg [10, 11, 12] n (fun g s t i wr => ∃ k : Nat, k ≤ n ∧ g = n - k ∧ i = .int .i64 k ∧ t = .int .i64 (sumK K k) ∧ s = .int .i64 (sumS S0 S1 S2 k) ∧ Below w.heap.size w wr)
  case atStart => exact ⟨0, Nat.zero_le _, rfl, rfl, rfl, rfl, Below.refl _ _⟩
  case round =>
    obtain ⟨k, hk, rfl, rfl, rfl, rfl, hbel⟩ := hrel
    have hb1 := sumS_mono S0 S1 S2 hk
    have hb2 := sumK_mono K hk
    by_cases hlt : k < n
    · have hkz : (k : Int) < (n : Int) := by omega
      have hb3 := sumS_mono S0 S1 S2 (show k + 1 ≤ n by omega)
      rw [sumS] at hb3
      obtain rfl := h0.top (by omega)
      obtain rfl := h1.top (by omega)
      obtain rfl := h2.top (by omega)
      obtain rfl := h3.top (by omega)
      have g0 := (h0.below hbel).cell k hlt
      have g1 := (h1.below hbel).cell k hlt
      have g2 := (h2.below hbel).cell k hlt
      have g3 := (h3.below hbel).cell k hlt
      obtain ⟨l3, l4⟩ := hK k hlt
      clear h0 h1 h2 h3 hK
      go_wp2_with fail
      go_quiet (fail)
      go_wp2
      go_roundg (n - (k + 1))
      case measure => omega
      case rel =>
        go_light
        exact ⟨k + 1, by omega, rfl, by go_num, by rw [sumK]; go_num, by rw [sumS]; go_num, below_drewN hbel _⟩
    · have hkz : ¬ (k : Int) < (n : Int) := by omega
      obtain rfl : n = k := by omega
      have h0 := h0.below hbel
      have h1 := h1.below hbel
      have h2 := h2.below hbel
      have h3 := h3.below hbel
      obtain ⟨w1, hw1⟩ : ∃ w1 : World, w1 = wr := ⟨_, rfl⟩
      rw [← hw1] at h0 h1 h2 h3 hbel ⊢
      clear hw1 hb1 hb2 hlt hk
      obtain ⟨N, hN⟩ : ∃ N, N = 14 + sumS S0 S1 S2 n + 40 * sumK K n + 48 * n + 64 := ⟨_, rfl⟩
      have hmk : ∀ w : World, (Instr.makeSlice 23 (.int .i64 (14 + (sumS S0 S1 S2 n : Int) + 40 * (sumK K n : Int) + 48 * (n : Int) + 64)) (.int .i64 (14 + (sumS S0 S1 S2 n : Int) + 40 * (sumK K n : Int) + 48 * (n : Int) + 64))).run Tryd.prog w
          = .ok (.slice (some ⟨w.heap.size, 0, none⟩) N N) (w.alloc (.cells (madeCells #[.int .u8 0] N) 5)) := fun w => by
        rw [show (14 + (sumS S0 S1 S2 n : Int) + 40 * (sumK K n : Int) + 48 * (n : Int) + 64) = ((N : Nat) : Int) by omega]
        exact run_make_row' (P := Tryd.prog) 23 5 (.int .u8 0) 1 Tryd.underlying23 info5 rfl .i64 .i64 N (by omega) (by omega) w
      have HN : Hid (N = 14 + sumS S0 S1 S2 n + 40 * sumK K n + 48 * n + 64) := hN
      have hN1 : 78 ≤ N := by omega
      have hN2 : N ≤ 1048576 := by omega
      clear hN
      go_wp2_with fail
      have hr0 := World.rowIs_made w1 (.int .u8 0) N 5
      obtain ⟨g, hg⟩ : ∃ g, g = w1.heap.size := ⟨_, rfl⟩
      have hB : 0 < n → b0 < g ∧ b1 < g ∧ b2 < g ∧ b3 < g := fun hn => by
        rw [hg]
        exact ⟨World.block_lt_of_cell? _ _ (h0.cell 0 hn), World.block_lt_of_cell? _ _ (h1.cell 0 hn), World.block_lt_of_cell? _ _ (h2.cell 0 hn), World.block_lt_of_cell? _ _ (h3.cell 0 hn)⟩
      have hbel1 : Below w.heap.size w (w1.alloc (.cells (madeCells #[.int .u8 0] N) 5)) := hbel.alloc hbel.size _
      have h0 := h0.below ((Below.refl _ _).alloc (Nat.le_refl _) (.cells (madeCells #[.int .u8 0] N) 5))
      have h1 := h1.below ((Below.refl _ _).alloc (Nat.le_refl _) (.cells (madeCells #[.int .u8 0] N) 5))
      have h2 := h2.below ((Below.refl _ _).alloc (Nat.le_refl _) (.cells (madeCells #[.int .u8 0] N) 5))
      have h3 := h3.below ((Below.refl _ _).alloc (Nat.le_refl _) (.cells (madeCells #[.int .u8 0] N) 5))
      obtain ⟨w2, hw2⟩ : ∃ w2 : World, w2 = w1.alloc (.cells (madeCells #[.int .u8 0] N) 5) := ⟨_, rfl⟩
      have hgw : w.heap.size ≤ g := by rw [hg]; exact hbel.size
      rw [← hw2] at hr0 hbel1 h0 h1 h2 h3 ⊢
      rw [← hg] at hr0 ⊢
      clear hmk hw2 hg
      go_loopg [18] 14 (fun m i wr => ∃ k : Nat, k ≤ 14 ∧ m = 14 - k ∧ i = .int .i64 k ∧ wr.rowIs g 5 N (fun p => .int .u8 (if p < k then byteAt hdrS p else 0)) ∧ Below g w2 wr ∧ wr.heap.size = w2.heap.size)
      case atStart => exact ⟨0, Nat.zero_le _, rfl, rfl, hr0.congr (fun p _ => by simp), Below.refl _ _, rfl⟩
      case round =>
        obtain ⟨k, hk, rfl, rfl, hrow, hbel2, hsz⟩ := hrel
        by_cases hlt : k < 14
        · have hkz : (k : Int) < 14 := by omega
          have g1 : wr.cell? ⟨g, k, none⟩ = some (.int .u8 0) := by rw [hrow.cell (by omega), if_neg (by omega)]
          have g2 : wr.frozen? ⟨g, k, none⟩ = false := hrow.frozen _
          go_wp2_with fail
          go_roundg (14 - (k + 1))
          case measure => omega
          case rel =>
            refine ⟨k + 1, by omega, rfl, by go_num, (hrow.set _ _).congr (fun p hp => ?_), hbel2.setCell (Nat.le_refl _) _, by simpa [World.setCell] using hsz⟩
            go_light
            by_cases e : p = k
            · subst e
              rw [if_pos rfl, if_pos (by omega)]
              unfold byteAt
              rw [dif_pos (by rw [hdrS_size]; omega)]
              rfl
            · rw [if_neg e]
              by_cases e2 : p < k
              · rw [if_pos e2, if_pos (by omega)]
              · rw [if_neg e2, if_neg (by omega)]
        · have hkz : ¬ (k : Int) < 14 := by omega
          obtain rfl : k = 14 := by omega
          clear hr0 hkz hlt hk
          -- ████ THE REPOSITORIES
          have hpart : Part (fun p => if p < 14 then byteAt hdrS p else 0) S0 S1 S2 K n 0 := ⟨fun j hj => by simp only [Nat.zero_add]; rw [if_pos (by rw [hdrS_size] at hj; omega)], fun p h1 _ => by rw [if_neg (by omega)], fun r hr => absurd hr (Nat.not_lt_zero _)⟩
          go_wp2_with fail
          go_loopg [19, 20, 21] n (fun m at_ nx i wr => ∃ (k : Nat) (f : Nat → Int), k ≤ n ∧ m = n - k ∧ i = .int .i64 k ∧ at_ = .int .i64 (14 + (sumS S0 S1 S2 k : Int)) ∧ nx = .int .i64 (sumK K k) ∧ wr.rowIs g 5 N (fun p => .int .u8 (f p)) ∧ Part f S0 S1 S2 K n k ∧ Below g w2 wr)
          case atStart => exact ⟨0, _, Nat.zero_le _, rfl, rfl, rfl, rfl, hrow, hpart, hbel2⟩
          case round =>
            obtain ⟨k, f, hk, rfl, rfl, rfl, rfl, hrw, hprt, hbl⟩ := hrel
            clear hpart hrow hbel2 hsz
            have hNle : 14 + sumS S0 S1 S2 n + 40 * sumK K n + 48 * n + 64 ≤ N := by rw [HN.out]; exact Nat.le_refl _
            by_cases hlt : k < n
            · have hkz : (k : Int) < (n : Int) := by omega
              obtain rfl := h0.top (by omega)
              obtain rfl := h1.top (by omega)
              obtain rfl := h2.top (by omega)
              obtain rfl := h3.top (by omega)
              obtain ⟨hB0, hB1, hB2, hB3⟩ := hB (by omega)
              have HC : Hid (∀ wx : World, Below g w2 wx → wx.cell? ⟨b0, o0 + k, none⟩ = some (.string (S0 k)) ∧ wx.cell? ⟨b1, o1 + k, none⟩ = some (.string (S1 k)) ∧ wx.cell? ⟨b2, o2 + k, none⟩ = some (.string (S2 k)) ∧ wx.cell? ⟨b3, o3 + k, none⟩ = some (.int .u8 (K k))) := fun wx hx =>
                ⟨by rw [hx.cell (p := ⟨b0, o0 + k, none⟩) hB0]; exact h0.cell k hlt, by rw [hx.cell (p := ⟨b1, o1 + k, none⟩) hB1]; exact h1.cell k hlt, by rw [hx.cell (p := ⟨b2, o2 + k, none⟩) hB2]; exact h2.cell k hlt, by rw [hx.cell (p := ⟨b3, o3 + k, none⟩) hB3]; exact h3.cell k hlt⟩
              obtain ⟨l3, l4⟩ := hK k hlt
              have hb3 := sumS_mono S0 S1 S2 (show k + 1 ≤ n by omega)
              rw [sumS] at hb3
              have hb4 := sumK_mono K (show k + 1 ≤ n by omega)
              rw [sumK] at hb4
              obtain ⟨FE, hFE⟩ : ∃ FE, FE = 14 + sumS S0 S1 S2 n + 40 * sumK K n := ⟨_, rfl⟩
              have hprt' := part_step hprt hlt
              rw [← hFE] at hprt'
              have HP : Hid (Part (putRec f S0 S1 S2 K FE k) S0 S1 S2 K n (k + 1)) := hprt'
              have HFE : Hid (FE = 14 + sumS S0 S1 S2 n + 40 * sumK K n) := hFE
              clear hprt' hprt hFE
              go_wp2_with fail
              refine (put8_any g N _ _ _ _ hrw (by omega) (by omega) hN2 (by omega) (by omega)).mono ?_
              rintro e w3 ⟨rfl, hrw0, hbl0', _⟩
              have hrw0 : w3.rowIs g 5 N (fun p => .int .u8 ((put8 f (FE + 48 * k) (((sumS S0 S1 S2 k : Nat) : Int))) p)) := hrw0.congr (fun p _ => by rw [HFE.out]; congr 2; all_goals omega)
              have hbl0 := hbl.trans hbl0'
              clear hrw hbl0' hbl
              obtain ⟨q0, _, _, _⟩ := HC.out w3 hbl0
              go_wp2_with fail
              refine (put8_any g N _ _ _ _ hrw0 (by omega) (by omega) hN2 (by omega) (by omega)).mono ?_
              rintro e w4 ⟨rfl, hrw1, hbl1', _⟩
              have hrw1 : w4.rowIs g 5 N (fun p => .int .u8 ((put8 (put8 f (FE + 48 * k) (((sumS S0 S1 S2 k : Nat) : Int))) (FE + 48 * k + 8) (((S0 k).size : Int))) p)) := hrw1.congr (fun p _ => by rw [HFE.out]; congr 2; all_goals omega)
              have hbl1 := hbl0.trans hbl1'
              clear hrw0 hbl1' hbl0 q0
              obtain ⟨_, q1, _, _⟩ := HC.out w4 hbl1
              go_wp2_with fail
              refine (put8_any g N _ _ _ _ hrw1 (by omega) (by omega) hN2 (by omega) (by omega)).mono ?_
              rintro e w5 ⟨rfl, hrw2, hbl2', _⟩
              have hrw2 : w5.rowIs g 5 N (fun p => .int .u8 ((put8 (put8 (put8 f (FE + 48 * k) (((sumS S0 S1 S2 k : Nat) : Int))) (FE + 48 * k + 8) (((S0 k).size : Int))) (FE + 48 * k + 16) (((S1 k).size : Int))) p)) := hrw2.congr (fun p _ => by rw [HFE.out]; congr 2; all_goals omega)
              have hbl2 := hbl1.trans hbl2'
              clear hrw1 hbl2' hbl1 q1
              obtain ⟨_, _, q2, _⟩ := HC.out w5 hbl2
              go_wp2_with fail
              refine (put8_any g N _ _ _ _ hrw2 (by omega) (by omega) hN2 (by omega) (by omega)).mono ?_
              rintro e w6 ⟨rfl, hrw3, hbl3', _⟩
              have hrw3 : w6.rowIs g 5 N (fun p => .int .u8 ((put8 (put8 (put8 (put8 f (FE + 48 * k) (((sumS S0 S1 S2 k : Nat) : Int))) (FE + 48 * k + 8) (((S0 k).size : Int))) (FE + 48 * k + 16) (((S1 k).size : Int))) (FE + 48 * k + 24) (((S2 k).size : Int))) p)) := hrw3.congr (fun p _ => by rw [HFE.out]; congr 2; all_goals omega)
              have hbl3 := hbl2.trans hbl3'
              clear hrw2 hbl3' hbl2 q2
              go_wp2_with fail
              refine (put8_any g N _ _ _ _ hrw3 (by omega) (by omega) hN2 (by omega) (by omega)).mono ?_
              rintro e w7 ⟨rfl, hrw4, hbl4', _⟩
              have hrw4 : w7.rowIs g 5 N (fun p => .int .u8 ((put8 (put8 (put8 (put8 (put8 f (FE + 48 * k) (((sumS S0 S1 S2 k : Nat) : Int))) (FE + 48 * k + 8) (((S0 k).size : Int))) (FE + 48 * k + 16) (((S1 k).size : Int))) (FE + 48 * k + 24) (((S2 k).size : Int))) (FE + 48 * k + 32) (((sumK K k : Nat) : Int))) p)) := hrw4.congr (fun p _ => by rw [HFE.out]; congr 2; all_goals omega)
              have hbl4 := hbl3.trans hbl4'
              clear hrw3 hbl4' hbl3
              obtain ⟨_, _, _, q3⟩ := HC.out w7 hbl4
              go_wp2_with fail
              refine (put8_any g N _ _ _ _ hrw4 (by omega) (by omega) hN2 (by omega) (by omega)).mono ?_
              rintro e w8 ⟨rfl, hrw5, hbl5', _⟩
              have hrw5 : w8.rowIs g 5 N (fun p => .int .u8 ((put8 (put8 (put8 (put8 (put8 (put8 f (FE + 48 * k) (((sumS S0 S1 S2 k : Nat) : Int))) (FE + 48 * k + 8) (((S0 k).size : Int))) (FE + 48 * k + 16) (((S1 k).size : Int))) (FE + 48 * k + 24) (((S2 k).size : Int))) (FE + 48 * k + 32) (((sumK K k : Nat) : Int))) (FE + 48 * k + 40) (K k)) p)) := hrw5.congr (fun p _ => by rw [HFE.out]; congr 2; all_goals omega)
              have hbl5 := hbl4.trans hbl5'
              clear hrw4 hbl5' hbl4 q3
              obtain ⟨_, _, _, q3⟩ := HC.out w8 hbl5
              obtain ⟨q0, _, _, _⟩ := HC.out w8 hbl5
              go_wp2_with fail
              refine (puts_any g N _ _ _ _ hrw5 (by omega) (by omega) hN2).mono ?_
              rintro e w9 ⟨rfl, hrw6, hbl6', _⟩
              have hrw6 : w9.rowIs g 5 N (fun p => .int .u8 ((puts (put8 (put8 (put8 (put8 (put8 (put8 f (FE + 48 * k) (((sumS S0 S1 S2 k : Nat) : Int))) (FE + 48 * k + 8) (((S0 k).size : Int))) (FE + 48 * k + 16) (((S1 k).size : Int))) (FE + 48 * k + 24) (((S2 k).size : Int))) (FE + 48 * k + 32) (((sumK K k : Nat) : Int))) (FE + 48 * k + 40) (K k)) (14 + sumS S0 S1 S2 k) (S0 k)) p)) := hrw6.congr (fun p _ => by congr 2; all_goals omega)
              have hbl6 := hbl5.trans hbl6'
              clear hrw5 hbl6' hbl5 q0
              obtain ⟨_, q1, _, _⟩ := HC.out w9 hbl6
              go_wp2_with fail
              refine (puts_any g N _ _ _ _ hrw6 (by omega) (by omega) hN2).mono ?_
              rintro e w10 ⟨rfl, hrw7, hbl7', _⟩
              have hrw7 : w10.rowIs g 5 N (fun p => .int .u8 ((puts (puts (put8 (put8 (put8 (put8 (put8 (put8 f (FE + 48 * k) (((sumS S0 S1 S2 k : Nat) : Int))) (FE + 48 * k + 8) (((S0 k).size : Int))) (FE + 48 * k + 16) (((S1 k).size : Int))) (FE + 48 * k + 24) (((S2 k).size : Int))) (FE + 48 * k + 32) (((sumK K k : Nat) : Int))) (FE + 48 * k + 40) (K k)) (14 + sumS S0 S1 S2 k) (S0 k)) (14 + sumS S0 S1 S2 k + (S0 k).size) (S1 k)) p)) := hrw7.congr (fun p _ => by congr 2; all_goals omega)
              have hbl7 := hbl6.trans hbl7'
              clear hrw6 hbl7' hbl6 q1
              obtain ⟨_, _, q2, _⟩ := HC.out w10 hbl7
              go_wp2_with fail
              refine (puts_any g N _ _ _ _ hrw7 (by omega) (by omega) hN2).mono ?_
              rintro e w11 ⟨rfl, hrw8, hbl8', _⟩
              have hrw8 : w11.rowIs g 5 N (fun p => .int .u8 ((puts (puts (puts (put8 (put8 (put8 (put8 (put8 (put8 f (FE + 48 * k) (((sumS S0 S1 S2 k : Nat) : Int))) (FE + 48 * k + 8) (((S0 k).size : Int))) (FE + 48 * k + 16) (((S1 k).size : Int))) (FE + 48 * k + 24) (((S2 k).size : Int))) (FE + 48 * k + 32) (((sumK K k : Nat) : Int))) (FE + 48 * k + 40) (K k)) (14 + sumS S0 S1 S2 k) (S0 k)) (14 + sumS S0 S1 S2 k + (S0 k).size) (S1 k)) (14 + sumS S0 S1 S2 k + (S0 k).size + (S1 k).size) (S2 k)) p)) := hrw8.congr (fun p _ => by congr 2; all_goals omega)
              have hbl8 := hbl7.trans hbl8'
              clear hrw7 hbl8' hbl7 q2
              go_wp2_with fail
              go_roundg (n - (k + 1))
              case measure => omega
              case rel =>
                exact ⟨k + 1, putRec f S0 S1 S2 K FE k, by omega, rfl, by go_num, by rw [sumS]; go_num, by rw [sumK]; go_num, hrw8, HP.out, hbl8⟩
            · have hkz : ¬ (k : Int) < (n : Int) := by omega
              obtain rfl : n = k := by omega
              obtain ⟨RE, hRE⟩ : ∃ RE, RE = 14 + sumS S0 S1 S2 n + 40 * sumK K n + 48 * n := ⟨_, rfl⟩
              have HRE : Hid (RE = 14 + sumS S0 S1 S2 n + 40 * sumK K n + 48 * n) := hRE
              have hRle : 14 + sumS S0 S1 S2 n + 40 * sumK K n ≤ RE := by omega
              clear hRE
              go_wp2_with fail
              refine (put8_any g N _ _ _ _ hrw (by omega) (by omega) hN2 (by omega) (by omega)).mono ?_
              rintro e w3 ⟨rfl, hrw0, hbl0', _⟩
              have hrw0 : w3.rowIs g 5 N (fun p => .int .u8 (put8 f RE 14 p)) := hrw0.congr (fun p _ => by rw [HRE.out]; congr 2; all_goals omega)
              have hbl0 := hbl.trans hbl0'
              clear hrw hbl hbl0'
              go_wp2_with fail
              refine (put8_any g N _ _ _ _ hrw0 (by omega) (by omega) hN2 (by omega) (by omega)).mono ?_
              rintro e w4 ⟨rfl, hrw1, hbl1', _⟩
              have hrw1 : w4.rowIs g 5 N (fun p => .int .u8 (put8 (put8 f RE 14) (RE + 8) ((14 + sumS S0 S1 S2 n : Nat) : Int) p)) := hrw1.congr (fun p _ => by rw [HRE.out]; congr 2; all_goals omega)
              have hbl1 := hbl0.trans hbl1'
              clear hrw0 hbl0 hbl1'
              go_wp2_with fail
              refine (put8_any g N _ _ _ _ hrw1 (by omega) (by omega) hN2 (by omega) (by omega)).mono ?_
              rintro e w5 ⟨rfl, hrw2, hbl2', _⟩
              have hrw2 : w5.rowIs g 5 N (fun p => .int .u8 (put8 (put8 (put8 f RE 14) (RE + 8) ((14 + sumS S0 S1 S2 n : Nat) : Int)) (RE + 16) ((14 + sumS S0 S1 S2 n + 40 * sumK K n : Nat) : Int) p)) := hrw2.congr (fun p _ => by rw [HRE.out]; congr 2; all_goals omega)
              have hbl2 := hbl1.trans hbl2'
              clear hrw1 hbl1 hbl2'
              have htr := tr_start hprt HRE.out
              go_wp2_with fail
              go_loopg [23] 5 (fun m i wr => ∃ (k : Nat) (f : Nat → Int), 3 ≤ k ∧ k ≤ 8 ∧ m = 8 - k ∧ i = .int .i64 k ∧ wr.rowIs g 5 N (fun p => .int .u8 (f p)) ∧ Tr f S0 S1 S2 K n RE k ∧ Below g w2 wr)
              case atStart => exact ⟨3, _, by omega, by omega, rfl, rfl, hrw2, htr, hbl2⟩
              case round =>
                obtain ⟨k, f', hk3, hk8, rfl, rfl, hrw, htr, hbl⟩ := hrel
                clear hrw2 hbl2 hprt
                by_cases hlt : k < 8
                · have hkz : (k : Int) < 8 := by omega
                  go_wp2_with fail
                  refine (put8_any g N _ _ _ _ hrw (by omega) (by omega) hN2 (by omega) (by omega)).mono ?_
                  rintro e w6 ⟨rfl, hrw3, hbl3', _⟩
                  have hrw3 : w6.rowIs g 5 N (fun p => .int .u8 (put8 f' (RE + 8 * k) (RE : Int) p)) := hrw3.congr (fun p _ => by rw [HRE.out]; congr 2; all_goals omega)
                  have hbl3 := hbl.trans hbl3'
                  clear hrw hbl hbl3'
                  go_wp2_with fail
                  go_roundg (8 - (k + 1))
                  case measure => omega
                  case rel => exact ⟨k + 1, _, by omega, by omega, rfl, by go_num, hrw3, htr.step HRE.out hk3 hlt, hbl3⟩
                · have hkz : ¬ (k : Int) < 8 := by omega
                  obtain rfl : k = 8 := by omega
                  go_wp2_with fail
                  go_ret
                  rw [HN.out] at hrw ⊢
                  exact ⟨g, f', rfl, hrw, htr.img HRE.out, hbel1.trans (hbl.mono hgw), hgw⟩

end Go.Proofs.Qxb6606006aDoor.Ix
