import Derived.Test.Qxb6606006aAdd
import Derived.Deep.QuietTactic
import Derived.BigQuiet
namespace Go.Proofs.Qxb6606006a.Post
open Go.RowKit

def LawPost (w : World) (e : Ending) (w' : World) : Prop := e = .returned (.bool true) ∧ Below w.heap.size w w'

theorem ownsRow_below {w w' : World} {base : Nat} {e : TypeId} {size : Nat} {v : Value} {n : Nat} {xs : List Value} (h : w.ownsRow base e size v n xs) (hb : Below w.heap.size w w') : w'.ownsRow base e size v n xs := by
  refine ⟨h.1, ?_⟩
  rcases h.2 with hn | ⟨g, cap, cur, hv, hbg, hgg, rest⟩
  · exact .inl hn
  · exact .inr ⟨g, cap, cur, hv, hbg, by rw [hb.block g (Array.getElem?_eq_some_iff.1 hgg).1]; exact hgg, rest⟩

theorem IsLists.below {w w' : World} {ga : Option Addr} {gb go G : Nat} {A : Nat → Option Addr} {L C RB RO : Nat → Nat} {Z : Nat → Nat → Int} (h : IsLists w ga gb go G A L C RB RO Z) (hb : Below w.heap.size w w') : IsLists w' ga gb go G A L C RB RO Z :=
  ⟨h.top, fun r hr => by rw [hb.cell (p := ⟨gb, go + r, none⟩) (World.block_lt_of_cell? _ _ (h.row r hr))]; exact h.row r hr,
    fun r hr c hc => ⟨(h.num r hr c hc).1, by rw [hb.cell (p := ⟨RB r, RO r + c, none⟩) (World.block_lt_of_cell? _ _ (h.num r hr c hc).2)]; exact (h.num r hr c hc).2⟩⟩

theorem IsLists.upto {B : Nat} {w w' : World} {ga : Option Addr} {gb go G : Nat} {A : Nat → Option Addr} {L C RB RO : Nat → Nat} {Z : Nat → Nat → Int} (h : IsLists w ga gb go G A L C RB RO Z) (hb : Below B w w') (h1 : 0 < G → gb < B) (h2 : ∀ r, r < G → 0 < L r → RB r < B) : IsLists w' ga gb go G A L C RB RO Z :=
  ⟨h.top, fun r hr => by rw [hb.cell (p := ⟨gb, go + r, none⟩) (h1 (by omega))]; exact h.row r hr,
    fun r hr c hc => ⟨(h.num r hr c hc).1, by rw [hb.cell (p := ⟨RB r, RO r + c, none⟩) (h2 r hr (by omega))]; exact (h.num r hr c hc).2⟩⟩

set_option maxHeartbeats 2000000 in
set_option maxRecDepth 100000 in
theorem law_walk (base probe : Int) (ga : Option Addr) (gb go G Gc : Nat) (A : Nat → Option Addr) (L C RB RO : Nat → Nat) (Z : Nat → Nat → Int) (w : World)
    (h : IsLists w ga gb go G A L C RB RO Z) (hG : G ≤ maxLen) (hL : ∀ r, r < G → L r ≤ maxLen) (hb0 : -9223372036854775808 ≤ base) (hb1 : base ≤ 9223372036854775807) (hp0 : 0 ≤ probe) (_hp1 : probe < 4294967296)
    (hZ : ∀ r, r < G → ∀ c, c < L r → 0 ≤ Z r c ∧ Z r c < 4294967296) :
    Calls Try.prog 3 #[.int .i64 base, .slice ga G Gc, .int .u32 probe] w fun e w' => LawPost w e w' := by
  go_enter Try.func3, Try.ntmps3
  go_wp2_with fail
  refine (bytes_any base probe ga gb go G Gc A L C RB RO Z w h hG hL).mono ?_
  rintro e w' ⟨b, rfl, hw, hb⟩
  obtain rfl := hw.symm
  clear hw
  cases b with
  | false =>
    go_wp2
    go_ret
    exact ⟨rfl, Below.refl _ _⟩
  | true =>
  obtain ⟨hG1, hL1⟩ := hb rfl
  clear hb hG hL
  by_cases hG2 : 65536 < G
  · have hz : (65536 : Int) < (G : Int) := by omega
    clear h hL1 hZ
    go_wp2
    go_ret
    exact ⟨rfl, Below.refl _ _⟩
  have hz : ¬ (65536 : Int) < (G : Int) := by omega
  go_wp2
  go_loop [7, 8] (fun n i => ∃ k : Nat, k ≤ G ∧ i = .int .i64 k ∧ n = .int .i64 ((24 * G + 4 * sumL L k : Nat) : Int) ∧ 24 * G + 4 * sumL L k ≤ 1572864) (fun _ i => G - (intOf i).toNat)
  case atStart => exact ⟨0, Nat.zero_le _, rfl, by simp [sumL], by simp [sumL]; omega⟩
  case round =>
    obtain ⟨k, hk, rfl, rfl, hsum⟩ := hrel
    by_cases hkG : k < G
    · have hkz : (k : Int) < (G : Int) := by omega
      obtain rfl := h.top (by omega)
      have hc := h.row k hkG
      have hLk := hL1 k hkG
      clear h hL1 hZ
      go_wp2
      · go_ret
        exact ⟨rfl, Below.refl _ _⟩
      · go_round
        case rel => exact ⟨k + 1, by omega, by go_num, by simp only [sumL]; go_num, by simp only [sumL]; omega⟩
        case measure => simp [intOf]; omega
    · have hkz : ¬ (k : Int) < (G : Int) := by omega
      obtain rfl : G = k := by omega
      by_cases hs : 1048576 < 24 * G + 4 * sumL L G
      · have hsz : (1048576 : Int) < ((24 * G + 4 * sumL L G : Nat) : Int) := by omega
        clear h hL1 hZ
        go_wp2
        go_ret
        exact ⟨rfl, Below.refl _ _⟩
      have hsz : ¬ (1048576 : Int) < ((24 * G + 4 * sumL L G : Nat) : Int) := by omega
      by_cases hbn : base < 0
      · clear h hL1 hZ
        go_wp2
        go_ret
        exact ⟨rfl, Below.refl _ _⟩
      by_cases hbig : 4503599627370496 < base + G
      · have hbn' : decide (base < 0) = false := decide_eq_false hbn
        clear h hL1 hZ
        go_wp2
        go_ret
        exact ⟨rfl, Below.refl _ _⟩
      have hbn' : decide (base < 0) = false := decide_eq_false hbn
      by_cases hpb : 16777216 ≤ probe
      · clear h hL1 hZ
        go_wp2
        go_ret
        exact ⟨rfl, Below.refl _ _⟩
      go_wp2
      clear hbn' hk hkG hkz hsum hz hb0 hb1 _hp1 hG1 hL1
      go_loop [9] (fun i => ∃ k : Nat, k ≤ G ∧ i = .int .i64 k ∧ ∀ r, r < k → ∀ c, c < L r → Z r c < 16777216) (fun i => G - (intOf i).toNat)
      case atStart => exact ⟨0, Nat.zero_le _, rfl, fun r hr => absurd hr (Nat.not_lt_zero _)⟩
      case round =>
        obtain ⟨k, hk, rfl, hall⟩ := hrel
        have HA : Hid (∀ r, r < k → ∀ c, c < L r → Z r c < 16777216) := hall
        clear hall
        by_cases hkG : k < G
        · have hkz : (k : Int) < (G : Int) := by omega
          obtain rfl := h.top (by omega)
          have hc := h.row k hkG
          have hLk : L k ≤ 1048576 := by
            have := sumL_mono L (show k + 1 ≤ G by omega)
            rw [sumL] at this
            omega
          have HH := h
          have HZ := hZ
          clear h hZ
          go_wp2
          go_loop [10] (fun i => ∃ j : Nat, j ≤ L k ∧ i = .int .i64 j ∧ ∀ c, c < j → Z k c < 16777216) (fun i => L k - (intOf i).toNat)
          case atStart => exact ⟨0, Nat.zero_le _, rfl, fun c hc => absurd hc (Nat.not_lt_zero _)⟩
          case round =>
            obtain ⟨j, hj, rfl, hall⟩ := hrel
            have HB : Hid (∀ c, c < j → Z k c < 16777216) := hall
            clear hall
            by_cases hjL : j < L k
            · have hjz : (j : Int) < (L k : Int) := by omega
              obtain ⟨hA, hcj⟩ := HH.num k hkG j hjL
              rw [hA] at hc
              clear hA
              go_wp2
              · go_ret
                exact ⟨rfl, Below.refl _ _⟩
              · go_round
                case rel => exact ⟨j + 1, by omega, by go_num, fun c hc' => by
                  by_cases e : c = j
                  · subst e; omega
                  · exact HB.out c (by omega)⟩
                case measure => simp [intOf]; omega
            · have hjz : ¬ (j : Int) < (L k : Int) := by omega
              obtain rfl : j = L k := by omega
              go_wp2
              go_round
              case rel => exact ⟨k + 1, by omega, by go_num, fun r hr c hc' => by
                  by_cases e : r = k
                  · subst e; exact HB.out c hc'
                  · exact HA.out r (by omega) c hc'⟩
              case measure => simp [intOf]; omega
        · have hkz : ¬ (k : Int) < (G : Int) := by omega
          obtain rfl : G = k := by omega
          have hZ2 : ∀ r, r < G → ∀ c, c < L r → 0 ≤ Z r c ∧ Z r c < 16777216 := fun r hr c hc => ⟨(hZ r hr c hc).1, HA.out r hr c hc⟩
          clear hZ HA hkG hk
          have hLm : ∀ r, r < G → L r ≤ 1048576 := fun r hr => by
            have := sumL_mono L (show r + 1 ≤ G by omega)
            rw [sumL] at this
            omega
          go_wp2_with fail
          refine (clone_any ga gb go G Gc A L C RB RO Z w h (by omega) hLm).mono ?_
          intro e w1 hq
          obtain ⟨ga1, gb1, go1, Gc1, A1, C1, RB1, RO1, rfl, h1, hbel1⟩ := clone_view hq
          clear hq h hkz
          go_wp2_with fail
          refine (new_any w1).mono ?_
          rintro e w2 ⟨rfl, hw⟩
          subst hw
          have hB0 := bk_start w1
          obtain ⟨B, hB⟩ : ∃ B, B = w1.heap.size := ⟨_, rfl⟩
          rw [← hB] at hB0 ⊢
          have hbel2 : Below w.heap.size w (w1.alloc (.cells zb 41)) := hbel1.alloc hbel1.size _
          have h2 : IsLists (w1.alloc (.cells zb 41)) ga1 gb1 go1 G A1 L C1 RB1 RO1 Z := h1.below ((Below.refl _ _).alloc (Nat.le_refl _) _)
          have hgb : 0 < G → gb1 < B := fun h0 => by rw [hB]; exact World.block_lt_of_cell? _ _ (h1.row 0 h0)
          have hRB : ∀ r, r < G → 0 < L r → RB1 r < B := fun r hr h0 => by rw [hB]; exact World.block_lt_of_cell? _ _ (h1.num r hr 0 h0).2
          have hwB : w.heap.size ≤ B := by rw [hB]; exact hbel1.size
          clear h1 hbel1 hB
          obtain ⟨w2, hw2⟩ : ∃ w2, w2 = w1.alloc (.cells zb 41) := ⟨_, rfl⟩
          rw [← hw2] at h2 hB0 hbel2 ⊢
          clear hw2 w1
          -- ████ the files are added
          go_wp2_with fail
          go_loopg [12] G (fun g i wr => ∃ k : Nat, k ≤ G ∧ g = G - k ∧ i = .int .i64 k ∧ Bk wr B (fun j => all base Z L j k) ∧ Below B w2 wr)
          case atStart => exact ⟨0, Nat.zero_le _, rfl, rfl, hB0, Below.refl _ _⟩
          case round =>
            obtain ⟨k, hk, rfl, rfl, hBk, hbel⟩ := hrel
            clear hB0
            by_cases hkG : k < G
            · have hkz : (k : Int) < (G : Int) := by omega
              obtain rfl := h2.top (by omega)
              have g0 : wr.cell? ⟨gb1, go1 + k, none⟩ = some (.slice (A1 k) (L k) (C1 k)) := by rw [hbel.cell (p := ⟨gb1, go1 + k, none⟩) (hgb (by omega))]; exact h2.row k hkG
              have hsl : sumL L (k + 1) ≤ sumL L G := sumL_mono L (by omega)
              go_wp2_with fail
              refine (add9_any B (base + k) (A1 k) (L k) (C1 k) (RB1 k) (RO1 k) (Z k) _ wr (by omega) (by omega) (hLm k hkG) (fun j _ => ?_) (fun c hc => ?_) (hRB k hkG) (hZ2 k hkG) hBk).mono ?_
              · have := all_le base Z L j k
                rw [sumL] at hsl
                omega
              · refine ⟨(h2.num k hkG c hc).1, ?_⟩
                rw [hbel.cell (p := ⟨RB1 k, RO1 k + c, none⟩) (hRB k hkG (by omega))]
                exact (h2.num k hkG c hc).2
              rintro e w3 ⟨rfl, hq1, hq2⟩
              go_wp2
              go_roundg (G - (k + 1))
              case measure => omega
              case rel => exact ⟨k + 1, by omega, rfl, by go_num, hq1, hbel.trans hq2⟩
            · have hkz : ¬ (k : Int) < (G : Int) := by omega
              obtain rfl : G = k := by omega
              have h3 : IsLists wr ga1 gb1 go1 G A1 L C1 RB1 RO1 Z := h2.upto hbel hgb hRB
              have hbel3 : Below w.heap.size w wr := hbel2.trans (hbel.mono hwB)
              clear h2 hbel2 hbel hgb hRB hwB hkG hk
              obtain ⟨w3, hw3⟩ : ∃ w3 : World, w3 = wr := ⟨_, rfl⟩
              rw [← hw3] at h3 hbel3 hBk ⊢
              clear hw3
              -- ████ what is wanted
              obtain ⟨i0, hi, hi0, hi1, hi2⟩ := info_parts info26
              have HI : Hid (Try.prog.info? 26 = some i0 ∧ i0.zero = some (.int .u64 0) ∧ i0.size = 1 ∧ i0.bytes = 8) := ⟨hi, hi0, hi1, hi2⟩
              clear hi hi0 hi1 hi2
              go_wp2_with fail
              go_loopg [13, 14] G (fun g v i wr => ∃ k : Nat, k ≤ G ∧ g = G - k ∧ i = .int .i64 k ∧ wr.ownsRow w3.heap.size 26 1 v (wnt base Z L probe k).length ((wnt base Z L probe k).map (Value.int .u64)) ∧ Below w3.heap.size w3 wr)
              case atStart => exact ⟨0, Nat.zero_le _, rfl, rfl, World.ownsRow_nil _ _ _ _, Below.refl _ _⟩
              case round =>
                obtain ⟨k, hk, rfl, rfl, hown, hbel⟩ := hrel
                by_cases hkG : k < G
                · have hkz : (k : Int) < (G : Int) := by omega
                  obtain rfl := h3.top (by omega)
                  have g0 : wr.cell? ⟨gb1, go1 + k, none⟩ = some (.slice (A1 k) (L k) (C1 k)) := by rw [hbel.cell (p := ⟨gb1, go1 + k, none⟩) (World.block_lt_of_cell? _ _ (h3.row k hkG))]; exact h3.row k hkG
                  have hLk := hLm k hkG
                  have hsl : sumL L (k + 1) ≤ sumL L G := sumL_mono L (by omega)
                  have hwl := wnt_le base Z L probe k
                  rw [sumL] at hsl
                  go_wp2_with fail
                  go_loopg [13, 15] (L k) (fun g v i wi => ∃ j : Nat, j ≤ L k ∧ g = L k - j ∧ i = .int .i64 j ∧ wi.ownsRow w3.heap.size 26 1 v (wnt base Z L probe k ++ w1 (base + k) (Z k) probe j).length ((wnt base Z L probe k ++ w1 (base + k) (Z k) probe j).map (Value.int .u64)) ∧ Below w3.heap.size w3 wi)
                  case atStart => exact ⟨0, Nat.zero_le _, rfl, rfl, by simpa [w1] using hown, hbel⟩
                  case round =>
                    obtain ⟨j, hj, rfl, rfl, hown', hbel'⟩ := hrel
                    have g0 : wr.cell? ⟨gb1, go1 + k, none⟩ = some (.slice (A1 k) (L k) (C1 k)) := by rw [hbel'.cell (p := ⟨gb1, go1 + k, none⟩) (World.block_lt_of_cell? _ _ (h3.row k hkG))]; exact h3.row k hkG
                    clear hown hbel
                    by_cases hjL : j < L k
                    · have hjz : (j : Int) < (L k : Int) := by omega
                      obtain ⟨hA, hcj⟩ := h3.num k hkG j hjL
                      have g1 : wr.cell? ⟨RB1 k, RO1 k + j, none⟩ = some (.int .u32 (Z k j)) := by rw [hbel'.cell (p := ⟨RB1 k, RO1 k + j, none⟩) (World.block_lt_of_cell? _ _ hcj)]; exact hcj
                      rw [hA] at g0
                      clear hA hcj
                      have hwj := w1_le (base + k) (Z k) probe j
                      by_cases hep : Z k j = probe
                      · have hep' : (Z k j == probe) = true := by simpa using hep
                        have HE : Hid (Z k j = probe) := hep
                        clear hep
                        obtain ⟨n, hn⟩ : ∃ n, n = (wnt base Z L probe k ++ w1 (base + k) (Z k) probe j).length := ⟨_, rfl⟩
                        have hn1 : n + 1 ≤ 1073741824 := by rw [hn, List.length_append]; omega
                        have hsz := hbel'.size
                        rw [← hn] at hown'
                        have HN : Hid (n = (wnt base Z L probe k ++ w1 (base + k) (Z k) probe j).length) := hn
                        clear hn
                        go_wp2_with (at_builtin; refine wpList_append_own _ rfl (.tmp 134) (.tmp 139) 31 rfl w3.heap.size 26 i0 (.int .u64 0) 1 8 Try.underlying31 HI.out.1 HI.out.2.1 HI.out.2.2.1 HI.out.2.2.2 rfl (by decide) _ n _ rfl (hown'.alloc _) ⟨wr.heap.size, 0, none⟩ 1 1 [.int .u64 (base + k)] rfl rfl ?c1 ?c2 ?c3 ?c4 ?c5 ?_)
                        case c1 => exact cell_one_new _ _ _
                        case c2 => intro u hu; simp at hu; subst hu; rfl
                        case c3 => unfold maxLen; omega
                        case c4 => omega
                        case c5 => simp; omega
                        · intro v' w4 hown2 hgrow _
                          have hbel2 : Below w3.heap.size w3 w4 := (hbel'.alloc hsz _).grown hgrow (by simp; omega) (fun g hg => (hown'.lt g hg).1)
                          have hown3 : w4.ownsRow w3.heap.size 26 1 v' (wnt base Z L probe k ++ w1 (base + k) (Z k) probe (j + 1)).length ((wnt base Z L probe k ++ w1 (base + k) (Z k) probe (j + 1)).map (Value.int .u64)) := by
                            have hl := HN.out
                            rw [List.length_append] at hl
                            rw [w1, if_pos HE.out]
                            simpa [hl, Nat.add_assoc] using hown2
                          clear hown2 hgrow hown' hbel' g0 g1
                          go_wp2
                          go_roundg (L k - (j + 1))
                          case measure => omega
                          case rel => exact ⟨j + 1, by omega, rfl, by go_num, hown3, hbel2⟩
                      · have hep' : (Z k j == probe) = false := by simpa using hep
                        clear hep
                        go_wp2_with fail
                        go_roundg (L k - (j + 1))
                        case measure => omega
                        case rel => exact ⟨j + 1, by omega, rfl, by go_num, by rw [w1, if_neg (by simpa using hep'), List.append_nil]; exact hown', hbel'⟩
                    · have hjz : ¬ (j : Int) < (L k : Int) := by omega
                      obtain rfl : j = L k := by omega
                      go_wp2_with fail
                      go_roundg (G - (k + 1))
                      case measure => omega
                      case rel => exact ⟨k + 1, by omega, rfl, by go_num, hown', hbel'⟩
                · have hkz : ¬ (k : Int) < (G : Int) := by omega
                  obtain rfl : G = k := by omega
                  have hBk' : Bk wr B (fun j => all base Z L j G) := hBk.below hbel
                  have hbel4 : Below w.heap.size w wr := hbel3.trans (hbel.mono hbel3.size)
                  clear hBk hbel3 hbel h3 hLm hkG hk
                  obtain ⟨w4, hw4⟩ : ∃ w4 : World, w4 = wr := ⟨_, rfl⟩
                  rw [← hw4] at hbel4 hBk' hown ⊢
                  clear hw4
                  go_wp2_with fail
                  refine (bucket_any B (probe / 4096) (fun j => all base Z L j G) w4 (by omega) (by omega) hBk').mono ?_
                  rintro e w' ⟨hw, ao, cp, rfl, hbo⟩
                  obtain rfl := hw.symm
                  clear hw hBk'
                  dsimp only at hbo ⊢
                  have hand := and12 probe hp0 (by omega)
                  have hrd := rd_all (G := G) (p := probe) (base := base) (Z := Z) (L := L) (by omega) (by omega) hp0 (fun r hr c hc => (hZ2 r hr c hc).1) G (Nat.le_refl _)
                  have hin := all_in (G := G) (k := (probe / 4096).toNat) (base := base) (Z := Z) (L := L) (by omega) (by omega) G (Nat.le_refl _)
                  have hal := all_le base Z L (probe / 4096).toNat G
                  generalize all base Z L (probe / 4096).toNat G = lst at hbo hrd hin hal ⊢
                  rw [← hrd] at hown
                  have HW : Hid (w4.ownsRow w3.heap.size 26 1 u13 (rd probe lst).length ((rd probe lst).map (Value.int .u64))) := hown
                  clear hrd hown
                  -- ████ what is got
                  go_wp2_with fail
                  go_loopg [18, 19] lst.length (fun g v i wr => ∃ k : Nat, k ≤ lst.length ∧ g = lst.length - k ∧ i = .int .i64 k ∧ wr.ownsRow w4.heap.size 26 1 v (rd probe (lst.take k)).length ((rd probe (lst.take k)).map (Value.int .u64)) ∧ Below w4.heap.size w4 wr)
                  case atStart => exact ⟨0, Nat.zero_le _, rfl, rfl, World.ownsRow_nil _ _ _ _, Below.refl _ _⟩
                  case round =>
                    obtain ⟨k, hk, rfl, rfl, hown, hbel⟩ := hrel
                    by_cases hkl : k < lst.length
                    · have hkz : (k : Int) < (lst.length : Int) := by omega
                      obtain ⟨gB, cB, hf, hg1, hg2⟩ := hbo.form (by omega)
                      simp only [Value.slice.injEq] at hf
                      obtain ⟨rfl, _, rfl⟩ := hf
                      obtain ⟨x, hx⟩ : ∃ x, x = lst[k] := ⟨_, rfl⟩
                      have g0 : wr.cell? ⟨gB, k, none⟩ = some (.int .u64 x) := by
                        rw [hbel.cell (p := ⟨gB, k, none⟩) hg2, hbo.cellAt k (by omega), hx]
                        simp [hkl]
                      obtain ⟨hx0, hx1⟩ := hin x (by rw [hx]; exact List.getElem_mem _)
                      have HS : Hid (rd probe (lst.take (k + 1)) = rd probe (lst.take k) ++ if (x / 4503599627370496 == probe % 4096) = true then [x % 4503599627370496] else []) := by
                        rw [List.take_succ_eq_append_getElem hkl, rd_snoc, hx]
                        exact rfl
                      clear hx
                      have hrl := rd_le probe (lst.take k)
                      rw [List.length_take] at hrl
                      have ha52 := and52 x hx0 hx1
                      clear hx1 hin
                      obtain ⟨n, hn⟩ : ∃ n, n = (rd probe (lst.take k)).length := ⟨_, rfl⟩
                      rw [← hn] at hrl hown
                      have HN : Hid (n = (rd probe (lst.take k)).length) := hn
                      clear hn
                      have hsz := hbel.size
                      by_cases hex : x / 4503599627370496 = probe % 4096
                      · have hex' : (x / 4503599627370496 == probe % 4096) = true := by simpa using hex
                        clear hex
                        go_wp2_with (at_builtin; refine wpList_append_own _ rfl (.tmp 163) (.tmp 166) 31 rfl w4.heap.size 26 i0 (.int .u64 0) 1 8 Try.underlying31 HI.out.1 HI.out.2.1 HI.out.2.2.1 HI.out.2.2.2 rfl (by decide) _ n _ rfl (hown.alloc _) ⟨wr.heap.size, 0, none⟩ 1 1 [.int .u64 (x % 4503599627370496)] rfl rfl ?c1 ?c2 ?c3 ?c4 ?c5 ?_)
                        case c1 => exact cell_one_new _ _ _
                        case c2 => intro u hu; simp at hu; subst hu; rfl
                        case c3 => unfold maxLen; omega
                        case c4 => omega
                        case c5 => simp; omega
                        · intro v' w5 hown2 hgrow _
                          have hbel2 : Below w4.heap.size w4 w5 := (hbel.alloc hsz _).grown hgrow (by simp; omega) (fun g hg => (hown.lt g hg).1)
                          have hown3 : w5.ownsRow w4.heap.size 26 1 v' (rd probe (lst.take (k + 1))).length ((rd probe (lst.take (k + 1))).map (Value.int .u64)) := by
                            rw [HS.out, if_pos hex']
                            simpa [HN.out] using hown2
                          clear hown2 hgrow hown hbel g0
                          go_wp2
                          go_roundg (lst.length - (k + 1))
                          case measure => omega
                          case rel => exact ⟨k + 1, by omega, rfl, by go_num, hown3, hbel2⟩
                      · have hex' : (x / 4503599627370496 == probe % 4096) = false := by simpa using hex
                        clear hex
                        go_wp2_with fail
                        go_roundg (lst.length - (k + 1))
                        case measure => omega
                        case rel => exact ⟨k + 1, by omega, rfl, by go_num, by rw [HS.out, if_neg (by rw [hex']; simp), List.append_nil, ← HN.out]; exact hown, hbel⟩
                    · have hkz : ¬ (k : Int) < (lst.length : Int) := by omega
                      obtain rfl : k = lst.length := by omega
                      rw [List.take_length] at hown
                      have hwant : wr.ownsRow w3.heap.size 26 1 u13 (rd probe lst).length ((rd probe lst).map (Value.int .u64)) := ownsRow_below HW.out hbel
                      have hrl := rd_le probe lst
                      have hbel5 : Below w.heap.size w wr := hbel4.trans (hbel.mono hbel4.size)
                      generalize rd probe lst = res at hown hwant hrl
                      clear HW hbel hbel4 hbo hin hand HI
                      obtain ⟨ag, cg, rfl⟩ := owns_form hown
                      obtain ⟨aw, cw, rfl⟩ := owns_form hwant
                      obtain ⟨w5, hw5⟩ : ∃ w5 : World, w5 = wr := ⟨_, rfl⟩
                      rw [← hw5] at hown hwant hbel5 ⊢
                      clear hw5
                      go_wp2_with fail
                      go_loopg [21] res.length (fun g i wr => ∃ k : Nat, k ≤ res.length ∧ g = res.length - k ∧ i = .int .i64 k ∧ Below w5.heap.size w5 wr)
                      case atStart => exact ⟨0, Nat.zero_le _, rfl, rfl, Below.refl _ _⟩
                      case round =>
                        obtain ⟨k, hk, rfl, rfl, hbel⟩ := hrel
                        by_cases hkl : k < res.length
                        · have hkz : (k : Int) < (res.length : Int) := by omega
                          obtain ⟨gG, cG, hf, _, hg2⟩ := hown.form (by omega)
                          simp only [Value.slice.injEq] at hf
                          obtain ⟨rfl, _, rfl⟩ := hf
                          obtain ⟨gW, cW, hf, _, hw2⟩ := hwant.form (by omega)
                          simp only [Value.slice.injEq] at hf
                          obtain ⟨rfl, _, rfl⟩ := hf
                          obtain ⟨x, hx⟩ : ∃ x, x = res[k] := ⟨_, rfl⟩
                          have g0 : wr.cell? ⟨gG, k, none⟩ = some (.int .u64 x) := by
                            rw [hbel.cell (p := ⟨gG, k, none⟩) hg2, hown.cellAt k (by omega), hx]
                            simp [hkl]
                          have g1 : wr.cell? ⟨gW, k, none⟩ = some (.int .u64 x) := by
                            rw [hbel.cell (p := ⟨gW, k, none⟩) hw2, hwant.cellAt k (by omega), hx]
                            simp [hkl]
                          clear hx hown hwant
                          go_wp2_with fail
                          go_quiet (fail)
                          go_wp2
                          go_roundg (res.length - (k + 1))
                          case measure => omega
                          case rel => exact ⟨k + 1, by omega, rfl, by go_num, below_drewN hbel _⟩
                        · have hkz : ¬ (k : Int) < (res.length : Int) := by omega
                          go_wp2_with fail
                          go_ret
                          exact ⟨rfl, hbel5.trans (hbel.mono hbel5.size)⟩

end Go.Proofs.Qxb6606006a.Post
