import Derived.Test.Qxb6605784aLvPtr
namespace Go.Proofs.Qxb6605784a.Leave
open Go.RowKit
open Extern.Stop (cell)
set_option linter.unusedVariables false
set_option linter.unusedSimpArgs false

/-- The eight arrays that the call lays into variables of its own, at H .. H + 7. -/
structure Boxes (w : World) (H : Nat) (D S X Y D' S' X' Y' : List UInt8) : Prop where
  r0 : w.rangeAt H 0 (D.map cell)
  r1 : w.rangeAt (H + 1) 0 (S.map cell)
  r2 : w.rangeAt (H + 1 + 1) 0 (X.map cell)
  r3 : w.rangeAt (H + 1 + 1 + 1) 0 (Y.map cell)
  r4 : w.rangeAt (H + 1 + 1 + 1 + 1) 0 (D'.map cell)
  r5 : w.rangeAt (H + 1 + 1 + 1 + 1 + 1) 0 (S'.map cell)
  r6 : w.rangeAt (H + 1 + 1 + 1 + 1 + 1 + 1) 0 (X'.map cell)
  r7 : w.rangeAt (H + 1 + 1 + 1 + 1 + 1 + 1 + 1) 0 (Y'.map cell)

theorem Boxes.below {w w' : World} {H : Nat} {D S X Y D' S' X' Y' : List UInt8} (h : Boxes w H D S X Y D' S' X' Y') (hb : Below w.heap.size w w') : Boxes w' H D S X Y D' S' X' Y' :=
  ⟨rangeAt_below h.r0 hb, rangeAt_below h.r1 hb, rangeAt_below h.r2 hb, rangeAt_below h.r3 hb, rangeAt_below h.r4 hb, rangeAt_below h.r5 hb, rangeAt_below h.r6 hb, rangeAt_below h.r7 hb⟩

theorem boxes_new (w : World) (D S X Y D' S' X' Y' : List UInt8) :
    Boxes ((((((((w.alloc (.cells (D.map cell).toArray 28)).alloc (.cells (S.map cell).toArray 29)).alloc (.cells (X.map cell).toArray 28)).alloc (.cells (Y.map cell).toArray 28)).alloc (.cells (D'.map cell).toArray 28)).alloc (.cells (S'.map cell).toArray 29)).alloc (.cells (X'.map cell).toArray 28)).alloc (.cells (Y'.map cell).toArray 28)) w.heap.size D S X Y D' S' X' Y' := by
  have al := @World.rangeAt_alloc
  refine ⟨?_, ?_, ?_, ?_, ?_, ?_, ?_, ?_⟩
  · exact al (al (al (al (al (al (al (rangeAt_new _ _ _) _) _) _) _) _) _) _
  · have := al (al (al (al (al (al (rangeAt_new (w.alloc (.cells (D.map cell).toArray 28)) (S.map cell) 29) (.cells (X.map cell).toArray 28)) (.cells (Y.map cell).toArray 28)) (.cells (D'.map cell).toArray 28)) (.cells (S'.map cell).toArray 29)) (.cells (X'.map cell).toArray 28)) (.cells (Y'.map cell).toArray 28)
    simpa using this
  · have := al (al (al (al (al (rangeAt_new ((w.alloc (.cells (D.map cell).toArray 28)).alloc (.cells (S.map cell).toArray 29)) (X.map cell) 28) (.cells (Y.map cell).toArray 28)) (.cells (D'.map cell).toArray 28)) (.cells (S'.map cell).toArray 29)) (.cells (X'.map cell).toArray 28)) (.cells (Y'.map cell).toArray 28)
    simpa using this
  · have := al (al (al (al (rangeAt_new (((w.alloc (.cells (D.map cell).toArray 28)).alloc (.cells (S.map cell).toArray 29)).alloc (.cells (X.map cell).toArray 28)) (Y.map cell) 28) (.cells (D'.map cell).toArray 28)) (.cells (S'.map cell).toArray 29)) (.cells (X'.map cell).toArray 28)) (.cells (Y'.map cell).toArray 28)
    simpa using this
  · have := al (al (al (rangeAt_new ((((w.alloc (.cells (D.map cell).toArray 28)).alloc (.cells (S.map cell).toArray 29)).alloc (.cells (X.map cell).toArray 28)).alloc (.cells (Y.map cell).toArray 28)) (D'.map cell) 28) (.cells (S'.map cell).toArray 29)) (.cells (X'.map cell).toArray 28)) (.cells (Y'.map cell).toArray 28)
    simpa using this
  · have := al (al (rangeAt_new (((((w.alloc (.cells (D.map cell).toArray 28)).alloc (.cells (S.map cell).toArray 29)).alloc (.cells (X.map cell).toArray 28)).alloc (.cells (Y.map cell).toArray 28)).alloc (.cells (D'.map cell).toArray 28)) (S'.map cell) 29) (.cells (X'.map cell).toArray 28)) (.cells (Y'.map cell).toArray 28)
    simpa using this
  · have := al (rangeAt_new ((((((w.alloc (.cells (D.map cell).toArray 28)).alloc (.cells (S.map cell).toArray 29)).alloc (.cells (X.map cell).toArray 28)).alloc (.cells (Y.map cell).toArray 28)).alloc (.cells (D'.map cell).toArray 28)).alloc (.cells (S'.map cell).toArray 29)) (X'.map cell) 28) (.cells (Y'.map cell).toArray 28)
    simpa using this
  · have := rangeAt_new (((((((w.alloc (.cells (D.map cell).toArray 28)).alloc (.cells (S.map cell).toArray 29)).alloc (.cells (X.map cell).toArray 28)).alloc (.cells (Y.map cell).toArray 28)).alloc (.cells (D'.map cell).toArray 28)).alloc (.cells (S'.map cell).toArray 29)).alloc (.cells (X'.map cell).toArray 28)) (Y'.map cell) 28
    simpa using this

theorem below_trans {w w1 w2 : World} (h : Below w.heap.size w w1) (k : Below w1.heap.size w1 w2) : Below w.heap.size w w2 :=
  ⟨k.os.trans h.os, k.tape.trans h.tape, k.output.trans h.output, Nat.le_trans h.size k.size, fun i hi => (k.block i (Nat.lt_of_lt_of_le hi h.size)).trans (h.block i hi)⟩

theorem boxes_grown {w w' : World} {H I : Nat} {D S X Y D' S' X' Y' : List UInt8} (h : Boxes w H D S X Y D' S' X' Y') (k : w.grownBy w' (some I)) (hI : H + 8 ≤ I) : Boxes w' H D S X Y D' S' X' Y' :=
  ⟨rangeAt_grownBy h.r0 k (by omega), rangeAt_grownBy h.r1 k (by omega), rangeAt_grownBy h.r2 k (by omega), rangeAt_grownBy h.r3 k (by omega), rangeAt_grownBy h.r4 k (by omega), rangeAt_grownBy h.r5 k (by omega), rangeAt_grownBy h.r6 k (by omega), rangeAt_grownBy h.r7 k (by omega)⟩
theorem parts_grown {w w' : World} {s : Option Addr} {sb so n I : Nat} {K : Nat → List UInt8} {T : Nat → Int} (h : IsParts w s sb so n K T) (k : w.grownBy w' (some I)) (hI : 0 < n → sb < I) : IsParts w' s sb so n K T :=
  ⟨h.top, h.len, fun i hi => rangeAt_grownBy (h.cell i hi) k (Nat.ne_of_lt (hI (by omega)))⟩
theorem below_grown {B I : Nat} {w w1 w2 : World} (h : Below B w w1) (hB : B ≤ w1.heap.size) (k : w1.grownBy w2 (some I)) (hI : B ≤ I) : Below B w w2 :=
  ⟨k.os.trans h.os, k.tape.trans h.tape, k.output.trans h.output, Nat.le_trans h.size k.size, fun i hi => (k.block i (Nat.lt_of_lt_of_le hi hB) (fun e => by have := Option.some.inj e; omega)).trans (h.block i hi)⟩
theorem range_lt {w : World} {b o : Nat} {cs : List Value} (h : w.rangeAt b o cs) (hl : 0 < cs.length) : b < w.heap.size := by
  have := h 0 cs[0] (List.getElem?_eq_getElem hl)
  exact World.block_lt_of_cell? _ _ this

attribute [-go_sem] run_neq_struct run_eql_struct
attribute [local go_sem] neq28 eql28 eql29
set_option maxHeartbeats 2000000 in
set_option maxRecDepth 100000 in
theorem main_walk (D S X Y D' S' X' Y' : List UInt8) (a a' : Option Addr) (b o n c b' o' n' c' : Nat) (K K' : Nat → List UInt8) (T T' : Nat → Int) (w : World)
    (hD : D.length = 32) (hS : S.length = 64) (hX : X.length = 32) (hY : Y.length = 32) (hD' : D'.length = 32) (hS' : S'.length = 64) (hX' : X'.length = 32) (hY' : Y'.length = 32)
    (hp : IsParts w a b o n K T) (hp' : IsParts w a' b' o' n' K' T') (hn : n ≤ maxLen) (hn' : n' ≤ maxLen) :
    Calls Try.prog 4 #[.agg (D.map cell).toArray, .agg (S.map cell).toArray, .slice a n c, .agg (X.map cell).toArray, .agg (Y.map cell).toArray, .agg (D'.map cell).toArray, .agg (S'.map cell).toArray, .slice a' n' c', .agg (X'.map cell).toArray, .agg (Y'.map cell).toArray] w fun e w' => e = .returned (.bool true) ∧ Below w.heap.size w w' := by
  obtain ⟨W, hW⟩ : ∃ W, W = ((((((((w.alloc (.cells (D.map cell).toArray 28)).alloc (.cells (S.map cell).toArray 29)).alloc (.cells (X.map cell).toArray 28)).alloc (.cells (Y.map cell).toArray 28)).alloc (.cells (D'.map cell).toArray 28)).alloc (.cells (S'.map cell).toArray 29)).alloc (.cells (X'.map cell).toArray 28)).alloc (.cells (Y'.map cell).toArray 28)) := ⟨_, rfl⟩
  have HB : Boxes W w.heap.size D S X Y D' S' X' Y' := by rw [hW]; exact boxes_new w D S X Y D' S' X' Y'
  have hB : Below w.heap.size w W := by
    rw [hW]
    refine (((((((((Below.refl _ _).alloc (Nat.le_refl _) _).alloc ?_ _).alloc ?_ _).alloc ?_ _).alloc ?_ _).alloc ?_ _).alloc ?_ _).alloc ?_ _) <;> simp <;> omega
  have l8 : ∀ L : List UInt8, L.length = 32 → (Try.prog.info? 28).map (·.size) = some (L.map cell).length := fun L hL => by simpa [hL] using size28
  have l9 : ∀ L : List UInt8, L.length = 64 → (Try.prog.info? 29).map (·.size) = some (L.map cell).length := fun L hL => by simpa [hL] using size29
  have L : Hid ((∀ L : List UInt8, L.length = 32 → (Try.prog.info? 28).map (·.size) = some (L.map cell).length) ∧ (∀ L : List UInt8, L.length = 64 → (Try.prog.info? 29).map (·.size) = some (L.map cell).length)) := ⟨l8, l9⟩
  clear l8 l9
  have HW : Hid (W = ((((((((w.alloc (.cells (D.map cell).toArray 28)).alloc (.cells (S.map cell).toArray 29)).alloc (.cells (X.map cell).toArray 28)).alloc (.cells (Y.map cell).toArray 28)).alloc (.cells (D'.map cell).toArray 28)).alloc (.cells (S'.map cell).toArray 29)).alloc (.cells (X'.map cell).toArray 28)).alloc (.cells (Y'.map cell).toArray 28))) := hW
  clear hW
  go_enter Try.func4, Try.ntmps4
  go_wp2_with (first
    | (rw [← HW.out]; refine wpList_load_mid rfl 28 (.tmp 10) rfl _ _ rfl _ _ HB.r0 Try.underlying28 rfl (L.out.1 D hD) ?_)
    | (refine wpList_load_mid rfl 29 (.tmp 11) rfl _ _ rfl _ _ HB.r1 Try.underlying29 rfl (L.out.2 S hS) ?_)
    | (refine wpList_load_mid rfl 28 (.tmp 13) rfl _ _ rfl _ _ HB.r2 Try.underlying28 rfl (L.out.1 X hX) ?_)
    | (refine wpList_load_mid rfl 28 (.tmp 14) rfl _ _ rfl _ _ HB.r3 Try.underlying28 rfl (L.out.1 Y hY) ?_)
    | (refine wpList_load_mid rfl 28 (.tmp 15) rfl _ _ rfl _ _ HB.r4 Try.underlying28 rfl (L.out.1 D' hD') ?_)
    | (refine wpList_load_mid rfl 29 (.tmp 16) rfl _ _ rfl _ _ HB.r5 Try.underlying29 rfl (L.out.2 S' hS') ?_)
    | (refine wpList_load_mid rfl 28 (.tmp 18) rfl _ _ rfl _ _ HB.r6 Try.underlying28 rfl (L.out.1 X' hX') ?_)
    | (refine wpList_load_mid rfl 28 (.tmp 19) rfl _ _ rfl _ _ HB.r7 Try.underlying28 rfl (L.out.1 Y' hY') ?_)
    | fail)
  refine (bytes_any _ _ _ _ _ _ _ _ a a' n c n' c' W hn hn').mono ?_
  rintro _ w1 ⟨ok1, rfl, hb1⟩
  have HB1 := HB.below hb1
  have hB1 : Below w.heap.size w w1 := below_trans hB hb1
  clear HW HB hB hb1 hn hn'
  cases ok1 with
  | false =>
    go_wp2
    go_ret
    exact ⟨rfl, hB1⟩
  | true =>
  go_wp2_with fail
  refine (fit_any a a' n c n' c' w1).mono ?_
  rintro _ _ ⟨rfl, ok2, rfl, hfit⟩
  cases ok2 with
  | false =>
    go_wp2
    go_ret
    exact ⟨rfl, hB1⟩
  | true =>
  obtain ⟨hn, hn'⟩ := hfit rfl
  clear hfit
  go_wp2_with fail
  refine (copy_any a b o n c K T _ (hp.below hB1) (by omega)).mono ?_
  rintro _ w2 ⟨a2, b2, o2, c2, rfl, hp2, hnil2, _, hb2⟩
  have HB2 := HB1.below hb2
  have hB2 : Below w.heap.size w w2 := below_trans hB1 hb2
  clear HB1 hB1 hb2
  go_wp2_with fail
  refine (copy_any a' b' o' n' c' K' T' _ (hp'.below hB2) (by omega)).mono ?_
  rintro _ w3 ⟨a3, b3, o3, c3, rfl, hp3, hnil3, _, hb3⟩
  have HB3 := HB2.below hb3
  have hp2 := hp2.below hb3
  have hB3 : Below w.heap.size w w3 := below_trans hB2 hb3
  clear HB2 hB2 hb3
  go_wp2_with fail
  generalize hA : ({ tmps := _, defers := [] } : Act) = A
  refine wp_region_cut (fun a' w' => ∃ g s sc, VerAt w3 D S X Y a2 n K T g s sc w' ∧ a' = ((((((((A.put (some 51) (.agg (D.map cell).toArray)).put (some 52) (.agg (S.map cell).toArray)).put (some 53) (.slice a2 n c2)).put (some 54) (.slice s n sc)).put (some 55) (.agg (X.map cell).toArray)).put (some 56) (.agg (Y.map cell).toArray)).put (some 57) (.agg (verCells D S (.slice s n sc) X Y).toArray)).put (some 21) (.pointer (some ⟨g, 0, none⟩)))) ?_ ?_
  · subst hA
    have q : ∀ (b : Nat) (cs : List Value), w3.rangeAt b 0 cs → ∀ w', (∃ p : Cls (fun x : World => Below w3.heap.size w3 x), w' = p.val) → w'.rangeAt b 0 cs := by rintro b cs hr _ ⟨p, rfl⟩; exact rangeAt_below hr p.ok
    have q0 := q _ _ HB3.r0
    have q1 := q _ _ HB3.r1
    have q2 := q _ _ HB3.r2
    have q3 := q _ _ HB3.r3
    have hd : Below w3.heap.size w3 w3.drew := (Below.refl _ _).drew
    have hpd : IsParts w3.drew a2 b2 o2 n K T := hp2.below hd
    obtain ⟨Z, hZ, hz⟩ := zero40
    refine wp_region_head (S := fun w' => ∃ p : Cls (fun x : World => Below w3.heap.size w3 x), w' = p.val) (Z := fun _ => false) 3 (by kernel_rfl) (by kernel_rfl) (by decide) (by kernel_rfl) (fun _ _ _ _ _ h => absurd h.1 (by simp)) (fun _ h => by cases h) ⟨⟨w3.drew, hd⟩, rfl⟩ ?_
    simp only [List.take_succ_cons, List.take_zero]
    refine wpQuiet_load_mid rfl 28 _ rfl _ _ rfl _ _ q0 Try.underlying28 rfl (L.out.1 D hD) ?_
    simp only [Act.put, List.setIfInBounds_toArray, List.set_cons_succ, List.set_cons_zero, List.getElem_toArray, List.getElem_cons_succ, List.getElem_cons_zero]
    refine wpQuiet_load_mid rfl 29 _ rfl _ _ rfl _ _ q1 Try.underlying29 rfl (L.out.2 S hS) ?_
    simp only [Act.put, List.setIfInBounds_toArray, List.set_cons_succ, List.set_cons_zero, List.getElem_toArray, List.getElem_cons_succ, List.getElem_cons_zero]
    refine BigFrame.wpQuiet_want rfl (fun KK hK => BigFrame.quiet_move _ rfl (hK _ ?_))
    simp only [Act.put, List.setIfInBounds_toArray, List.set_cons_succ, List.set_cons_zero, List.getElem_toArray, List.getElem_cons_succ, List.getElem_cons_zero]
    refine wpQuiet_nil ?_
    refine wpAnyZ_take (i := 4) rfl (by kernel_rfl) (by kernel_rfl) (by kernel_rfl) (fun _ _ _ h => absurd h.1 (by simp)) (fun _ h => by cases h) (yieldsIf_load_mid rfl 28 _ rfl _ _ rfl _ _ q2 Try.underlying28 rfl (L.out.1 X hX)) ⟨⟨w3.drew, hd⟩, rfl⟩ ?_
    simp only [Act.put, List.setIfInBounds_toArray, List.set_cons_succ, List.set_cons_zero, List.getElem_toArray, List.getElem_cons_succ, List.getElem_cons_zero]
    refine wpAnyZ_take (i := 5) rfl (by kernel_rfl) (by kernel_rfl) (by kernel_rfl) (fun _ _ _ h => absurd h.1 (by simp)) (fun _ h => by cases h) (yieldsIf_load_mid rfl 28 _ rfl _ _ rfl _ _ q3 Try.underlying28 rfl (L.out.1 Y hY)) ⟨⟨w3.drew, hd⟩, rfl⟩ ?_
    simp only [Act.put, List.setIfInBounds_toArray, List.set_cons_succ, List.set_cons_zero, List.getElem_toArray, List.getElem_cons_succ, List.getElem_cons_zero]
    refine wpAnyZ_two (t := 3) (s := 7) (by kernel_rfl) rfl rfl rfl rfl ?_ ?_
    · refine wp_call_fn rfl (by kernel_rfl) (by simp only [List.map_toArray, List.map_cons, List.map_nil]; rfl) (to_any a2 b2 o2 n c2 K T w3.drew hpd (by omega)) ?_
      rintro _ x1 ⟨s, sb, so, sc, rfl, hps, hnil, hsb, hb1⟩
      have hx1 : Below w3.heap.size w3 x1 := below_trans hd hb1
      have hlen := verCells_len (p := .slice s n sc) hD hS hX hY
      have h40 : (Try.prog.info? 40).map (·.size) = some (verCells D S (.slice s n sc) X Y).toArray.size := by simpa [hlen] using size40
      have h1 := all_oneCell_toArray (verCells_one D S X Y s n sc)
      refine ⟨_, rfl, fun _ => ⟨⟨x1, hx1⟩, rfl⟩, ?_⟩
      simp only [Act.put, List.setIfInBounds_toArray, List.set_cons_succ, List.set_cons_zero, List.getElem_toArray, List.getElem_cons_succ, List.getElem_cons_zero]
      refine wpAnyZ_two (t := 6) (s := 7) (by kernel_rfl) rfl rfl rfl rfl ?_ ?_
      · refine wp_call_fn rfl (by kernel_rfl) (by simp only [List.map_toArray, List.map_cons, List.map_nil]; rfl) (ver_any D S X Y s n sc x1 hD hS hX hY) ?_
        rintro _ x2 ⟨rfl, hb2⟩
        have hx2 : Below w3.heap.size w3 x2 := below_trans hx1 hb2
        refine ⟨_, rfl, fun _ => ⟨⟨x2, hx2⟩, rfl⟩, ?_⟩
        simp only [Act.put, List.setIfInBounds_toArray, List.set_cons_succ, List.set_cons_zero, List.getElem_toArray, List.getElem_cons_succ, List.getElem_cons_zero]
        obtain ⟨V, hV⟩ := rowIs_made_wide x2 Z 161 40 hZ
        have hx3 : Below w3.heap.size w3 (x2.alloc (.cells Z 40)) := hx2.alloc hx2.size _
        refine wpAnyZ_one (t := 7) (by kernel_rfl) rfl rfl ?_
        refine wp_alloc_agg 40 rfl Z hz ⟨fun _ => ⟨⟨_, hx3⟩, rfl⟩, ?_⟩
        simp only [Act.put, List.setIfInBounds_toArray, List.set_cons_succ, List.set_cons_zero, List.getElem_toArray, List.getElem_cons_succ, List.getElem_cons_zero]
        refine wpAnyZ_one (t := 8) (by kernel_rfl) rfl rfl ?_
        refine wp_store_mid 40 _ _ rfl x2.heap.size 0 _ rfl rfl (by simpa [hlen] using there_of_row hV (o := 0) (k := 161) (by omega)) h40 h1 ⟨fun _ => ⟨⟨_, Go.below_setCells hx2.size _ _ _ hx3⟩, rfl⟩, ?_⟩
        refine wpAnyZ_done (by kernel_rfl) ⟨rfl, x2.heap.size, s, sc, ver_store hD hS hX hY hx3 hx2.size hV ((hps.below hb2).below ((Below.refl _ _).alloc (Nat.le_refl _) _)) (fun h0 => Nat.ne_of_lt (parts_lt (hps.below hb2) h0)) hnil, rfl⟩ _
      · obtain ⟨V, hV⟩ := rowIs_made_wide x1 Z 161 40 hZ
        have hx3 : Below w3.heap.size w3 (x1.alloc (.cells Z 40)) := hx1.alloc hx1.size _
        refine wp_alloc_agg 40 rfl Z hz ⟨fun _ => ⟨⟨_, hx3⟩, rfl⟩, ?_⟩
        simp only [Act.put, List.setIfInBounds_toArray, List.set_cons_succ, List.set_cons_zero, List.getElem_toArray, List.getElem_cons_succ, List.getElem_cons_zero]
        refine wpAnyZ_one (t := 6) (by kernel_rfl) rfl rfl ?_
        refine wp_call_fn rfl (by kernel_rfl) (by simp only [List.map_toArray, List.map_cons, List.map_nil]; rfl) (ver_any D S X Y s n sc _ hD hS hX hY) ?_
        rintro _ x2 ⟨rfl, hb2⟩
        have hx2 : Below w3.heap.size w3 x2 := below_trans hx3 hb2
        have hV2 := hV.of_block (hb2.block _ hV.lt)
        refine ⟨_, rfl, fun _ => ⟨⟨x2, hx2⟩, rfl⟩, ?_⟩
        simp only [Act.put, List.setIfInBounds_toArray, List.set_cons_succ, List.set_cons_zero, List.getElem_toArray, List.getElem_cons_succ, List.getElem_cons_zero]
        refine wpAnyZ_one (t := 8) (by kernel_rfl) rfl rfl ?_
        refine wp_store_mid 40 _ _ rfl x1.heap.size 0 _ rfl rfl (by simpa [hlen] using there_of_row hV2 (o := 0) (k := 161) (by omega)) h40 h1 ⟨fun _ => ⟨⟨_, Go.below_setCells hx1.size _ _ _ hx2⟩, rfl⟩, ?_⟩
        refine wpAnyZ_done (by kernel_rfl) ⟨rfl, x1.heap.size, s, sc, ver_store hD hS hX hY hx2 hx1.size hV2 ((hps.below ((Below.refl _ _).alloc (Nat.le_refl _) _)).below hb2) (fun h0 => Nat.ne_of_lt (parts_lt hps h0)) hnil, rfl⟩ _
    · obtain ⟨V, hV⟩ := rowIs_made_wide w3.drew Z 161 40 hZ
      have hx3 : Below w3.heap.size w3 (w3.drew.alloc (.cells Z 40)) := hd.alloc hd.size _
      refine wp_alloc_agg 40 rfl Z hz ⟨fun _ => ⟨⟨_, hx3⟩, rfl⟩, ?_⟩
      simp only [Act.put, List.setIfInBounds_toArray, List.set_cons_succ, List.set_cons_zero, List.getElem_toArray, List.getElem_cons_succ, List.getElem_cons_zero]
      refine wpAnyZ_one (t := 3) (by kernel_rfl) rfl rfl ?_
      refine wp_call_fn rfl (by kernel_rfl) (by simp only [List.map_toArray, List.map_cons, List.map_nil]; rfl) (to_any a2 b2 o2 n c2 K T _ (hpd.below ((Below.refl _ _).alloc (Nat.le_refl _) _)) (by omega)) ?_
      rintro _ x1 ⟨s, sb, so, sc, rfl, hps, hnil, hsb, hb1⟩
      have hx1 : Below w3.heap.size w3 x1 := below_trans hx3 hb1
      have hV1 := hV.of_block (hb1.block _ hV.lt)
      have hlen := verCells_len (p := .slice s n sc) hD hS hX hY
      have h40 : (Try.prog.info? 40).map (·.size) = some (verCells D S (.slice s n sc) X Y).toArray.size := by simpa [hlen] using size40
      have h1 := all_oneCell_toArray (verCells_one D S X Y s n sc)
      refine ⟨_, rfl, fun _ => ⟨⟨x1, hx1⟩, rfl⟩, ?_⟩
      simp only [Act.put, List.setIfInBounds_toArray, List.set_cons_succ, List.set_cons_zero, List.getElem_toArray, List.getElem_cons_succ, List.getElem_cons_zero]
      refine wpAnyZ_one (t := 6) (by kernel_rfl) rfl rfl ?_
      refine wp_call_fn rfl (by kernel_rfl) (by simp only [List.map_toArray, List.map_cons, List.map_nil]; rfl) (ver_any D S X Y s n sc x1 hD hS hX hY) ?_
      rintro _ x2 ⟨rfl, hb2⟩
      have hx2 : Below w3.heap.size w3 x2 := below_trans hx1 hb2
      have hV2 := hV1.of_block (hb2.block _ hV1.lt)
      refine ⟨_, rfl, fun _ => ⟨⟨x2, hx2⟩, rfl⟩, ?_⟩
      simp only [Act.put, List.setIfInBounds_toArray, List.set_cons_succ, List.set_cons_zero, List.getElem_toArray, List.getElem_cons_succ, List.getElem_cons_zero]
      refine wpAnyZ_one (t := 8) (by kernel_rfl) rfl rfl ?_
      refine wp_store_mid 40 _ _ rfl w3.heap.size 0 _ rfl rfl (by simpa [hlen] using there_of_row hV2 (o := 0) (k := 161) (by omega)) h40 h1 ⟨fun _ => ⟨⟨_, Go.below_setCells (Nat.le_refl _) _ _ _ hx2⟩, rfl⟩, ?_⟩
      refine wpAnyZ_done (by kernel_rfl) ⟨rfl, w3.heap.size, s, sc, ver_store hD hS hX hY hx2 (Nat.le_refl _) hV2 (hps.below hb2) (fun h0 => by have := hsb; simp at this; omega) hnil, rfl⟩ _
  subst hA
  rintro _ w4 ⟨g4, s4, e4, hv4, rfl⟩
  simp only [Act.put, List.setIfInBounds_toArray, List.set_cons_succ, List.set_cons_zero, List.getElem_toArray, List.getElem_cons_succ, List.getElem_cons_zero]
  obtain ⟨hb4, hg4, hr4, sb4, so4, hps4, hnil4⟩ := hv4
  have HB4 := HB3.below hb4
  have hp2 := hp2.below hb4
  have hp4 := hp3.below hb4
  have hB4 : Below w.heap.size w w4 := below_trans hB3 hb4
  have hg4l : g4 < w4.heap.size := World.block_lt_of_cell? _ _ (ver_ranges hD hS hX hr4).2.2.1
  clear HB3 hb4 hp3 hB3
  go_wp2_with fail
  generalize hA : ({ tmps := _, defers := [] } : Act) = A
  refine wp_region_cut (fun a' w' => ∃ g s sc, VerAt w4 D' S' X' Y' a3 n' K' T' g s sc w' ∧ a' = ((((((((A.put (some 58) (.agg (D'.map cell).toArray)).put (some 59) (.agg (S'.map cell).toArray)).put (some 60) (.slice a3 n' c3)).put (some 61) (.slice s n' sc)).put (some 62) (.agg (X'.map cell).toArray)).put (some 63) (.agg (Y'.map cell).toArray)).put (some 64) (.agg (verCells D' S' (.slice s n' sc) X' Y').toArray)).put (some 22) (.pointer (some ⟨g, 0, none⟩)))) ?_ ?_
  · subst hA
    have q : ∀ (b : Nat) (cs : List Value), w4.rangeAt b 0 cs → ∀ w', (∃ p : Cls (fun x : World => Below w4.heap.size w4 x), w' = p.val) → w'.rangeAt b 0 cs := by rintro b cs hr _ ⟨p, rfl⟩; exact rangeAt_below hr p.ok
    have q0 := q _ _ HB4.r4
    have q1 := q _ _ HB4.r5
    have q2 := q _ _ HB4.r6
    have q3 := q _ _ HB4.r7
    have hd : Below w4.heap.size w4 w4.drew := (Below.refl _ _).drew
    have hpd : IsParts w4.drew a3 b3 o3 n' K' T' := hp4.below hd
    obtain ⟨Z, hZ, hz⟩ := zero40
    refine wp_region_head (S := fun w' => ∃ p : Cls (fun x : World => Below w4.heap.size w4 x), w' = p.val) (Z := fun _ => false) 3 (by kernel_rfl) (by kernel_rfl) (by decide) (by kernel_rfl) (fun _ _ _ _ _ h => absurd h.1 (by simp)) (fun _ h => by cases h) ⟨⟨w4.drew, hd⟩, rfl⟩ ?_
    simp only [List.take_succ_cons, List.take_zero]
    refine wpQuiet_load_mid rfl 28 _ rfl _ _ rfl _ _ q0 Try.underlying28 rfl (L.out.1 D' hD') ?_
    simp only [Act.put, List.setIfInBounds_toArray, List.set_cons_succ, List.set_cons_zero, List.getElem_toArray, List.getElem_cons_succ, List.getElem_cons_zero]
    refine wpQuiet_load_mid rfl 29 _ rfl _ _ rfl _ _ q1 Try.underlying29 rfl (L.out.2 S' hS') ?_
    simp only [Act.put, List.setIfInBounds_toArray, List.set_cons_succ, List.set_cons_zero, List.getElem_toArray, List.getElem_cons_succ, List.getElem_cons_zero]
    refine BigFrame.wpQuiet_want rfl (fun KK hK => BigFrame.quiet_move _ rfl (hK _ ?_))
    simp only [Act.put, List.setIfInBounds_toArray, List.set_cons_succ, List.set_cons_zero, List.getElem_toArray, List.getElem_cons_succ, List.getElem_cons_zero]
    refine wpQuiet_nil ?_
    refine wpAnyZ_take (i := 4) rfl (by kernel_rfl) (by kernel_rfl) (by kernel_rfl) (fun _ _ _ h => absurd h.1 (by simp)) (fun _ h => by cases h) (yieldsIf_load_mid rfl 28 _ rfl _ _ rfl _ _ q2 Try.underlying28 rfl (L.out.1 X' hX')) ⟨⟨w4.drew, hd⟩, rfl⟩ ?_
    simp only [Act.put, List.setIfInBounds_toArray, List.set_cons_succ, List.set_cons_zero, List.getElem_toArray, List.getElem_cons_succ, List.getElem_cons_zero]
    refine wpAnyZ_take (i := 5) rfl (by kernel_rfl) (by kernel_rfl) (by kernel_rfl) (fun _ _ _ h => absurd h.1 (by simp)) (fun _ h => by cases h) (yieldsIf_load_mid rfl 28 _ rfl _ _ rfl _ _ q3 Try.underlying28 rfl (L.out.1 Y' hY')) ⟨⟨w4.drew, hd⟩, rfl⟩ ?_
    simp only [Act.put, List.setIfInBounds_toArray, List.set_cons_succ, List.set_cons_zero, List.getElem_toArray, List.getElem_cons_succ, List.getElem_cons_zero]
    refine wpAnyZ_two (t := 3) (s := 7) (by kernel_rfl) rfl rfl rfl rfl ?_ ?_
    · refine wp_call_fn rfl (by kernel_rfl) (by simp only [List.map_toArray, List.map_cons, List.map_nil]; rfl) (to_any a3 b3 o3 n' c3 K' T' w4.drew hpd (by omega)) ?_
      rintro _ x1 ⟨s, sb, so, sc, rfl, hps, hnil, hsb, hb1⟩
      have hx1 : Below w4.heap.size w4 x1 := below_trans hd hb1
      have hlen := verCells_len (p := .slice s n' sc) hD' hS' hX' hY'
      have h40 : (Try.prog.info? 40).map (·.size) = some (verCells D' S' (.slice s n' sc) X' Y').toArray.size := by simpa [hlen] using size40
      have h1 := all_oneCell_toArray (verCells_one D' S' X' Y' s n' sc)
      refine ⟨_, rfl, fun _ => ⟨⟨x1, hx1⟩, rfl⟩, ?_⟩
      simp only [Act.put, List.setIfInBounds_toArray, List.set_cons_succ, List.set_cons_zero, List.getElem_toArray, List.getElem_cons_succ, List.getElem_cons_zero]
      refine wpAnyZ_two (t := 6) (s := 7) (by kernel_rfl) rfl rfl rfl rfl ?_ ?_
      · refine wp_call_fn rfl (by kernel_rfl) (by simp only [List.map_toArray, List.map_cons, List.map_nil]; rfl) (ver_any D' S' X' Y' s n' sc x1 hD' hS' hX' hY') ?_
        rintro _ x2 ⟨rfl, hb2⟩
        have hx2 : Below w4.heap.size w4 x2 := below_trans hx1 hb2
        refine ⟨_, rfl, fun _ => ⟨⟨x2, hx2⟩, rfl⟩, ?_⟩
        simp only [Act.put, List.setIfInBounds_toArray, List.set_cons_succ, List.set_cons_zero, List.getElem_toArray, List.getElem_cons_succ, List.getElem_cons_zero]
        obtain ⟨V, hV⟩ := rowIs_made_wide x2 Z 161 40 hZ
        have hx3 : Below w4.heap.size w4 (x2.alloc (.cells Z 40)) := hx2.alloc hx2.size _
        refine wpAnyZ_one (t := 7) (by kernel_rfl) rfl rfl ?_
        refine wp_alloc_agg 40 rfl Z hz ⟨fun _ => ⟨⟨_, hx3⟩, rfl⟩, ?_⟩
        simp only [Act.put, List.setIfInBounds_toArray, List.set_cons_succ, List.set_cons_zero, List.getElem_toArray, List.getElem_cons_succ, List.getElem_cons_zero]
        refine wpAnyZ_one (t := 8) (by kernel_rfl) rfl rfl ?_
        refine wp_store_mid 40 _ _ rfl x2.heap.size 0 _ rfl rfl (by simpa [hlen] using there_of_row hV (o := 0) (k := 161) (by omega)) h40 h1 ⟨fun _ => ⟨⟨_, Go.below_setCells hx2.size _ _ _ hx3⟩, rfl⟩, ?_⟩
        refine wpAnyZ_done (by kernel_rfl) ⟨rfl, x2.heap.size, s, sc, ver_store hD' hS' hX' hY' hx3 hx2.size hV ((hps.below hb2).below ((Below.refl _ _).alloc (Nat.le_refl _) _)) (fun h0 => Nat.ne_of_lt (parts_lt (hps.below hb2) h0)) hnil, rfl⟩ _
      · obtain ⟨V, hV⟩ := rowIs_made_wide x1 Z 161 40 hZ
        have hx3 : Below w4.heap.size w4 (x1.alloc (.cells Z 40)) := hx1.alloc hx1.size _
        refine wp_alloc_agg 40 rfl Z hz ⟨fun _ => ⟨⟨_, hx3⟩, rfl⟩, ?_⟩
        simp only [Act.put, List.setIfInBounds_toArray, List.set_cons_succ, List.set_cons_zero, List.getElem_toArray, List.getElem_cons_succ, List.getElem_cons_zero]
        refine wpAnyZ_one (t := 6) (by kernel_rfl) rfl rfl ?_
        refine wp_call_fn rfl (by kernel_rfl) (by simp only [List.map_toArray, List.map_cons, List.map_nil]; rfl) (ver_any D' S' X' Y' s n' sc _ hD' hS' hX' hY') ?_
        rintro _ x2 ⟨rfl, hb2⟩
        have hx2 : Below w4.heap.size w4 x2 := below_trans hx3 hb2
        have hV2 := hV.of_block (hb2.block _ hV.lt)
        refine ⟨_, rfl, fun _ => ⟨⟨x2, hx2⟩, rfl⟩, ?_⟩
        simp only [Act.put, List.setIfInBounds_toArray, List.set_cons_succ, List.set_cons_zero, List.getElem_toArray, List.getElem_cons_succ, List.getElem_cons_zero]
        refine wpAnyZ_one (t := 8) (by kernel_rfl) rfl rfl ?_
        refine wp_store_mid 40 _ _ rfl x1.heap.size 0 _ rfl rfl (by simpa [hlen] using there_of_row hV2 (o := 0) (k := 161) (by omega)) h40 h1 ⟨fun _ => ⟨⟨_, Go.below_setCells hx1.size _ _ _ hx2⟩, rfl⟩, ?_⟩
        refine wpAnyZ_done (by kernel_rfl) ⟨rfl, x1.heap.size, s, sc, ver_store hD' hS' hX' hY' hx2 hx1.size hV2 ((hps.below ((Below.refl _ _).alloc (Nat.le_refl _) _)).below hb2) (fun h0 => Nat.ne_of_lt (parts_lt hps h0)) hnil, rfl⟩ _
    · obtain ⟨V, hV⟩ := rowIs_made_wide w4.drew Z 161 40 hZ
      have hx3 : Below w4.heap.size w4 (w4.drew.alloc (.cells Z 40)) := hd.alloc hd.size _
      refine wp_alloc_agg 40 rfl Z hz ⟨fun _ => ⟨⟨_, hx3⟩, rfl⟩, ?_⟩
      simp only [Act.put, List.setIfInBounds_toArray, List.set_cons_succ, List.set_cons_zero, List.getElem_toArray, List.getElem_cons_succ, List.getElem_cons_zero]
      refine wpAnyZ_one (t := 3) (by kernel_rfl) rfl rfl ?_
      refine wp_call_fn rfl (by kernel_rfl) (by simp only [List.map_toArray, List.map_cons, List.map_nil]; rfl) (to_any a3 b3 o3 n' c3 K' T' _ (hpd.below ((Below.refl _ _).alloc (Nat.le_refl _) _)) (by omega)) ?_
      rintro _ x1 ⟨s, sb, so, sc, rfl, hps, hnil, hsb, hb1⟩
      have hx1 : Below w4.heap.size w4 x1 := below_trans hx3 hb1
      have hV1 := hV.of_block (hb1.block _ hV.lt)
      have hlen := verCells_len (p := .slice s n' sc) hD' hS' hX' hY'
      have h40 : (Try.prog.info? 40).map (·.size) = some (verCells D' S' (.slice s n' sc) X' Y').toArray.size := by simpa [hlen] using size40
      have h1 := all_oneCell_toArray (verCells_one D' S' X' Y' s n' sc)
      refine ⟨_, rfl, fun _ => ⟨⟨x1, hx1⟩, rfl⟩, ?_⟩
      simp only [Act.put, List.setIfInBounds_toArray, List.set_cons_succ, List.set_cons_zero, List.getElem_toArray, List.getElem_cons_succ, List.getElem_cons_zero]
      refine wpAnyZ_one (t := 6) (by kernel_rfl) rfl rfl ?_
      refine wp_call_fn rfl (by kernel_rfl) (by simp only [List.map_toArray, List.map_cons, List.map_nil]; rfl) (ver_any D' S' X' Y' s n' sc x1 hD' hS' hX' hY') ?_
      rintro _ x2 ⟨rfl, hb2⟩
      have hx2 : Below w4.heap.size w4 x2 := below_trans hx1 hb2
      have hV2 := hV1.of_block (hb2.block _ hV1.lt)
      refine ⟨_, rfl, fun _ => ⟨⟨x2, hx2⟩, rfl⟩, ?_⟩
      simp only [Act.put, List.setIfInBounds_toArray, List.set_cons_succ, List.set_cons_zero, List.getElem_toArray, List.getElem_cons_succ, List.getElem_cons_zero]
      refine wpAnyZ_one (t := 8) (by kernel_rfl) rfl rfl ?_
      refine wp_store_mid 40 _ _ rfl w4.heap.size 0 _ rfl rfl (by simpa [hlen] using there_of_row hV2 (o := 0) (k := 161) (by omega)) h40 h1 ⟨fun _ => ⟨⟨_, Go.below_setCells (Nat.le_refl _) _ _ _ hx2⟩, rfl⟩, ?_⟩
      refine wpAnyZ_done (by kernel_rfl) ⟨rfl, w4.heap.size, s, sc, ver_store hD' hS' hX' hY' hx2 (Nat.le_refl _) hV2 (hps.below hb2) (fun h0 => by have := hsb; simp at this; omega) hnil, rfl⟩ _
  subst hA
  rintro _ w5 ⟨g5, s5, e5, hv5, rfl⟩
  simp only [Act.put, List.setIfInBounds_toArray, List.set_cons_succ, List.set_cons_zero, List.getElem_toArray, List.getElem_cons_succ, List.getElem_cons_zero]
  obtain ⟨hb5, hg5, hr5, sb5, so5, hps5, hnil5⟩ := hv5
  have HB5 := HB4.below hb5
  have hp2 := hp2.below hb5
  have hps4 := hps4.below hb5
  have hr4 := rangeAt_below hr4 hb5
  have hB5 : Below w.heap.size w w5 := below_trans hB4 hb5
  have hg5l : g5 < w5.heap.size := World.block_lt_of_cell? _ _ (ver_ranges hD' hS' hX' hr5).2.2.1
  have hw5 := hb5.size
  have lt2 : 0 < n → b2 < w5.heap.size := parts_lt hp2
  have lt4 : 0 < n → sb4 < w5.heap.size := parts_lt hps4
  have ltB : w.heap.size + 8 ≤ w5.heap.size := by
    have := range_lt HB5.r7 (by simp [hY'])
    omega
  clear HB4 hb5 hp4 hB4 hps5 hnil5
  go_wp2_with fail
  refine (inst_any w5).mono ?_
  rintro _ w6 ⟨I, rfl, hI, hin, hb6⟩
  have HB6 := HB5.below hb6
  have hp2 := hp2.below hb6
  have hps4 := hps4.below hb6
  have hr4 := rangeAt_below hr4 hb6
  have hr5 := rangeAt_below hr5 hb6
  have hB6 : Below w.heap.size w w6 := below_trans hB5 hb6
  have hw6 := hb6.size
  clear HB5 hb6 hB5
  obtain ⟨cs, hcs⟩ : ∃ cs, cs = verCells D S (.slice s4 n e4) X Y := ⟨_, rfl⟩
  obtain ⟨ds, hds⟩ : ∃ ds, ds = verCells D' S' (.slice s5 n' e5) X' Y' := ⟨_, rfl⟩
  have hcl : cs.length = 161 := by rw [hcs]; exact verCells_len hD hS hX hY
  have hdl : ds.length = 161 := by rw [hds]; exact verCells_len hD' hS' hX' hY'
  have HC : Hid (cs = verCells D S (.slice s4 n e4) X Y) := hcs
  rw [← hcs] at hr4
  rw [← hds] at hr5
  clear hds hcs
  have ic : (Try.prog.info? 40).map (·.size) = some cs.length := by rw [hcl]; exact size40
  have id : (Try.prog.info? 40).map (·.size) = some ds.length := by rw [hdl]; exact size40
  have IC : Hid ((Try.prog.info? 40).map (·.size) = some cs.length ∧ (Try.prog.info? 40).map (·.size) = some ds.length) := ⟨ic, id⟩
  clear ic id
  go_wp2_with (first | (refine wpList_load_mid rfl 40 (.tmp 21) rfl _ _ rfl _ _ hr4 Try.underlying40 rfl IC.out.1 ?_) | fail)
  refine (zleave_any I cs none w6 hin hcl).mono ?_
  rintro _ w7 ⟨rfl, hgr7, g7, hg7, hin7, hr7⟩
  have HB7 := boxes_grown HB6 hgr7 (by omega)
  have hp7 := parts_grown hp2 hgr7 (fun h0 => by have := lt2 h0; omega)
  have hps7 := parts_grown hps4 hgr7 (fun h0 => by have := lt4 h0; omega)
  have hr4 := rangeAt_grownBy hr4 hgr7 (by omega)
  have hr5 := rangeAt_grownBy hr5 hgr7 (by omega)
  have hB7 : Below w.heap.size w w7 := below_grown hB6 hB6.size hgr7 (by omega)
  have hne7 : g7 ≠ I := by
    have := (hin.choose_spec.choose_spec.2.1).lt
    omega
  have hw7 := hgr7.size
  clear HB6 hp2 hps4 hB6 hgr7 hin
  go_wp2_with fail
  refine (out_any I _ w7 hin7).mono ?_
  rintro _ _ ⟨rfl, rfl⟩
  go_wp2_with (first | (refine wpList_load_mid rfl 40 (.tmp 22) rfl _ _ rfl _ _ hr5 Try.underlying40 rfl IC.out.2 ?_) | fail)
  refine (zleave_any I ds _ _ hin7 hdl).mono ?_
  rintro _ w8 ⟨rfl, hgr8, hin8⟩
  have HB8 := boxes_grown HB7 hgr8 (by omega)
  have hp8 := parts_grown hp7 hgr8 (fun h0 => by have := lt2 h0; omega)
  have hps8 := parts_grown hps7 hgr8 (fun h0 => by have := lt4 h0; omega)
  have hr4 := rangeAt_grownBy hr4 hgr8 (by omega)
  have hr7 := rangeAt_grownBy hr7 hgr8 hne7
  have hB8 : Below w.heap.size w w8 := below_grown hB7 hB7.size hgr8 (by omega)
  clear HB7 hp7 hps7 hB7 hgr8 hin7 hr5
  go_wp2_with (first | (refine wpList_load_mid rfl 40 (.tmp 21) rfl _ _ rfl _ _ hr4 Try.underlying40 rfl IC.out.1 ?_) | fail)
  refine (zleave_any I cs _ _ hin8 hcl).mono ?_
  rintro _ w9 ⟨rfl, hgr9, hin9⟩
  have HB9 := boxes_grown HB8 hgr9 (by omega)
  have hp9 := parts_grown hp8 hgr9 (fun h0 => by have := lt2 h0; omega)
  have hps9 := parts_grown hps8 hgr9 (fun h0 => by have := lt4 h0; omega)
  have hr9 := rangeAt_grownBy hr7 hgr9 hne7
  have hB9 : Below w.heap.size w w9 := below_grown hB8 hB8.size hgr9 (by omega)
  clear HB8 hp8 hps8 hB8 hgr9 hin8 hr4 hr7
  go_wp2_with fail
  refine (out_any I _ w9 hin9).mono ?_
  rintro _ _ ⟨rfl, rfl⟩
  rename_i w9
  have np := neq46 ⟨g7, 0, none⟩
  rw [HC.out] at hr9
  go_wp2_with fail
  refine (fields_any g7 D S X Y s4 n e4 w9 hD hS hX hY hr9).mono ?_
  rintro _ w10 ⟨rfl, hb10⟩
  have HB10 := HB9.below hb10
  have hp10 := hp9.below hb10
  have hps10 := hps9.below hb10
  have hB10 : Below w.heap.size w w10 := below_trans hB9 hb10
  clear HB9 hp9 hps9 hB9 hb10 hin9 hr9 np IC HC
  obtain ⟨Z8, hZ8, hz8⟩ := zero28
  obtain ⟨Z9, hZ9, hz9⟩ := zero29
  obtain ⟨hb11, t0, t1, t2, t3⟩ := new4 w10 Z8 Z9 hZ8 hZ9
  obtain ⟨W, hW⟩ : ∃ W, W = ((((w10.alloc (.cells Z8 28)).alloc (.cells Z9 29)).alloc (.cells Z8 28)).alloc (.cells Z8 28)) := ⟨_, rfl⟩
  rw [← hW] at hb11 t0 t1 t2 t3
  have HW : Hid (W = ((((w10.alloc (.cells Z8 28)).alloc (.cells Z9 29)).alloc (.cells Z8 28)).alloc (.cells Z8 28))) := hW
  clear hW
  have s8 : ∀ L : List UInt8, L.length = 32 → (L.map cell).toArray.size = 32 := fun L hL => by simp [hL]
  have s9 : ∀ L : List UInt8, L.length = 64 → (L.map cell).toArray.size = 64 := fun L hL => by simp [hL]
  have l8' : ∀ L : List UInt8, L.length = 32 → (Try.prog.info? 28).map (·.size) = some (L.map cell).toArray.size := fun L hL => by simpa [hL] using size28
  have l9' : ∀ L : List UInt8, L.length = 64 → (Try.prog.info? 29).map (·.size) = some (L.map cell).toArray.size := fun L hL => by simpa [hL] using size29
  have o1 : ∀ L : List UInt8, ((L.map cell).toArray.all (·.oneCell')) = true := fun L => all_oneCell_toArray (cells_one L)
  have v0 : W.there w10.heap.size 0 (D.map cell).toArray.size := by rw [s8 D hD]; exact t0
  have v1 : (W.setCells w10.heap.size 0 (D.map cell)).there (w10.heap.size + 1) 0 (S.map cell).toArray.size := by rw [s9 S hS]; exact World.there_setCells t1 _ _ _
  have v2 : ((W.setCells w10.heap.size 0 (D.map cell)).setCells (w10.heap.size + 1) 0 (S.map cell)).there (w10.heap.size + 1 + 1) 0 (X.map cell).toArray.size := by rw [s8 X hX]; exact World.there_setCells (World.there_setCells t2 _ _ _) _ _ _
  have v3 : (((W.setCells w10.heap.size 0 (D.map cell)).setCells (w10.heap.size + 1) 0 (S.map cell)).setCells (w10.heap.size + 1 + 1) 0 (X.map cell)).there (w10.heap.size + 1 + 1 + 1) 0 (Y.map cell).toArray.size := by rw [s8 Y hY]; exact World.there_setCells (World.there_setCells (World.there_setCells t3 _ _ _) _ _ _) _ _ _
  have F : Hid (W.there w10.heap.size 0 (D.map cell).toArray.size ∧ (W.setCells w10.heap.size 0 (D.map cell)).there (w10.heap.size + 1) 0 (S.map cell).toArray.size ∧ ((W.setCells w10.heap.size 0 (D.map cell)).setCells (w10.heap.size + 1) 0 (S.map cell)).there (w10.heap.size + 1 + 1) 0 (X.map cell).toArray.size ∧ (((W.setCells w10.heap.size 0 (D.map cell)).setCells (w10.heap.size + 1) 0 (S.map cell)).setCells (w10.heap.size + 1 + 1) 0 (X.map cell)).there (w10.heap.size + 1 + 1 + 1) 0 (Y.map cell).toArray.size) := ⟨v0, v1, v2, v3⟩
  obtain ⟨u0, u1, u2, u3⟩ := set4 hD hS hX hY t0 t1 t2 t3
  have hb12 := below_set4 hb11 (Nat.le_refl w10.heap.size) (D.map cell) (S.map cell) (X.map cell) (Y.map cell)
  obtain ⟨U, hU⟩ : ∃ U, U = ((((W.setCells w10.heap.size 0 (D.map cell)).setCells (w10.heap.size + 1) 0 (S.map cell)).setCells (w10.heap.size + 1 + 1) 0 (X.map cell)).setCells (w10.heap.size + 1 + 1 + 1) 0 (Y.map cell)) := ⟨_, rfl⟩
  rw [← hU] at u0 u1 u2 u3 hb12
  have HU : Hid (U = ((((W.setCells w10.heap.size 0 (D.map cell)).setCells (w10.heap.size + 1) 0 (S.map cell)).setCells (w10.heap.size + 1 + 1) 0 (X.map cell)).setCells (w10.heap.size + 1 + 1 + 1) 0 (Y.map cell))) := hU
  clear hU v0 v1 v2 v3 t0 t1 t2 t3 s8 s9 hb11
  have HB12 := HB10.below hb12
  have hp12 := hp10.below hb12
  have hps12 := hps10.below hb12
  have hB12 : Below w.heap.size w U := below_trans hB10 hb12
  have M : Hid ((∀ L : List UInt8, L.length = 32 → (Try.prog.info? 28).map (·.size) = some (L.map cell).toArray.size) ∧ (∀ L : List UInt8, L.length = 64 → (Try.prog.info? 29).map (·.size) = some (L.map cell).toArray.size)) := ⟨l8', l9'⟩
  clear l8' l9' HB10 hp10 hps10 hB10 hb12
  go_wp2_with (first
    | (rw [← HW.out]; refine wpList_store_mid rfl 28 (.tmp 26) (.tmp 87) rfl w10.heap.size 0 _ rfl rfl F.out.1 (M.out.1 D hD) (o1 D) ?_)
    | (refine wpList_store_mid rfl 29 (.tmp 27) (.tmp 88) rfl (w10.heap.size + 1) 0 _ rfl rfl F.out.2.1 (M.out.2 S hS) (o1 S) ?_)
    | (refine wpList_store_mid rfl 28 (.tmp 29) (.tmp 90) rfl (w10.heap.size + 1 + 1) 0 _ rfl rfl F.out.2.2.1 (M.out.1 X hX) (o1 X) ?_)
    | (refine wpList_store_mid rfl 28 (.tmp 30) (.tmp 91) rfl (w10.heap.size + 1 + 1 + 1) 0 _ rfl rfl F.out.2.2.2 (M.out.1 Y hY) (o1 Y) ?_)
    | (rw [← HU.out]; refine wpList_load_want rfl 28 (.tmp 26) rfl _ _ rfl _ _ u0 Try.underlying28 rfl (L.out.1 D hD) ?_)
    | (refine wpList_load_want rfl 28 (.tmp 10) rfl _ _ rfl _ _ HB12.r0 Try.underlying28 rfl (L.out.1 D hD) ?_)
    | (refine wpList_load_want rfl 29 (.tmp 27) rfl _ _ rfl _ _ u1 Try.underlying29 rfl (L.out.2 S hS) ?_)
    | (refine wpList_load_want rfl 29 (.tmp 11) rfl _ _ rfl _ _ HB12.r1 Try.underlying29 rfl (L.out.2 S hS) ?_)
    | fail)
  refine (same_any s4 a2 sb4 so4 b2 o2 n e4 c2 K T U hps12 hp12 hnil4 (by omega)).mono ?_
  rintro _ w13 ⟨rfl, hb13⟩
  have HB13 := HB12.below hb13
  have u2 := rangeAt_below u2 hb13
  have u3 := rangeAt_below u3 hb13
  have hB13 : Below w.heap.size w w13 := below_trans hB12 hb13
  clear HB12 hps12 hp12 hB12 hb13 u0 u1 HU HW F M
  go_wp2_with (first
    | (refine wpList_load_want rfl 28 (.tmp 29) rfl _ _ rfl _ _ u2 Try.underlying28 rfl (L.out.1 X hX) ?_)
    | (refine wpList_load_want rfl 28 (.tmp 13) rfl _ _ rfl _ _ HB13.r2 Try.underlying28 rfl (L.out.1 X hX) ?_)
    | (refine wpList_load_want rfl 28 (.tmp 30) rfl _ _ rfl _ _ u3 Try.underlying28 rfl (L.out.1 Y hY) ?_)
    | (refine wpList_load_want rfl 28 (.tmp 14) rfl _ _ rfl _ _ HB13.r3 Try.underlying28 rfl (L.out.1 Y hY) ?_)
    | fail)
  go_ret
  exact ⟨rfl, hB13⟩

end Go.Proofs.Qxb6605784a.Leave
