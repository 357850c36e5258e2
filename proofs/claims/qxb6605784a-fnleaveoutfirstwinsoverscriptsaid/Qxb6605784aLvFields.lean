import Derived.Test.Qxb6605784aLvTail
namespace Go.Proofs.Qxb6605784a.Leave
open Go.RowKit
open Extern.Stop (cell)
set_option linter.unusedVariables false

theorem wp_assign_any {P : Program} {op : Oper} {a : Act} {w : World} {K : Act → World → Prop} {Q : Exit → Act → World → Prop} (x : Operand) (ho : op.op = .assign x) (h : K (a.put op.dst (a.eval x)) w) : op.wp P a w K Q := by
  unfold Oper.wp execOp
  simp only [ho, Sem.run_pure]
  exact h

/-- A world of a class. -/
structure Cls (C : World → Prop) where
  val : World
  ok : C val

theorem info28 : (Try.prog.info? 28).map (fun i => (i.zero, i.size)) = some (some (.agg (List.replicate 32 (Value.int .u8 0)).toArray), 32) := by kernel_rfl
theorem info29 : (Try.prog.info? 29).map (fun i => (i.zero, i.size)) = some (some (.agg (List.replicate 64 (Value.int .u8 0)).toArray), 64) := by kernel_rfl
theorem zero28 : ∃ Z : Array Value, Z.size = 32 ∧ ∀ w, (zeroValue 28).run Try.prog w = .ok (.agg Z) w := ⟨_, by simp, (zero_of_info info28).1⟩
theorem zero29 : ∃ Z : Array Value, Z.size = 64 ∧ ∀ w, (zeroValue 29).run Try.prog w = .ok (.agg Z) w := ⟨_, by simp, (zero_of_info info29).1⟩

def FieldsPost (D S X Y : List UInt8) (p : Value) (w : World) (e : Ending) (w' : World) : Prop :=
  e = .returned (.tuple #[.agg (D.map cell).toArray, .agg (S.map cell).toArray, p, .agg (X.map cell).toArray, .agg (Y.map cell).toArray]) ∧ Below w.heap.size w w'

theorem results_five {P : Program} {fn : Func} {p1 p2 t3 p4 p5 : Tmp} {y1 y2 y4 y5 : TypeId} (h : fn.results = #[.cell p1 y1, .cell p2 y2, .tmp t3, .cell p4 y4, .cell p5 y5]) (tmps : Array Value) (w : World)
    (b1 b2 b4 b5 : Nat) (c1 c2 c4 c5 : List Value) (d1 d2 d4 d5 : TypeDesc)
    (h1 : tmps.getD p1 undef = .pointer (some ⟨b1, 0, none⟩)) (h2 : tmps.getD p2 undef = .pointer (some ⟨b2, 0, none⟩)) (h4 : tmps.getD p4 undef = .pointer (some ⟨b4, 0, none⟩)) (h5 : tmps.getD p5 undef = .pointer (some ⟨b5, 0, none⟩))
    (r1 : w.rangeAt b1 0 c1) (r2 : w.rangeAt b2 0 c2) (r4 : w.rangeAt b4 0 c4) (r5 : w.rangeAt b5 0 c5)
    (u1 : P.underlying y1 = some d1) (u2 : P.underlying y2 = some d2) (u4 : P.underlying y4 = some d4) (u5 : P.underlying y5 = some d5)
    (e1 : d1.isRow = true) (e2 : d2.isRow = true) (e4 : d4.isRow = true) (e5 : d5.isRow = true)
    (i1 : (P.info? y1).map (·.size) = some c1.length) (i2 : (P.info? y2).map (·.size) = some c2.length) (i4 : (P.info? y4).map (·.size) = some c4.length) (i5 : (P.info? y5).map (·.size) = some c5.length) :
    (results fn tmps).run P w = .ok (.tuple #[.agg c1.toArray, .agg c2.toArray, tmps.getD t3 undef, .agg c4.toArray, .agg c5.toArray]) w := by
  have h1' : tmps[p1]?.getD undef = .pointer (some ⟨b1, 0, none⟩) := by simpa using h1
  have h2' : tmps[p2]?.getD undef = .pointer (some ⟨b2, 0, none⟩) := by simpa using h2
  have h4' : tmps[p4]?.getD undef = .pointer (some ⟨b4, 0, none⟩) := by simpa using h4
  have h5' : tmps[p5]?.getD undef = .pointer (some ⟨b5, 0, none⟩) := by simpa using h5
  simp [results, h, h1', h2', h4', h5', asAddr, run_loadVar_mid w b1 0 y1 c1 d1 r1 u1 e1 i1, run_loadVar_mid w b2 0 y2 c2 d2 r2 u2 e2 i2, run_loadVar_mid w b4 0 y4 c4 d4 r4 u4 e4 i4, run_loadVar_mid w b5 0 y5 c5 d5 r5 u5 e5 i5]

theorem ver_ranges {w : World} {g : Nat} {D S X Y : List UInt8} {p : Value} (hD : D.length = 32) (hS : S.length = 64) (hX : X.length = 32) (hg : w.rangeAt g 0 (verCells D S p X Y)) :
    w.rangeAt g 0 (D.map cell) ∧ w.rangeAt g 32 (S.map cell) ∧ w.cell? ⟨g, 96, none⟩ = some p ∧ w.rangeAt g 97 (X.map cell) ∧ w.rangeAt g 129 (Y.map cell) := by
  unfold verCells stCells valCells at hg
  have h1 := rangeAt_left hg
  have h2 := rangeAt_right hg (n := 97) (by simp [hD, hS])
  refine ⟨rangeAt_left (rangeAt_left h1), ?_, ?_, ?_, ?_⟩
  · have := rangeAt_right (rangeAt_left h1) (n := 32) (by simp [hD]); simpa using this
  · have := rangeAt_right h1 (n := 96) (by simp [hD, hS])
    have := this 0 p rfl
    simpa using this
  · have := rangeAt_left h2; simpa using this
  · have := rangeAt_right h2 (n := 32) (by simp [hX]); simpa using this

set_option maxHeartbeats 1000000 in
set_option maxRecDepth 100000 in
theorem fields_any (g : Nat) (D S X Y : List UInt8) (a : Option Addr) (n c : Nat) (w : World) (hD : D.length = 32) (hS : S.length = 64) (hX : X.length = 32) (hY : Y.length = 32) (hg : w.rangeAt g 0 (verCells D S (.slice a n c) X Y)) :
    Calls Try.prog 17 #[.pointer (some ⟨g, 0, none⟩)] w fun e w' => FieldsPost D S X Y (.slice a n c) w e w' := by
  obtain ⟨Z8, hZ8, hz8⟩ := zero28
  obtain ⟨Z9, hZ9, hz9⟩ := zero29
  obtain ⟨W, hW⟩ : ∃ W, W = ((((w.alloc (.cells Z8 28)).alloc (.cells Z9 29)).alloc (.cells Z8 28)).alloc (.cells Z8 28)) := ⟨_, rfl⟩
  have hB : Below w.heap.size w W := by
    rw [hW]
    refine ((((Below.refl _ _).alloc (Nat.le_refl _) _).alloc ?_ _).alloc ?_ _).alloc ?_ _ <;> simp <;> omega
  have hlt : g < w.heap.size := by
    have h0 := (ver_ranges hD hS hX hg).2.2.1
    exact World.block_lt_of_cell? _ _ h0
  obtain ⟨V0, hV0⟩ : ∃ V, W.rowIs w.heap.size 28 32 V := by
    obtain ⟨V, hV⟩ := rowIs_made_wide w Z8 32 28 hZ8
    rw [hW]; exact ⟨V, ((hV.alloc _).alloc _).alloc _⟩
  obtain ⟨V1, hV1⟩ : ∃ V, W.rowIs (w.heap.size + 1) 29 64 V := by
    obtain ⟨V, hV⟩ := rowIs_made_wide (w.alloc (.cells Z8 28)) Z9 64 29 hZ9
    rw [hW]; exact ⟨V, by simpa using (hV.alloc _).alloc _⟩
  obtain ⟨V2, hV2⟩ : ∃ V, W.rowIs (w.heap.size + 1 + 1) 28 32 V := by
    obtain ⟨V, hV⟩ := rowIs_made_wide ((w.alloc (.cells Z8 28)).alloc (.cells Z9 29)) Z8 32 28 hZ8
    rw [hW]; exact ⟨V, by simpa using hV.alloc _⟩
  obtain ⟨V3, hV3⟩ : ∃ V, W.rowIs (w.heap.size + 1 + 1 + 1) 28 32 V := by
    obtain ⟨V, hV⟩ := rowIs_made_wide (((w.alloc (.cells Z8 28)).alloc (.cells Z9 29)).alloc (.cells Z8 28)) Z8 32 28 hZ8
    rw [hW]; exact ⟨V, by simpa using hV⟩
  have hgW : W.rangeAt g 0 (verCells D S (.slice a n c) X Y) := rangeAt_below hg hB
  have t0 := there_of_row hV0.drew (o := 0) (k := 32) (by omega)
  have t1 := there_of_row hV1.drew (o := 0) (k := 64) (by omega)
  have t2 := there_of_row hV2.drew (o := 0) (k := 32) (by omega)
  have t3 := there_of_row hV3.drew (o := 0) (k := 32) (by omega)
  have l8 : ∀ L : List UInt8, L.length = 32 → (Try.prog.info? 28).map (·.size) = some (L.map cell).length := fun L hL => by simpa [hL] using size28
  have l9 : (Try.prog.info? 29).map (·.size) = some (S.map cell).length := by simpa [hS] using size29
  have l8' : ∀ L : List UInt8, L.length = 32 → (Try.prog.info? 28).map (·.size) = some (L.map cell).toArray.size := fun L hL => by simpa [hL] using size28
  have l9' : (Try.prog.info? 29).map (·.size) = some (S.map cell).toArray.size := by simpa [hS] using size29
  have s8 : ∀ L : List UInt8, L.length = 32 → (L.map cell).toArray.size = 32 := fun L hL => by simp [hL]
  have s9 : (S.map cell).toArray.size = 64 := by simp [hS]
  have kp : ∀ (x : World) (b : Nat) (vs : List Value), g ≠ b → x.rangeAt g 0 (verCells D S (.slice a n c) X Y) → (x.setCells b 0 vs).rangeAt g 0 (verCells D S (.slice a n c) X Y) := fun x b vs hne hx => World.rangeAt_setCells_apart hx _ _ _ (.inl hne)
  go_enter Try.func17, Try.ntmps17
  go_wp2_with fail
  rw [← hW]
  have pc : ∀ p : Cls (fun x : World => x.rangeAt g 0 (verCells D S (.slice a n c) X Y)), p.val.cell? ⟨g, 96, none⟩ = some (.slice a n c) := fun p => (ver_ranges hD hS hX p.ok).2.2.1
  have p0 : ∀ w', (∃ p : Cls (fun x : World => x.rangeAt g 0 (verCells D S (.slice a n c) X Y)), w' = p.val) → w'.rangeAt g 0 (D.map cell) := by rintro _ ⟨p, rfl⟩; exact (ver_ranges hD hS hX p.ok).1
  have p1 : ∀ w', (∃ p : Cls (fun x : World => x.rangeAt g 0 (verCells D S (.slice a n c) X Y)), w' = p.val) → w'.rangeAt g 32 (S.map cell) := by rintro _ ⟨p, rfl⟩; exact (ver_ranges hD hS hX p.ok).2.1
  have p2 : ∀ w', (∃ p : Cls (fun x : World => x.rangeAt g 0 (verCells D S (.slice a n c) X Y)), w' = p.val) → w'.rangeAt g 97 (X.map cell) := by rintro _ ⟨p, rfl⟩; exact (ver_ranges hD hS hX p.ok).2.2.2.1
  have p3 : ∀ w', (∃ p : Cls (fun x : World => x.rangeAt g 0 (verCells D S (.slice a n c) X Y)), w' = p.val) → w'.rangeAt g 129 (Y.map cell) := by rintro _ ⟨p, rfl⟩; exact (ver_ranges hD hS hX p.ok).2.2.2.2
  have H := And.intro p0 (And.intro p1 (And.intro p2 p3))
  have H : Hid ((∀ w', (∃ p : Cls (fun x : World => x.rangeAt g 0 (verCells D S (.slice a n c) X Y)), w' = p.val) → w'.rangeAt g 0 (D.map cell)) ∧ (∀ w', (∃ p : Cls (fun x : World => x.rangeAt g 0 (verCells D S (.slice a n c) X Y)), w' = p.val) → w'.rangeAt g 32 (S.map cell)) ∧ (∀ w', (∃ p : Cls (fun x : World => x.rangeAt g 0 (verCells D S (.slice a n c) X Y)), w' = p.val) → w'.rangeAt g 97 (X.map cell)) ∧ (∀ w', (∃ p : Cls (fun x : World => x.rangeAt g 0 (verCells D S (.slice a n c) X Y)), w' = p.val) → w'.rangeAt g 129 (Y.map cell))) := H
  clear p0 p1 p2 p3
  have hne : Nonempty (Cls (fun x : World => x.rangeAt g 0 (verCells D S (.slice a n c) X Y))) := ⟨⟨W, hgW⟩⟩
  refine wp_region_head (S := fun w' => ∃ p : Cls (fun x : World => x.rangeAt g 0 (verCells D S (.slice a n c) X Y)), w' = p.val) (Z := fun _ => false) 25 (by kernel_rfl) (by kernel_rfl) (by decide) (by kernel_rfl) (fun _ _ d _ _ h => by cases d <;> exact h) (fun _ h => by cases h) ⟨⟨W.drew, by simpa using hgW⟩, rfl⟩ ?_
  simp only [List.take_succ_cons, List.take_zero]
  repeat (first
    | (refine wpQuiet_load_mid rfl 28 _ rfl _ _ rfl _ _ H.out.1 Try.underlying28 rfl (l8 D hD) ?_; simp only [Act.put, List.setIfInBounds_toArray, List.set_cons_succ, List.set_cons_zero])
    | (refine wpQuiet_load_mid rfl 29 _ rfl _ _ rfl _ _ H.out.2.1 Try.underlying29 rfl l9 ?_; simp only [Act.put, List.setIfInBounds_toArray, List.set_cons_succ, List.set_cons_zero])
    | (refine wpQuiet_load_mid rfl 28 _ rfl _ _ rfl _ _ H.out.2.2.1 Try.underlying28 rfl (l8 X hX) ?_; simp only [Act.put, List.setIfInBounds_toArray, List.set_cons_succ, List.set_cons_zero])
    | (refine wpQuiet_load_mid rfl 28 _ rfl _ _ rfl _ _ H.out.2.2.2 Try.underlying28 rfl (l8 Y hY) ?_; simp only [Act.put, List.setIfInBounds_toArray, List.set_cons_succ, List.set_cons_zero])
    | go_big_quiet_step (fail))
  refine wpQuiet_nil ?_
  clear H pc
  have o1 : ∀ L : List UInt8, ((L.map cell).toArray.all (·.oneCell')) = true := fun L => all_oneCell_toArray (cells_one L)
  have k0 : (W.drew).rangeAt g 0 (verCells D S (.slice a n c) X Y) := by simpa using hgW
  have k1 := kp _ w.heap.size (D.map cell) (by omega) k0
  have k2 := kp _ (w.heap.size + 1) (S.map cell) (by omega) k1
  have k3 := kp _ (w.heap.size + 1 + 1) (X.map cell) (by omega) k2
  have k4 := kp _ (w.heap.size + 1 + 1 + 1) (Y.map cell) (by omega) k3
  refine wpAnyZ_one (t := 25) (by kernel_rfl) rfl rfl ?_
  refine wp_store_mid 28 _ _ rfl w.heap.size 0 _ rfl rfl (by rw [s8 D hD]; exact t0) (l8' D hD) (o1 D) ⟨fun _ => ⟨⟨_, k1⟩, rfl⟩, ?_⟩
  refine wpAnyZ_one (t := 26) (by kernel_rfl) rfl rfl ?_
  refine wp_store_mid 29 _ _ rfl (w.heap.size + 1) 0 _ rfl rfl (by rw [s9]; exact World.there_setCells t1 _ _ _) l9' (o1 S) ⟨fun _ => ⟨⟨_, k2⟩, rfl⟩, ?_⟩
  refine wpAnyZ_one (t := 27) (by kernel_rfl) rfl rfl ?_
  refine wp_assign_any _ rfl ⟨fun _ => ⟨⟨_, k2⟩, rfl⟩, ?_⟩
  refine wpAnyZ_one (t := 28) (by kernel_rfl) rfl rfl ?_
  refine wp_store_mid 28 _ _ rfl (w.heap.size + 1 + 1) 0 _ rfl rfl (by rw [s8 X hX]; exact World.there_setCells (World.there_setCells t2 _ _ _) _ _ _) (l8' X hX) (o1 X) ⟨fun _ => ⟨⟨_, k3⟩, rfl⟩, ?_⟩
  refine wpAnyZ_one (t := 29) (by kernel_rfl) rfl rfl ?_
  refine wp_store_mid 28 _ _ rfl (w.heap.size + 1 + 1 + 1) 0 _ rfl rfl (by rw [s8 Y hY]; exact World.there_setCells (World.there_setCells (World.there_setCells t3 _ _ _) _ _ _) _ _ _) (l8' Y hY) (o1 Y) ⟨fun _ => ⟨⟨_, k4⟩, rfl⟩, ?_⟩
  refine wpAnyZ_done (by kernel_rfl) ?_ _
  simp only [Act.put, List.setIfInBounds_toArray, List.set_cons_succ, List.set_cons_zero, List.getElem_toArray, List.getElem_cons_succ, List.getElem_cons_zero]
  have T0 := World.rangeAt_setCells_same _ w.heap.size 0 (D.map cell) (by rw [List.length_map, hD]; exact t0)
  have T1 := World.rangeAt_setCells_same _ (w.heap.size + 1) 0 (S.map cell) (by rw [List.length_map, hS]; exact World.there_setCells t1 w.heap.size 0 (D.map cell))
  have T2 := World.rangeAt_setCells_same _ (w.heap.size + 1 + 1) 0 (X.map cell) (by rw [List.length_map, hX]; exact World.there_setCells (World.there_setCells t2 w.heap.size 0 (D.map cell)) (w.heap.size + 1) 0 (S.map cell))
  have T3 := World.rangeAt_setCells_same _ (w.heap.size + 1 + 1 + 1) 0 (Y.map cell) (by rw [List.length_map, hY]; exact World.there_setCells (World.there_setCells (World.there_setCells t3 w.heap.size 0 (D.map cell)) (w.heap.size + 1) 0 (S.map cell)) (w.heap.size + 1 + 1) 0 (X.map cell))
  have U2 := World.rangeAt_setCells_apart T2 (w.heap.size + 1 + 1 + 1) 0 (Y.map cell) (.inl (by omega))
  have U1 := World.rangeAt_setCells_apart (World.rangeAt_setCells_apart T1 (w.heap.size + 1 + 1) 0 (X.map cell) (.inl (by omega))) (w.heap.size + 1 + 1 + 1) 0 (Y.map cell) (.inl (by omega))
  have U0 := World.rangeAt_setCells_apart (World.rangeAt_setCells_apart (World.rangeAt_setCells_apart T0 (w.heap.size + 1) 0 (S.map cell) (.inl (by omega))) (w.heap.size + 1 + 1) 0 (X.map cell) (.inl (by omega))) (w.heap.size + 1 + 1 + 1) 0 (Y.map cell) (.inl (by omega))
  have UB : Below w.heap.size w (((((W.drew).setCells w.heap.size 0 (D.map cell)).setCells (w.heap.size + 1) 0 (S.map cell)).setCells (w.heap.size + 1 + 1) 0 (X.map cell)).setCells (w.heap.size + 1 + 1 + 1) 0 (Y.map cell)) :=
    Go.below_setCells (by omega) _ _ _ (Go.below_setCells (by omega) _ _ _ (Go.below_setCells (by omega) _ _ _ (Go.below_setCells (Nat.le_refl _) _ _ _ hB.drew)))
  clear hz8 hz9 l8' l9' kp k1 k2 k3 k4 hgW k0
  generalize (((((W.drew).setCells w.heap.size 0 (D.map cell)).setCells (w.heap.size + 1) 0 (S.map cell)).setCells (w.heap.size + 1 + 1) 0 (X.map cell)).setCells (w.heap.size + 1 + 1 + 1) 0 (Y.map cell)) = U at *
  go_wp2
  refine bodyPost_ret (results_five rfl _ _ _ _ _ _ _ _ _ _ _ _ _ _ rfl rfl rfl rfl U0 U1 U2 T3 Try.underlying28 Try.underlying29 Try.underlying28 Try.underlying28 rfl rfl rfl rfl (l8 D hD) l9 (l8 X hX) (l8 Y hY)) rfl ?_
  exact ⟨rfl, UB⟩
end Go.Proofs.Qxb6605784a.Leave
