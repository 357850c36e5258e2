import Derived.Test.Qxb6605784aLvSame
namespace Go.Proofs.Qxb6605784a.Leave
open Go.RowKit
open Extern.Stop (cell)
set_option linter.unusedVariables false

theorem size29 : (Try.prog.info? 29).map (·.size) = some 64 := by kernel_rfl
theorem size40 : (Try.prog.info? 40).map (·.size) = some 161 := by kernel_rfl
theorem info40 : (Try.prog.info? 40).map (fun i => (i.zero, i.size)) = some (some (.agg z40), 161) := by kernel_rfl
theorem zero40 : ∃ Z : Array Value, Z.size = 161 ∧ ∀ w, (zeroValue 40).run Try.prog w = .ok (.agg Z) w := ⟨z40, rfl, (zero_of_info info40).1⟩

theorem rangeAt_new (w : World) (cs : List Value) (t : TypeId) : (w.alloc (.cells cs.toArray t)).rangeAt w.heap.size 0 cs := fun j v hv => by
  rw [cell_of_row _ _ _ _ _ _ (heap_alloc_last w _)]
  simpa using hv

/-- What 'ZZnewVersion' hands back. -/
def VerPost (D S : List UInt8) (p : Value) (X Y : List UInt8) (w : World) (e : Ending) (w' : World) : Prop := e = .returned (.agg (verCells D S p X Y).toArray) ∧ Below w.heap.size w w'

theorem verCells_len {D S X Y : List UInt8} {p : Value} (hD : D.length = 32) (hS : S.length = 64) (hX : X.length = 32) (hY : Y.length = 32) : (verCells D S p X Y).length = 161 := by
  simp [verCells, stCells, valCells, hD, hS, hX, hY]
theorem verCells_one (D S X Y : List UInt8) (a : Option Addr) (n c : Nat) : ∀ v ∈ verCells D S (.slice a n c) X Y, v.oneCell' = true := fun v hv => by
  simp only [verCells, stCells, valCells, List.mem_append, List.mem_map, List.mem_singleton] at hv
  rcases hv with ((⟨x, _, rfl⟩ | ⟨x, _, rfl⟩) | rfl) | ⟨x, _, rfl⟩ | ⟨x, _, rfl⟩ <;> rfl

theorem results_cell_mid {P : Program} {fn : Func} {p : Tmp} {ty : TypeId} (h : fn.results = #[.cell p ty]) (tmps : Array Value) (w : World) (b o : Nat) (cs : List Value) (d : TypeDesc)
    (hp : tmps.getD p undef = .pointer (some ⟨b, o, none⟩)) (hc : w.rangeAt b o cs) (hu : P.underlying ty = some d) (hd : d.isRow = true) (hi : (P.info? ty).map (·.size) = some cs.length) :
    (results fn tmps).run P w = .ok (.agg cs.toArray) w := by
  have hp' : tmps[p]?.getD undef = .pointer (some ⟨b, o, none⟩) := by simpa using hp
  simp [results, h, hp', asAddr, run_loadVar_mid w b o ty cs d hc hu hd hi]

attribute [-go_sem] Instr.build
attribute [local go_sem] build36 build38 build40
set_option maxHeartbeats 1000000 in
set_option maxRecDepth 100000 in
theorem ver_any (D S X Y : List UInt8) (a : Option Addr) (n c : Nat) (w : World) (hD : D.length = 32) (hS : S.length = 64) (hX : X.length = 32) (hY : Y.length = 32) :
    Calls Try.prog 12 #[.agg (D.map cell).toArray, .agg (S.map cell).toArray, .slice a n c, .agg (X.map cell).toArray, .agg (Y.map cell).toArray] w fun e w' => VerPost D S (.slice a n c) X Y w e w' := by
  obtain ⟨Z, hZ, hz⟩ := zero40
  obtain ⟨W, hW⟩ : ∃ W, W = (((((w.alloc (.cells (D.map cell).toArray 28)).alloc (.cells (S.map cell).toArray 29)).alloc (.cells (X.map cell).toArray 28)).alloc (.cells (Y.map cell).toArray 28)).alloc (.cells Z 40)) := ⟨_, rfl⟩
  have r0 : W.rangeAt w.heap.size 0 (D.map cell) := by
    rw [hW]; exact World.rangeAt_alloc (World.rangeAt_alloc (World.rangeAt_alloc (World.rangeAt_alloc (rangeAt_new _ _ _) _) _) _) _
  have r1 : W.rangeAt (w.heap.size + 1) 0 (S.map cell) := by
    have := World.rangeAt_alloc (World.rangeAt_alloc (World.rangeAt_alloc (rangeAt_new (w.alloc (.cells (D.map cell).toArray 28)) (S.map cell) 29) (.cells (X.map cell).toArray 28)) (.cells (Y.map cell).toArray 28)) (.cells Z 40)
    rw [hW]; simpa using this
  have r2 : W.rangeAt (w.heap.size + 1 + 1) 0 (X.map cell) := by
    have := World.rangeAt_alloc (World.rangeAt_alloc (rangeAt_new ((w.alloc (.cells (D.map cell).toArray 28)).alloc (.cells (S.map cell).toArray 29)) (X.map cell) 28) (.cells (Y.map cell).toArray 28)) (.cells Z 40)
    rw [hW]; simpa using this
  have r3 : W.rangeAt (w.heap.size + 1 + 1 + 1) 0 (Y.map cell) := by
    have := World.rangeAt_alloc (rangeAt_new (((w.alloc (.cells (D.map cell).toArray 28)).alloc (.cells (S.map cell).toArray 29)).alloc (.cells (X.map cell).toArray 28)) (Y.map cell) 28) (.cells Z 40)
    rw [hW]; simpa using this
  obtain ⟨V, hV⟩ : ∃ V, W.rowIs (w.heap.size + 1 + 1 + 1 + 1) 40 161 V := by
    have := rowIs_made_wide ((((w.alloc (.cells (D.map cell).toArray 28)).alloc (.cells (S.map cell).toArray 29)).alloc (.cells (X.map cell).toArray 28)).alloc (.cells (Y.map cell).toArray 28)) Z 161 40 hZ
    rw [hW]; simpa using this
  have hB : Below w.heap.size w W := by
    rw [hW]
    refine (((((Below.refl _ _).alloc (Nat.le_refl _) _).alloc ?_ _).alloc ?_ _).alloc ?_ _).alloc ?_ _ <;> simp <;> omega
  have hlen := verCells_len (p := .slice a n c) hD hS hX hY
  have th : W.there (w.heap.size + 1 + 1 + 1 + 1) 0 (verCells D S (.slice a n c) X Y).toArray.size := by simpa [hlen] using there_of_row hV (o := 0) (k := 161) (by omega)
  have h28D : (Try.prog.info? 28).map (·.size) = some (D.map cell).length := by simpa [hD] using size28
  have h28X : (Try.prog.info? 28).map (·.size) = some (X.map cell).length := by simpa [hX] using size28
  have h28Y : (Try.prog.info? 28).map (·.size) = some (Y.map cell).length := by simpa [hY] using size28
  have h29 : (Try.prog.info? 29).map (·.size) = some (S.map cell).length := by simpa [hS] using size29
  have h40 : (Try.prog.info? 40).map (·.size) = some (verCells D S (.slice a n c) X Y).toArray.size := by simpa [hlen] using size40
  have h1 := all_oneCell_toArray (verCells_one D S X Y a n c)
  go_enter Try.func12, Try.ntmps12
  subst hW
  go_wp2_with (first
    | (refine wpList_load_mid rfl 28 (.tmp 5) rfl _ _ rfl _ _ r0 Try.underlying28 rfl h28D ?_)
    | (refine wpList_load_mid rfl 29 (.tmp 6) rfl _ _ rfl _ _ r1 Try.underlying29 rfl h29 ?_)
    | (refine wpList_load_mid rfl 28 (.tmp 8) rfl _ _ rfl _ _ r2 Try.underlying28 rfl h28X ?_)
    | (refine wpList_load_mid rfl 28 (.tmp 9) rfl _ _ rfl _ _ r3 Try.underlying28 rfl h28Y ?_)
    | (refine wpList_store_mid rfl 40 (.tmp 10) (.tmp 18) rfl _ _ _ rfl rfl th h40 h1 ?_))
  refine bodyPost_ret (results_cell_mid rfl _ _ _ _ _ _ rfl (World.rangeAt_setCells_same _ _ _ _ (by simpa using th)) Try.underlying40 rfl (by simpa using h40)) rfl ?_
  exact ⟨rfl, Go.below_setCells (by omega) _ _ _ hB⟩

end Go.Proofs.Qxb6605784a.Leave
