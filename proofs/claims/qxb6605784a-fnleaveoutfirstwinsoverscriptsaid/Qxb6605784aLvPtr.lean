import Derived.Test.Qxb6605784aLvCut
import Derived.LaidEql
namespace Go.Proofs.Qxb6605784a.Leave
open Extern.Stop (cell)

theorem sz40 (w : World) : (sizeOf 40).run Try.prog w = .ok 161 w := by
  have h := size40
  cases hq : Try.prog.info? 40 with
  | none => rw [hq] at h; cases h
  | some i =>
    rw [hq] at h
    have : i.size = 161 := by simpa using h
    simp [sizeOf, typeInfo, hq, this]

theorem equalIn46 (d : Nat) (p : Addr) (w : World) : (Op.equalIn (d + 1) 46 (.pointer (some p)) (.pointer (some p))).run Try.prog w = .ok true w := by
  rw [Op.equalIn]
  simp [run_underlying Try.underlying46, run_sameAddr_same]
theorem neq46 (p : Addr) (w : World) : (binOp .neq 46 (.pointer (some p)) (.pointer (some p))).run Try.prog w = .ok (.bool false) w := by
  have h := equalIn46 9999 p w
  simp only [binOp]
  simp [Op.equal, Op.maxDepth, h]

open Go.RowKit
/-- Four new arrays of 32, 64, 32, 32 cells. -/
theorem new4 (w : World) (Z8 Z9 : Array Value) (hZ8 : Z8.size = 32) (hZ9 : Z9.size = 64) :
    Below w.heap.size w ((((w.alloc (.cells Z8 28)).alloc (.cells Z9 29)).alloc (.cells Z8 28)).alloc (.cells Z8 28)) ∧
    ((((w.alloc (.cells Z8 28)).alloc (.cells Z9 29)).alloc (.cells Z8 28)).alloc (.cells Z8 28)).there w.heap.size 0 32 ∧
    ((((w.alloc (.cells Z8 28)).alloc (.cells Z9 29)).alloc (.cells Z8 28)).alloc (.cells Z8 28)).there (w.heap.size + 1) 0 64 ∧
    ((((w.alloc (.cells Z8 28)).alloc (.cells Z9 29)).alloc (.cells Z8 28)).alloc (.cells Z8 28)).there (w.heap.size + 1 + 1) 0 32 ∧
    ((((w.alloc (.cells Z8 28)).alloc (.cells Z9 29)).alloc (.cells Z8 28)).alloc (.cells Z8 28)).there (w.heap.size + 1 + 1 + 1) 0 32 := by
  refine ⟨?_, ?_, ?_, ?_, ?_⟩
  · refine ((((Below.refl _ _).alloc (Nat.le_refl _) _).alloc ?_ _).alloc ?_ _).alloc ?_ _ <;> simp <;> omega
  · obtain ⟨V, hV⟩ := rowIs_made_wide w Z8 32 28 hZ8
    exact there_of_row (((hV.alloc _).alloc _).alloc _) (by omega)
  · obtain ⟨V, hV⟩ := rowIs_made_wide (w.alloc (.cells Z8 28)) Z9 64 29 hZ9
    have hV' := (hV.alloc (.cells Z8 28)).alloc (.cells Z8 28)
    have := there_of_row hV' (o := 0) (k := 64) (by omega)
    simpa using this
  · obtain ⟨V, hV⟩ := rowIs_made_wide ((w.alloc (.cells Z8 28)).alloc (.cells Z9 29)) Z8 32 28 hZ8
    have := there_of_row (hV.alloc (.cells Z8 28)) (o := 0) (k := 32) (by omega)
    simpa using this
  · obtain ⟨V, hV⟩ := rowIs_made_wide (((w.alloc (.cells Z8 28)).alloc (.cells Z9 29)).alloc (.cells Z8 28)) Z8 32 28 hZ8
    have := there_of_row hV (o := 0) (k := 32) (by omega)
    simpa using this

/-- The four stores into them. -/
theorem set4 {W : World} {H : Nat} {D S X Y : List UInt8} (hD : D.length = 32) (hS : S.length = 64) (hX : X.length = 32) (hY : Y.length = 32)
    (t0 : W.there H 0 32) (t1 : W.there (H + 1) 0 64) (t2 : W.there (H + 1 + 1) 0 32) (t3 : W.there (H + 1 + 1 + 1) 0 32) :
    let U := ((((W.setCells H 0 (D.map cell)).setCells (H + 1) 0 (S.map cell)).setCells (H + 1 + 1) 0 (X.map cell)).setCells (H + 1 + 1 + 1) 0 (Y.map cell))
    U.rangeAt H 0 (D.map cell) ∧ U.rangeAt (H + 1) 0 (S.map cell) ∧ U.rangeAt (H + 1 + 1) 0 (X.map cell) ∧ U.rangeAt (H + 1 + 1 + 1) 0 (Y.map cell) := by
  have T0 := World.rangeAt_setCells_same W H 0 (D.map cell) (by rw [List.length_map, hD]; exact t0)
  have T1 := World.rangeAt_setCells_same _ (H + 1) 0 (S.map cell) (by rw [List.length_map, hS]; exact World.there_setCells t1 H 0 (D.map cell))
  have T2 := World.rangeAt_setCells_same _ (H + 1 + 1) 0 (X.map cell) (by rw [List.length_map, hX]; exact World.there_setCells (World.there_setCells t2 H 0 (D.map cell)) (H + 1) 0 (S.map cell))
  have T3 := World.rangeAt_setCells_same _ (H + 1 + 1 + 1) 0 (Y.map cell) (by rw [List.length_map, hY]; exact World.there_setCells (World.there_setCells (World.there_setCells t3 H 0 (D.map cell)) (H + 1) 0 (S.map cell)) (H + 1 + 1) 0 (X.map cell))
  refine ⟨?_, ?_, ?_, T3⟩
  · exact World.rangeAt_setCells_apart (World.rangeAt_setCells_apart (World.rangeAt_setCells_apart T0 (H + 1) 0 (S.map cell) (.inl (by omega))) (H + 1 + 1) 0 (X.map cell) (.inl (by omega))) (H + 1 + 1 + 1) 0 (Y.map cell) (.inl (by omega))
  · exact World.rangeAt_setCells_apart (World.rangeAt_setCells_apart T1 (H + 1 + 1) 0 (X.map cell) (.inl (by omega))) (H + 1 + 1 + 1) 0 (Y.map cell) (.inl (by omega))
  · exact World.rangeAt_setCells_apart T2 (H + 1 + 1 + 1) 0 (Y.map cell) (.inl (by omega))

theorem below_set4 {B : Nat} {w W : World} {H : Nat} (hB : Below B w W) (hH : B ≤ H) (a b c d : List Value) :
    Below B w ((((W.setCells H 0 a).setCells (H + 1) 0 b).setCells (H + 1 + 1) 0 c).setCells (H + 1 + 1 + 1) 0 d) :=
  Go.below_setCells (by omega) _ _ _ (Go.below_setCells (by omega) _ _ _ (Go.below_setCells (by omega) _ _ _ (Go.below_setCells hH _ _ _ hB)))

end Go.Proofs.Qxb6605784a.Leave
