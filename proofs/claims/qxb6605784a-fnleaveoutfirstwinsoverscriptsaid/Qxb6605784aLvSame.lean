import Derived.Test.Qxb6605784aLvTo
import Derived.BigQuiet
namespace Go.Proofs.Qxb6605784a.Leave
open Go.RowKit
open Extern.Stop (cell)
set_option linter.unusedVariables false

theorem sz5 : ∀ w, (sizeOf 5).run Try.prog w = .ok 1 w := fun w => by simp [Try.sizeOf5]
theorem eql28 (X : List UInt8) (hX : X.length = 32) (w : World) : (binOp .eql 28 (.agg (X.map cell).toArray) (.agg (X.map cell).toArray)).run Try.prog w = .ok (.bool true) w := by
  rw [run_eql_bytes w 28 5 32 Try.underlying28 Try.underlying5 sz5 X X hX hX]; simp
theorem eql29 (X : List UInt8) (hX : X.length = 64) (w : World) : (binOp .eql 29 (.agg (X.map cell).toArray) (.agg (X.map cell).toArray)).run Try.prog w = .ok (.bool true) w := by
  rw [run_eql_bytes w 29 5 64 Try.underlying29 Try.underlying5 sz5 X X hX hX]; simp
theorem neq28 (X : List UInt8) (hX : X.length = 32) (w : World) : (binOp .neq 28 (.agg (X.map cell).toArray) (.agg (X.map cell).toArray)).run Try.prog w = .ok (.bool false) w := by
  rw [run_neq_struct, run_equalIn_bytes w 9998 28 5 32 Try.underlying28 Try.underlying5 sz5 X X hX hX]; simp

/-- A whole array's load in a quiet walk. -/
theorem wpQuiet_load_mid {P : Program} {ops : Array Oper} {C : World → Prop} {Q : Act → Prop} {a : Act} {op : Oper} {rest : List Oper} (hw : Region.wanted op (yielded ops a.tmps) = true) (ty : TypeId) (x : Operand) (ho : op.op = .load ty x)
    (b o : Nat) (hx : a.eval x = .pointer (some ⟨b, o, none⟩)) (cs : List Value) (d : TypeDesc) (hS : ∀ w, C w → w.rangeAt b o cs)
    (hu : P.underlying ty = some d) (hd : d.isRow = true) (hi : (P.info? ty).map (·.size) = some cs.length)
    (h : wpQuiet P ops C Q rest (a.put op.dst (.agg cs.toArray))) : wpQuiet P ops C Q (op :: rest) a :=
  BigFrame.wpQuiet_want hw fun K hK => ⟨.agg cs.toArray, fun w hw' => by
    unfold Oper.quietAt execOp
    simp only [ho, hx, Instr.loadAt, Instr.sureAddr, Sem.run_bind, Sem.run_pure, Result.andThen_ok, run_loadVar_mid w b o ty cs d (hS w hw') hu hd hi]
    exact ⟨rfl, rfl⟩, hK _ h⟩

def SamePost (w : World) (e : Ending) (w' : World) : Prop := e = .returned (.bool true) ∧ Below w.heap.size w w'

attribute [-go_sem] run_neq_struct run_eql_struct
attribute [local go_sem] neq28 eql28 eql29
set_option maxHeartbeats 1000000 in
set_option maxRecDepth 100000 in
theorem same_any (a a' : Option Addr) (b o b' o' n c c' : Nat) (K : Nat → List UInt8) (T : Nat → Int) (w : World) (h : IsParts w a b o n K T) (h' : IsParts w a' b' o' n K T) (hnil : a.isNone = a'.isNone) (hn : n ≤ 1048576) :
    Calls Try.prog 18 #[.slice a n c, .slice a' n c'] w fun e w' => SamePost w e w' := by
  have q34 : ∀ (w : World) (a : Option Addr) (n c n' c' : Nat), (binOp .eql 34 (.slice a n c) (.slice none n' c')).run Try.prog w = .ok (.bool a.isNone) w := fun w a n c n' c' => Lib.run_eql_slice_nil w _ _ a n c n' c' Try.underlying34
  have q30 : ∀ (w : World) (a : Option Addr) (n c n' c' : Nat), (binOp .eql 30 (.slice a n c) (.slice none n' c')).run Try.prog w = .ok (.bool a.isNone) w := fun w a n c n' c' => Lib.run_eql_slice_nil w _ _ a n c n' c' Try.underlying30
  go_enter Try.func18, Try.ntmps18
  go_wp2
  clear q30 q34
  go_loopg [5] n (fun m i wr => ∃ k : Nat, k ≤ n ∧ m = n - k ∧ i = .int .i64 k ∧ Below w.heap.size w wr)
  case atStart => exact ⟨0, Nat.zero_le _, rfl, rfl, Below.refl _ _⟩
  case round =>
    obtain ⟨k, hk, rfl, rfl, hbel⟩ := hrel
    by_cases hlt : k < n
    · have hkz : (k : Int) < (n : Int) := by omega
      have hk0 : (0 : Int) ≤ (k : Int) := by omega
      obtain rfl := h.top (by omega)
      obtain rfl := h'.top (by omega)
      have g0 : wr.rangeAt b (o + k * 33) (partCells (K k) (T k)) := rangeAt_below (h.cell k hlt) hbel
      have g0' : wr.rangeAt b' (o' + k * 33) (partCells (K k) (T k)) := rangeAt_below (h'.cell k hlt) hbel
      have lK : (K k).length = 32 := h.len k hlt
      have g1 : wr.rangeAt b (o + k * 33) ((K k).map cell) := rangeAt_left g0
      have g2 : wr.cell? ⟨b, o + k * 33 + 32, none⟩ = some (.int .u64 (T k)) := g0 32 _ (by simp [partCells, lK])
      have g1' : wr.rangeAt b' (o' + k * 33) ((K k).map cell) := rangeAt_left g0'
      have g2' : wr.cell? ⟨b', o' + k * 33 + 32, none⟩ = some (.int .u64 (T k)) := g0' 32 _ (by simp [partCells, lK])
      have l32 : ((K k).map cell).length = 32 := by simpa using lK
      have hu28 := Try.underlying28
      have hi28 : (Try.prog.info? 28).map (·.size) = some ((K k).map cell).length := by rw [l32]; exact size28
      have o1 := cells_one (K k)
      clear g0 g0'
      go_wp2_with fail
      have ld1 : ∀ w', (∃ n, w' = wr.drewN n) → w'.rangeAt b (o + k * 33) ((K k).map cell) := by rintro _ ⟨n, rfl⟩; exact g1
      have ld2 : ∀ w', (∃ n, w' = wr.drewN n) → w'.rangeAt b' (o' + k * 33) ((K k).map cell) := by rintro _ ⟨n, rfl⟩; exact g1'
      refine wp_region_quiet_lit (by kernel_rfl) (by kernel_rfl) ?_
      repeat (first
        | (refine wpQuiet_load_mid rfl 28 _ rfl _ _ rfl _ _ (by first | exact ld1 | exact ld2) Try.underlying28 rfl hi28 ?_; simp only [Act.put, List.setIfInBounds_toArray, List.set_cons_succ, List.set_cons_zero])
        | go_big_quiet_step (fail))
      refine wpQuiet_nil ?_
      intro _ hw'
      obtain ⟨nq, hw''⟩ := hw'
      subst hw''
      go_wp2
      go_roundg (n - (k + 1))
      case measure => omega
      case rel => exact ⟨k + 1, by omega, rfl, by go_num, below_drewN hbel _⟩
    · have hkz : ¬ (k : Int) < (n : Int) := by omega
      go_wp2
      go_ret
      exact ⟨rfl, hbel⟩

end Go.Proofs.Qxb6605784a.Leave
