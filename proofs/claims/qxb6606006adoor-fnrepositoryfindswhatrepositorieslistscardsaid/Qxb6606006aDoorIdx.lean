import Derived.Test.Qxb6606006aDoorLS
import Derived.BigQuiet
namespace Go.Proofs.Qxb6606006aDoor.Ix
open Go.RowKit
set_option linter.unusedVariables false
set_option linter.unusedSimpArgs false
attribute [local go_sem ↓] Go.wp_at_zero Go.wp_at_succ

theorem results_tmp4 {fn : Func} {t u v x : Tmp} (h : fn.results = #[.tmp t, .tmp u, .tmp v, .tmp x]) (tmps : Array Value) (P : Program) (w : World) :
    (results fn tmps).run P w = .ok (.tuple #[tmps.getD t undef, tmps.getD u undef, tmps.getD v undef, tmps.getD x undef]) w := by
  simp [results, h]

/-- The fresh index. -/
def NewPost (g N : Nat) (w : World) (e : Ending) (w' : World) : Prop := ∃ V : Nat → Value, e = .returned (.pointer (some ⟨w.heap.size, 0, none⟩)) ∧ Below w.heap.size w w' ∧ w'.rowIs w.heap.size 56 12 V ∧ V 0 = .slice (some ⟨g, 0, none⟩) N N ∧ V 3 = .slice none 0 0

set_option maxRecDepth 100000 in
theorem new_any (g N : Nat) (w : World) : Calls Tryd.prog 9 #[.slice (some ⟨g, 0, none⟩) N N] w fun e w' => NewPost g N w e w' := by
  go_enter Tryd.func9, Tryd.ntmps9
  go_wp2_with fail
  go_ret
  refine ⟨fun i => (#[.slice (some ⟨g, 0, none⟩) N N, .slice none 0 0, .slice none 0 0, .slice none 0 0, .slice none 0 0, .slice none 0 0, .slice none 0 0, .slice none 0 0, .int .i32 0, .int .u32 0, .map none, .int .i64 0] : Array Value).getD i undef, rfl, (Below.refl _ _).alloc (Nat.le_refl _) _, World.rowIs_alloc w _ 56 _ (fun i hi => ?_), rfl, rfl⟩
  have hi : i < 12 := hi
  rcases (show i = 0 ∨ i = 1 ∨ i = 2 ∨ i = 3 ∨ i = 4 ∨ i = 5 ∨ i = 6 ∨ i = 7 ∨ i = 8 ∨ i = 9 ∨ i = 10 ∨ i = 11 by omega) with rfl | rfl | rfl | rfl | rfl | rfl | rfl | rfl | rfl | rfl | rfl | rfl <;> rfl

theorem repos_any (I : Nat) (v : Value) (w : World) (h : w.cell? ⟨I, 3, none⟩ = some v) : Calls Tryd.prog 12 #[.pointer (some ⟨I, 0, none⟩)] w fun e w' => e = .returned v ∧ w' = w := by
  go_enter Tryd.func12, Tryd.ntmps12
  go_wp2_with fail
  go_ret
  exact ⟨rfl, rfl⟩

def FieldsPost (s2 : ByteArray) (I : Nat) (x y : Int) (w : World) (e : Ending) (w' : World) : Prop := e = .returned (.tuple #[.string s2, .pointer (some ⟨I, 0, none⟩), .int .i64 x, .int .i64 y]) ∧ Below w.heap.size w w'

set_option maxHeartbeats 1000000 in
theorem fields_any (s0 s1 s2 : ByteArray) (I : Nat) (x y : Int) (w : World) :
    Calls Tryd.prog 13 #[.agg #[.string s0, .string s1, .string s2, .pointer (some ⟨I, 0, none⟩), .int .i64 x, .int .i64 y]] w fun e w' => FieldsPost s2 I x y w e w' := by
  go_enter Tryd.func13, Tryd.ntmps13
  go_wp2_with fail
  go_quiet (fail)
  go_wp2_with fail
  (try simp only [Exit.inBlock, Exit.then])
  refine bodyPost_ret (results_tmp4 rfl _ _ _) rfl ?_
  exact ⟨rfl, below_drewN ((Below.refl _ _).alloc (Nat.le_refl _) _) _⟩

end Go.Proofs.Qxb6606006aDoor.Ix
