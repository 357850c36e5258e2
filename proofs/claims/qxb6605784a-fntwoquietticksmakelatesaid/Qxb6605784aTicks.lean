import Derived.Test.Qxb6605784aRows
import Derived.WalkKit
import Derived.ProofKit
import Derived.WalkLawsBesides
import Derived.WalkSpells
import Derived.Deep.OwnRows
import Derived.Deep.Light
import Derived.Deep.QuietTactic
import Derived.Lib.QuietBelow
namespace Go.Proofs.Qxb6605784a.fnTwoQuietTicksMakeLate
open Go.RowKit
set_option linter.unusedVariables false

/-- What is known of the gather at block I. -/
structure GS (w wx : World) (I : Nat) (c l f : Bool) (r : Int) : Prop where
  bl : Grown w wx
  hI : w.heap.size ≤ I
  row : ∃ V : Nat → Value, wx.rowIs I 68 42 V ∧ V 39 = .bool c ∧ V 40 = .bool l ∧ V 41 = .bool f ∧ V 38 = .int .i64 r

def NewPost (w : World) (a0 a1 a2 : Bool) (a3 : Int) (e : Ending) (w' : World) : Prop := ∃ I, e = .returned (.pointer (some ⟨I, 0, none⟩)) ∧ GS w w' I a0 a1 a2 a3

set_option maxHeartbeats 2000000 in
set_option maxRecDepth 100000 in
theorem new_any (a0 a1 a2 : Bool) (a3 : Int) (w : World) :
    Calls Try.prog 6 #[.bool a0, .bool a1, .bool a2, .int .i64 a3] w fun e w' => NewPost w a0 a1 a2 a3 e w' := by
  go_enter Try.func6, Try.ntmps6
  go_wp2
  go_ret
  generalize hB : (#[Value.pointer none, _, _, _, _, _, _, _, _, _, _, _, _, _, _, _, _, _, _, _, _, _, _, _, _, _, _, _, _, _, _, _, _, _, _, _, _, _, _, _, _, _] : Array Value) = B
  refine ⟨w.heap.size, rfl, (Grown.refl _).alloc _ _, Nat.le_refl _, (fun i => (B[i]?).getD default), ?_, ?_, ?_, ?_, ?_⟩
  · have hs : B.size = 42 := by rw [← hB]; rfl
    have h := World.rowIs_alloc w B 68 (fun i => (B[i]?).getD default) (fun i hi => by simp [hi])
    rw [hs] at h
    exact h
  all_goals (rw [← hB]; rfl)

theorem results_tmp4 {fn : Func} {t u v x : Tmp} (h : fn.results = #[.tmp t, .tmp u, .tmp v, .tmp x]) (tmps : Array Value) (P : Program) (w : World) :
    (results fn tmps).run P w = .ok (.tuple #[tmps.getD t undef, tmps.getD u undef, tmps.getD v undef, tmps.getD x undef]) w := by
  simp [results, h]

def TickPost (w : World) (I : Nat) (c f : Bool) (r : Int) (e : Ending) (w' : World) : Prop := e = .returned (.tuple #[]) ∧ GS w w' I false (!c) f r

set_option maxHeartbeats 2000000 in
theorem tick_any (w0 : World) (I : Nat) (c l f : Bool) (r : Int) (w : World) (h : GS w0 w I c l f r) :
    Calls Try.prog 25 #[.pointer (some ⟨I, 0, none⟩)] w fun e w' => TickPost w0 I c f r e w' := by
  obtain ⟨hb, hI, V, hV, v1, v2, v3, v4⟩ := h
  have c1 : w.cell? ⟨I, 39, none⟩ = some (.bool c) := by rw [← v1]; exact hV.cell (i := 39) (by omega)
  have c2 : w.cell? ⟨I, 40, none⟩ = some (.bool l) := by rw [← v2]; exact hV.cell (i := 40) (by omega)
  have hfz := hV.frozen
  have c1' : ∀ v, (w.setCell ⟨I, 40, none⟩ v).cell? ⟨I, 39, none⟩ = some (.bool c) := fun v => by
    have h := (hV.set 40 v).cell (i := 39) (by omega)
    simpa [v1] using h
  have hfz' : ∀ v, (w.setCell ⟨I, 40, none⟩ v).frozen? ⟨I, 39, none⟩ = false := fun v => (hV.set 40 v).frozen _
  go_enter Try.func25, Try.ntmps25
  go_wp2
  go_end0
  refine ⟨rfl, (hb.setCell hI _).setCell hI _, hI, _, (hV.set 40 (.bool (!c))).set 39 (.bool false), rfl, rfl, v3, v4⟩

set_option maxHeartbeats 2000000 in
theorem ztick_any (w0 : World) (I : Nat) (c l f : Bool) (r : Int) (w : World) (h : GS w0 w I c l f r) :
    Calls Try.prog 7 #[.pointer (some ⟨I, 0, none⟩)] w fun e w' => TickPost w0 I c f r e w' := by
  go_enter Try.func7, Try.ntmps7
  go_wp2_with fail
  refine (tick_any w0 I c l f r w h).mono ?_
  rintro _ w' ⟨rfl, hg⟩
  go_wp2
  go_end0
  exact ⟨rfl, hg⟩

def StatePost (w : World) (c l f : Bool) (r : Int) (e : Ending) (w' : World) : Prop := e = .returned (.tuple #[.bool c, .bool l, .bool f, .int .i64 r]) ∧ ∃ n, w' = w.drewN n

set_option maxHeartbeats 2000000 in
theorem state_any (w0 : World) (I : Nat) (c l f : Bool) (r : Int) (w : World) (h : GS w0 w I c l f r) :
    Calls Try.prog 8 #[.pointer (some ⟨I, 0, none⟩)] w fun e w' => StatePost w c l f r e w' := by
  obtain ⟨hb, hI, V, hV, v1, v2, v3, v4⟩ := h
  have c1 : w.cell? ⟨I, 39, none⟩ = some (.bool c) := by rw [← v1]; exact hV.cell (i := 39) (by omega)
  have c2 : w.cell? ⟨I, 40, none⟩ = some (.bool l) := by rw [← v2]; exact hV.cell (i := 40) (by omega)
  have c3 : w.cell? ⟨I, 41, none⟩ = some (.bool f) := by rw [← v3]; exact hV.cell (i := 41) (by omega)
  have c4 : w.cell? ⟨I, 38, none⟩ = some (.int .i64 r) := by rw [← v4]; exact hV.cell (i := 38) (by omega)
  go_enter Try.func8, Try.ntmps8
  go_wp2
  go_quiet (fail)
  go_wp2
  ((try simp only [Exit.inBlock, Exit.then]); refine bodyPost_ret (results_tmp4 rfl _ _ _) rfl ?_)
  exact ⟨rfl, _, rfl⟩

theorem GS.drewN {w0 w : World} {I : Nat} {c l f : Bool} {r : Int} (h : GS w0 w I c l f r) (n : Nat) : GS w0 (w.drewN n) I c l f r := by
  obtain ⟨hb, hI, V, hV, hv⟩ := h
  exact ⟨hb, hI, V, hV.of_block rfl, hv⟩

set_option maxHeartbeats 4000000 in
theorem walk0 (a0 : Bool) (a1 : Bool) (a2 : Bool) (a3 : Int) (w : World) :
    Calls Try.prog 3 #[.bool a0, .bool a1, .bool a2, .int .i64 a3] w fun e w' => e = .returned (.bool true) ∧ Grown w w' := by
  go_enter Try.func3, Try.ntmps3
  go_wp2_with fail
  refine (new_any a0 a1 a2 a3 w).mono ?_
  rintro _ w1 ⟨I, rfl, h1⟩
  go_wp2_with fail
  refine (ztick_any w I _ _ _ _ w1 h1).mono ?_
  rintro _ w2 ⟨rfl, h2⟩
  go_wp2_with fail
  refine (state_any w I _ _ _ _ w2 h2).mono ?_
  rintro _ w3 ⟨rfl, n3, rfl⟩
  have h3 := h2.drewN n3
  go_wp2_with fail
  refine (ztick_any w I _ _ _ _ _ h3).mono ?_
  rintro _ w4 ⟨rfl, h4⟩
  go_wp2_with fail
  refine (state_any w I _ _ _ _ w4 h4).mono ?_
  rintro _ w5 ⟨rfl, n5, rfl⟩
  have h5 := h4.drewN n5
  go_wp2_with fail
  refine (ztick_any w I _ _ _ _ _ h5).mono ?_
  rintro _ w6 ⟨rfl, h6⟩
  go_wp2_with fail
  refine (state_any w I _ _ _ _ w6 h6).mono ?_
  rintro _ w7 ⟨rfl, n7, rfl⟩
  have h7 := h6.drewN n7
  go_wp2_with fail
  go_ret
  exact ⟨by simp, h7.bl⟩

end Go.Proofs.Qxb6605784a.fnTwoQuietTicksMakeLate
