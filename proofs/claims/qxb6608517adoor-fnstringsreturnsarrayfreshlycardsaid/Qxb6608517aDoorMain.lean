import Derived.Test.Qxb6608517aDoorCopy
import Derived.Test.Qxb6608517aDoorBytes
namespace Go.Proofs.Qxb6608517aDoor.Ob
open Go.RowKit
set_option linter.unusedVariables false
set_option linter.unusedSimpArgs false

theorem obj_below {w w' : World} {m : Nat} {o : Obj} (h : w.heap[m]? = some o) (hb : Below w.heap.size w w') : w'.heap[m]? = some o := by
  rw [hb.block m (Array.getElem?_eq_some_iff.1 h).1]; exact h

theorem map_eql (w : World) : (binOp .eql 26 (.map none) (.map none)).run Tryd.prog w = .ok (.bool true) w := by kernel_rfl
theorem as_num_arr (x : Value) (w : World) : (Instr.typeAssert (.iface 49 x) 20 43 true).run Tryd.prog w = .ok (.tuple #[.string ⟨#[]⟩, .bool false]) w := by kernel_rfl

/-- Int refuses an array. -/
theorem int_arr (m : Nat) (s : ByteArray) (x : Value) (w : World) (hm : w.heap[m]? = some (oneMap s (.iface 49 x))) :
    Calls Tryd.prog 9 #[.map (some m), .string s] w fun e w' => IsV e (.tuple #[.int .i64 0, .bool false]) w w' := by
  have hl := run_look w m s s _ hm
  rw [if_pos rfl] at hl
  have ha := as_num_arr x w
  go_enter Tryd.func9, Tryd.ntmps9
  go_wp2
  go_ret2
  exact ⟨rfl, rfl⟩

theorem add_hash (s : ByteArray) (h : s.size ≤ 1048576) (w : World) : (binOp .add 9 (.string s) (.string ⟨#[35]⟩)).run Tryd.prog w = .ok (.string (s ++ ⟨#[35]⟩)) w := by
  have hz : (⟨#[35]⟩ : ByteArray).size = 1 := rfl
  rw [binOp_string_add]
  simp [Op.stringOp, maxLen, hz]
  omega

def FreshPost (w : World) (e : Ending) (w' : World) : Prop := e = .returned (.bool true) ∧ Below w.heap.size w w'

set_option maxHeartbeats 4000000 in
set_option maxRecDepth 100000 in
theorem main_any (s0 : ByteArray) (a1 : Option Addr) (b1 o1 n1 c1 : Nat) (S1 : Nat → ByteArray) (s2 : ByteArray) (w : World)
    (hz0 : s0.size ≤ maxLen) (h1 : IsStrs w a1 b1 o1 n1 S1) (hn1 : n1 ≤ maxLen) (hs1 : ∀ i, i < n1 → (S1 i).size ≤ maxLen) (hz2 : s2.size ≤ maxLen) :
    Calls Tryd.prog 4 #[.string s0, .slice a1 n1 c1, .string s2] w fun e w' => FreshPost w e w' := by
  have hby := bytes10_any s0 a1 b1 o1 n1 c1 S1 s2 w hz0 h1 hn1 hs1 hz2
  unfold maxLen at hz0 hz2 hn1
  clear hs1
  go_enter Tryd.func4, Tryd.ntmps4
  go_wp2_with fail
  refine hby.mono ?_
  clear hby
  rintro e w' ⟨b, rfl, hw, hb⟩
  obtain rfl := hw.symm
  clear hw
  cases b with
  | false =>
    clear hb
    go_wp2_with fail
    go_ret
    exact ⟨rfl, Below.refl _ _⟩
  | true =>
    obtain ⟨-, -, hs1, -⟩ := hb rfl
    clear hb
    by_cases l0 : (65536 : Int) < (s0.size : Int)
    · go_wp2_with fail
      go_ret
      exact ⟨rfl, Below.refl _ _⟩
    by_cases l2 : (65536 : Int) < (s2.size : Int)
    · go_wp2_with fail
      go_ret
      exact ⟨rfl, Below.refl _ _⟩
    by_cases l1 : (65536 : Int) < (n1 : Int)
    · go_wp2_with fail
      go_ret
      exact ⟨rfl, Below.refl _ _⟩
    have HS : Hid (∀ i, i < n1 → (S1 i).size ≤ 1048576) := hs1
    clear hs1
    go_wp2_with fail
    refine (add_any _ _ _ _ n1 _ S1 w h1 (by omega) HS.out (by omega) (by omega)).mono ?_
    rintro e w' ⟨r, rfl, hw', r0, r1⟩
    obtain rfl := hw'.symm
    clear hw'
    by_cases hr : (1048576 : Int) < r
    · go_wp2_with fail
      go_ret
      exact ⟨rfl, Below.refl _ _⟩
    have nq := neqn
    have eq := eqn
    have hmk1 := run_make_row' (P := Tryd.prog) 29 9 (.string ⟨#[]⟩) 16 Tryd.underlying29 info9 rfl .i64 .i64 n1 (by omega) (by omega)
    obtain ⟨x1, d1, p1, e1, W1, st1, g1, hw⟩ := step_any (c := c1) h1
    clear h1
    rcases st1 with ⟨rfl, rfl, rfl, rfl⟩ | ⟨y1, rfl, rfl, rfl, cp1⟩
    all_goals
      go_wp2_with fail
      clear hmk1
      try clear cp1
      refine (objs_any s0 _ _ _ n1 _ S1 W1 g1 (by omega)).mono ?_
      rintro e w3 ⟨m, g, rfl, hm, hg, hw3⟩
      have g1 := g1.below hw3
      have hw := hw.trans (hw3.mono hw.size)
      clear hw3
      have HM : Hid (w3.heap[m]? = some (oneMap s0 (.iface 49 (.slice (some ⟨g, 0, none⟩) n1 n1)))) := hm
      clear hm
      by_cases hs : s2 = s0
      · have hs2 : (s2.toList == s0.toList) = true := by rw [hs]; simp
        subst hs
        clear hs2
        go_wp2_with fail
        refine (strs_good m g n1 s2 S1 w3 (by omega) HM.out hg).mono ?_
        rintro e w4 ⟨gb, rfl, hrow, hle, hw4⟩
        go_wp2_with fail
        refine (same_any _ _ _ _ _ _ _ _ n1 _ w4 (IsStrs.of_row hrow) (g1.below hw4) (by omega)).mono ?_
        rintro e w5 ⟨rfl, hw5⟩
        have hrow := hrow.of_block (hw5.block _ hrow.lt)
        have hw35 := hw4.trans (hw5.mono hw4.size)
        clear hw4 hw5
        have me := map_eql
        by_cases hn0 : n1 = 0
        · have hz : ¬ (0 : Int) < (n1 : Int) := by omega
          go_wp2_with fail
          refine (int_arr m s2 _ w5 (obj_below HM.out hw35)).mono ?_
          rintro e w' ⟨rfl, hw'⟩
          obtain rfl := hw'.symm
          clear hw'
          go_wp2_with fail
          refine (obj_arr m s2 _ w5 (obj_below HM.out hw35)).mono ?_
          rintro e w' ⟨rfl, hw'⟩
          obtain rfl := hw'.symm
          clear hw'
          go_wp2_with fail
          go_ret
          exact ⟨rfl, hw.trans (hw35.mono hw.size)⟩
        · have hz : (0 : Int) < (n1 : Int) := by omega
          have k0 : w5.cell? ⟨gb, 0, none⟩ = some (.string (S1 0)) := hrow.cell (by omega)
          have kf : w5.frozen? ⟨gb, 0, none⟩ = false := hrow.frozen 0
          have z0 := HS.out 0 (by omega)
          have z1 : (⟨#[35]⟩ : ByteArray).size = 1 := rfl
          have hadd := add_hash (S1 0) (by omega)
          go_wp2_with fail
          have hw36 : Below w3.heap.size w3 (w5.setCell ⟨gb, 0, none⟩ (.string (S1 0 ++ ⟨#[35]⟩))) := hw35.setCell hle _
          generalize w5.setCell ⟨gb, 0, none⟩ (.string (S1 0 ++ ⟨#[35]⟩)) = w6 at hw36 ⊢
          clear hw35 hrow k0 kf hadd
          refine (strs_good m g n1 s2 S1 w6 (by omega) (obj_below HM.out hw36) (hg.of_block (hw36.block _ hg.lt))).mono ?_
          rintro e w7 ⟨gc, rfl, hrow, hle2, hw7⟩
          have hw37 := hw36.trans (hw7.mono hw36.size)
          clear hw36 hw7
          go_wp2_with fail
          refine (same_any _ _ _ _ _ _ _ _ n1 _ w7 (IsStrs.of_row hrow) (g1.below hw37) (by omega)).mono ?_
          rintro e w8 ⟨rfl, hw8⟩
          have hw38 := hw37.trans (hw8.mono hw37.size)
          clear hw37 hw8
          go_wp2_with fail
          refine (int_arr m s2 _ w8 (obj_below HM.out hw38)).mono ?_
          rintro e w' ⟨rfl, hw'⟩
          obtain rfl := hw'.symm
          clear hw'
          go_wp2_with fail
          refine (obj_arr m s2 _ w8 (obj_below HM.out hw38)).mono ?_
          rintro e w' ⟨rfl, hw'⟩
          obtain rfl := hw'.symm
          clear hw'
          go_wp2_with fail
          go_ret
          exact ⟨rfl, hw.trans (hw38.mono hw.size)⟩
      · have hs2 : (s2.toList == s0.toList) = false := by
          rw [beq_eq_false_iff_ne]
          intro h
          rw [ByteArray.toList_eq, ByteArray.toList_eq] at h
          exact hs (Go.WideShapes.bytes_inj h)
        go_wp2_with fail
        refine (strs_miss m s0 s2 _ w3 hs HM.out).mono ?_
        rintro e w' ⟨rfl, hw'⟩
        obtain rfl := hw'.symm
        clear hw'
        go_wp2_with fail
        go_ret
        exact ⟨rfl, hw⟩

end Go.Proofs.Qxb6608517aDoor.Ob
