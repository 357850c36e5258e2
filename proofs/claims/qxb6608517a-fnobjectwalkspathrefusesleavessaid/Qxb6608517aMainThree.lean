import Derived.Test.Qxb6608517aPut
import Derived.Test.Qxb6608517aCopy
import Derived.Test.Qxb6608517aBytes
namespace Go.Proofs.Qxb6608517a.Ob
open Go.RowKit
set_option linter.unusedVariables false
set_option linter.unusedSimpArgs false

theorem obj_below {w w' : World} {m : Nat} {o : Obj} (h : w.heap[m]? = some o) (hb : Below w.heap.size w w') : w'.heap[m]? = some o := by
  rw [hb.block m (Array.getElem?_eq_some_iff.1 h).1]; exact h

theorem len_one (w : World) (m : Nat) (s : ByteArray) (v : Value) (hm : w.heap[m]? = some (oneMap s v)) (ty : TypeId) : (Builtin.len_ #[26] ty #[.map (some m)]).run Try.prog w = .ok (.int .i64 1) w := by
  simp [Builtin.len_, run_underlying Try.underlying26, MapKept.run_getObj_map hm, goInt]

theorem map_neq (w : World) : (binOp .neq 26 (.map none) (.map none)).run Try.prog w = .ok (.bool false) w := by kernel_rfl

def WalksPost (w : World) (e : Ending) (w' : World) : Prop := e = .returned (.bool true) ∧ Below w.heap.size w w'

set_option maxHeartbeats 4000000 in
set_option maxRecDepth 100000 in
theorem main3_any (s0 s1 s2 : ByteArray) (a3 : Option Addr) (b3 o3 n3 c3 : Nat) (S3 : Nat → ByteArray) (s4 : ByteArray) (w : World)
    (hz0 : s0.size ≤ maxLen) (hz1 : s1.size ≤ maxLen) (hz2 : s2.size ≤ maxLen) (h3 : IsStrs w a3 b3 o3 n3 S3) (hn3 : n3 ≤ maxLen) (hs3 : ∀ i, i < n3 → (S3 i).size ≤ maxLen) (hz4 : s4.size ≤ maxLen) :
    Calls Try.prog 3 #[.string s0, .string s1, .string s2, .slice a3 n3 c3, .string s4] w fun e w' => WalksPost w e w' := by
  have hby := bytes5_any s0 s1 s2 a3 b3 o3 n3 c3 S3 s4 w hz0 hz1 hz2 h3 hn3 hs3 hz4
  unfold maxLen at hz0 hz1 hz2 hn3 hz4
  clear hs3
  go_enter Try.func3, Try.ntmps3
  go_wp2_with fail
  refine hby.mono ?_
  clear hby
  rintro e w' ⟨b, rfl, hw, hb⟩
  obtain rfl := hw.symm
  clear hw
  cases b with
  | false =>
    clear hb
    go_wp2_with fail
    go_ret
    exact ⟨rfl, Below.refl _ _⟩
  | true =>
    obtain ⟨-, -, -, -, hs3, -⟩ := hb rfl
    clear hb
    by_cases l0 : (65536 : Int) < (s0.size : Int)
    · go_wp2_with fail
      go_ret
      exact ⟨rfl, Below.refl _ _⟩
    by_cases l1 : (65536 : Int) < (s1.size : Int)
    · go_wp2_with fail
      go_ret
      exact ⟨rfl, Below.refl _ _⟩
    by_cases l2 : (65536 : Int) < (s2.size : Int)
    · go_wp2_with fail
      go_ret
      exact ⟨rfl, Below.refl _ _⟩
    by_cases l4 : (65536 : Int) < (s4.size : Int)
    · go_wp2_with fail
      go_ret
      exact ⟨rfl, Below.refl _ _⟩
    by_cases l3 : (65536 : Int) < (n3 : Int)
    · go_wp2_with fail
      go_ret
      exact ⟨rfl, Below.refl _ _⟩
    have HS : Hid (∀ i, i < n3 → (S3 i).size ≤ 1048576) := hs3
    clear hs3
    go_wp2_with fail
    refine (add_any _ _ _ _ n3 _ S3 w h3 (by omega) HS.out (by omega) (by omega)).mono ?_
    rintro e w' ⟨r, rfl, hw', r0, r1⟩
    obtain rfl := hw'.symm
    clear hw'
    by_cases hr : (1048576 : Int) < r
    · go_wp2_with fail
      go_ret
      exact ⟨rfl, Below.refl _ _⟩
    have nq := neqn
    have hmk3 := run_make_row' (P := Try.prog) 22 9 (.string ⟨#[]⟩) 16 Try.underlying22 info9 rfl .i64 .i64 n3 (by omega) (by omega)
    obtain ⟨x3, d3, p3, e3, W3, st3, g3, hw⟩ := step_any (c := c3) h3
    clear h3
    rcases st3 with ⟨rfl, rfl, rfl, rfl⟩ | ⟨y3, rfl, rfl, rfl, cp3⟩
    all_goals
      go_wp2_with fail
      clear hmk3
      try clear cp3
      refine (objs_any s2 _ _ _ n3 _ S3 W3 g3 (by omega)).mono ?_
      rintro e w4 ⟨m, g, rfl, hm, hg, hw4⟩
      have g3 := g3.below hw4
      have hw := hw.trans (hw4.mono hw.size)
      clear hw4
      go_wp2_with fail
      refine (nest_any s1 (some m) w4).mono ?_
      rintro e w5 ⟨m1, rfl, hm1, hw5⟩
      have hm := obj_below hm hw5
      have hg := hg.of_block (hw5.block _ hg.lt)
      have g3 := g3.below hw5
      have hw := hw.trans (hw5.mono hw.size)
      clear hw5
      go_wp2_with fail
      refine (nest_any s0 (some m1) w5).mono ?_
      rintro e w6 ⟨m0, rfl, hm0, hw6⟩
      have hm := obj_below hm hw6
      have hm1 := obj_below hm1 hw6
      have hg := hg.of_block (hw6.block _ hg.lt)
      have g3 := g3.below hw6
      have hw := hw.trans (hw6.mono hw.size)
      clear hw6
      have HM : Hid (w6.heap[m]? = some (oneMap s2 (.iface 37 (.slice (some ⟨g, 0, none⟩) n3 n3))) ∧ w6.heap[m1]? = some (oneMap s1 (.iface 25 (.map (some m)))) ∧ w6.heap[m0]? = some (oneMap s0 (.iface 25 (.map (some m1))))) := ⟨hm, hm1, hm0⟩
      clear hm hm1 hm0
      go_wp2_with fail
      refine (obj_hit m0 s0 _ w6 HM.out.2.2).mono ?_
      rintro e w' ⟨rfl, hw'⟩
      obtain rfl := hw'.symm
      clear hw'
      have hl1 := fun ty => len_one w6 m1 s1 _ HM.out.2.1 ty
      have hl2 := fun ty => len_one w6 m s2 _ HM.out.1 ty
      go_wp2_with fail
      refine (obj_hit m1 s1 _ w6 HM.out.2.1).mono ?_
      rintro e w' ⟨rfl, hw'⟩
      obtain rfl := hw'.symm
      clear hw'
      go_wp2_with fail
      clear hl1 hl2
      refine (strs_good m g n3 s2 S3 w6 (by omega) HM.out.1 hg).mono ?_
      rintro e w7 ⟨gb, rfl, hrow, hle, hw7⟩
      have g3 := g3.below hw7
      have HM : Hid (w7.heap[m]? = some (oneMap s2 (.iface 37 (.slice (some ⟨g, 0, none⟩) n3 n3))) ∧ w7.heap[m1]? = some (oneMap s1 (.iface 25 (.map (some m)))) ∧ w7.heap[m0]? = some (oneMap s0 (.iface 25 (.map (some m1))))) := ⟨obj_below HM.out.1 hw7, obj_below HM.out.2.1 hw7, obj_below HM.out.2.2 hw7⟩
      have hw := hw.trans (hw7.mono hw.size)
      clear hw7 hg
      go_wp2_with fail
      refine (same_any _ _ _ _ _ _ _ _ n3 _ w7 (IsStrs.of_row hrow) g3 (by omega)).mono ?_
      rintro e w8 ⟨rfl, hw8⟩
      have HM : Hid (w8.heap[m]? = some (oneMap s2 (.iface 37 (.slice (some ⟨g, 0, none⟩) n3 n3))) ∧ w8.heap[m1]? = some (oneMap s1 (.iface 25 (.map (some m)))) ∧ w8.heap[m0]? = some (oneMap s0 (.iface 25 (.map (some m1))))) := ⟨obj_below HM.out.1 hw8, obj_below HM.out.2.1 hw8, obj_below HM.out.2.2 hw8⟩
      have hw := hw.trans (hw8.mono hw.size)
      clear hw8 hrow g3
      go_wp2_with fail
      refine (obj_arr m s2 _ w8 HM.out.1).mono ?_
      rintro e w' ⟨rfl, hw'⟩
      obtain rfl := hw'.symm
      clear hw'
      have mn := map_neq
      go_wp2_with fail
      refine (objStr_any s0 s4 w8).mono ?_
      rintro e w9 ⟨m4, rfl, hm4, hw9⟩
      have HM : Hid (w9.heap[m]? = some (oneMap s2 (.iface 37 (.slice (some ⟨g, 0, none⟩) n3 n3))) ∧ w9.heap[m1]? = some (oneMap s1 (.iface 25 (.map (some m)))) ∧ w9.heap[m0]? = some (oneMap s0 (.iface 25 (.map (some m1))))) := ⟨obj_below HM.out.1 hw9, obj_below HM.out.2.1 hw9, obj_below HM.out.2.2 hw9⟩
      have hw := hw.trans (hw9.mono hw.size)
      clear hw9
      go_wp2_with fail
      refine (obj_str m4 s0 _ w9 hm4).mono ?_
      rintro e w' ⟨rfl, hw'⟩
      obtain rfl := hw'.symm
      clear hw' hm4
      by_cases hs : s1 = s0
      · have hs2 : (s1.toList == s0.toList) = true := by rw [hs]; simp
        go_wp2_with fail
        go_ret
        exact ⟨rfl, hw⟩
      · have hs2 : (s1.toList == s0.toList) = false := by
          rw [beq_eq_false_iff_ne]
          intro h
          rw [ByteArray.toList_eq, ByteArray.toList_eq] at h
          exact hs (Go.WideShapes.bytes_inj h)
        go_wp2_with fail
        refine (obj_miss m0 s0 s1 _ w9 hs HM.out.2.2).mono ?_
        rintro e w' ⟨rfl, hw'⟩
        obtain rfl := hw'.symm
        clear hw'
        go_wp2_with fail
        go_ret
        exact ⟨rfl, hw⟩

end Go.Proofs.Qxb6608517a.Ob
