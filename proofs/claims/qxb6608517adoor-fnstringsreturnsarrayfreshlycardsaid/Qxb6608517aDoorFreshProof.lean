import Derived.Test.Qxb6608517aDoorMain
import Derived.Test.Qxb6608517aDoorReads
import Derived.Test.Qxb6608517aDoorCards
import Derived.Test.Qxb6608517aDoorTie
import Derived.SevenTiedAt
namespace Go.Proofs.Qxb6608517aDoor.Ob
open Go.ChangeShapes Go.WideShapes Go.ChangeAt Go.RowKit
set_option linter.unusedVariables false

theorem door_met (os : Os) (args : Array Value) : laidMetH Tryd.prog Rows.fnStringsReturnsArrayFreshlyRow.laid ((World.doorLaid Tryd.prog 400 os).forCall (fun _ _ => 0) ⟨#[], args, []⟩).memory :=
  laidMetH_of_parts3 (fuel := 8) (laidMet_of_run' 8 (by kernel_rfl) (by kernel_rfl)) (by kernel_rfl) (by kernel_rfl)

set_option maxRecDepth 100000 in
theorem lifted (os : Os) (started : os.Started) (H : Type) (enc : TypeId × Value → H) :
    ReturnsInHanded {} Tryd.checked os 4 .any (fun w args => (Rows.fnStringsReturnsArrayFreshlySpec.pre enc Tryd.prog Tryd.f4 [] false w args ∧ laidMetH Tryd.prog Rows.fnStringsReturnsArrayFreshlyRow.laid w) ∧ sizedMet enc Tryd.prog Tryd.f4 (OpenSpec.ofChange Rows.fnStringsReturnsArrayFreshlySpec) false w args)
      (Rows.fnStringsReturnsArrayFreshlySpec.post enc Tryd.prog Tryd.f4 false true false false) := by
  refine returnsInHanded_of_change_and (C := Tryd.checked) (X := fun w _ => laidMetH Tryd.prog Rows.fnStringsReturnsArrayFreshlyRow.laid w) (fun _ _ _ hh h => h.of_heap hh) own started (by kernel_rfl) Tryd.func4
    (ChangeSpec.witness_shaped (enc := enc) (C := Tryd.checked) (os := os) (X := fun w _ => laidMetH Tryd.prog Rows.fnStringsReturnsArrayFreshlyRow.laid w) false (World.doorLaid Tryd.prog 400 os) #[.string ⟨#[]⟩, .slice none 0 0, .string ⟨#[]⟩] 8 rfl (World.shaped_of_RefB (by kernel_rfl) (by kernel_rfl)) (by kernel_rfl) (by kernel_rfl) (by kernel_rfl) (door_met os _)) ?_
  intro W base args ds gs before hval0 hW _ _ hL _
  have hval : ∀ (j : Nat) t v, Tryd.f4.params[j]? = some t → args[j]? = some v → Value.okWide Tryd.prog W .any base t v := hval0
  have hW' := hW
  obtain ⟨p, q, hA0, hV, rfl, hfz, hnd⟩ := hW
  have hA : DataW.TrodAll enc Tryd.prog W 0 (fun _ => true) true Tryd.f4.params.toList args.toList ds p := hA0
  rw [Tryd.params4] at hA hval
  obtain ⟨v0, vs0, d0, ds0, p0, q0, hargs, rfl, rfl, h0, r0⟩ := trodAll_cons hA
  obtain ⟨v1, vs1, d1, ds1, p1, q1, rfl, rfl, rfl, h1, r1⟩ := trodAll_cons r0
  obtain ⟨v2, vs2, d2, ds2, p2, q2, rfl, rfl, rfl, h2, r2⟩ := trodAll_cons r1
  obtain ⟨rfl, rfl, rfl⟩ := trodAll_nil r2
  obtain rfl : args = #[v0, v1, v2] := by cases args; simp_all
  obtain ⟨rfl, rfl⟩ := trodVars_none hV
  have lt : ∀ {t : TypeId} {v : Value} {d : DataW H} {pl : List MemPlace}, DataW.Trod enc Tryd.prog W 0 (fun _ => true) true t v d pl → ∀ x ∈ pl, x.block < W.heap.size := fun h => by obtain ⟨m, hm⟩ := h; exact DataW.trod_lt m _ _ _ hm
  have k0 := h0
  have k2 := h2
  obtain ⟨s0, rfl, rfl, rfl, z0⟩ := Go.ChangeMaps.open_string Tryd.underlying9 (hval 0 9 v0 rfl rfl) h0
  obtain ⟨a1, n1, c1, rfl⟩ := okWide_slice Tryd.underlying29 (hval 1 29 v1 rfl rfl)
  obtain ⟨s2, rfl, rfl, rfl, z2⟩ := Go.ChangeMaps.open_string Tryd.underlying9 (hval 2 9 v2 rfl rfl) h2
  obtain ⟨b1, o1, S1, i1, l1, m1⟩ := strs_of h1
  clear hA0 hval0
  refine (main_any s0 a1 b1 o1 n1 c1 S1 s2 W z0 i1 l1 m1 z2).mono fun e W' ⟨he, bel⟩ => ?_
  subst he
  exact ⟨_, rfl, _, _, _, [], _, [], hW', trodAll_mk1 (shut_bool Tryd.underlying4 _), (trodAll_cons_mk (Below.trod laidOut (by kernel_rfl) (of_decide_eq_true (by kernel_rfl)) k0 bel (lt k0)) (trodAll_cons_mk (Below.trod laidOut (by kernel_rfl) (of_decide_eq_true (by kernel_rfl)) h1 bel (lt h1)) (trodAll_cons_mk (Below.trod laidOut (by kernel_rfl) (of_decide_eq_true (by kernel_rfl)) k2 bel (lt k2)) trodAll_mk0))), rfl, bel.frame _, fun h => by cases h⟩

theorem over : Rows.fnStringsReturnsArrayFreshlyRow.holds Tryd.pinned (OpenSpec.ofChange Rows.fnStringsReturnsArrayFreshlySpec) :=
  OpenClaim.holds_of_wide 4 Tryd.f4 rfl rfl rfl rfl rfl rfl rfl ⟨rfl, rfl, rfl, rfl, rfl⟩ rfl rfl rfl rfl rfl (by kernel_rfl) Tryd.func4 (by kernel_rfl)
    (of_decide_eq_true (by kernel_rfl)) (by unfold Func.isWrapper; first | (rw [if_pos (by decide +kernel)]; kernel_rfl) | (rw [if_neg (by decide +kernel)]; exact ⟨rfl, rfl⟩))
    (fun os started H enc _ => lifted os started H enc)

theorem wants (t : TypeId) (h : t = 29 ∨ t = 9) : Tryd.prog.wantsStandIn t = false := by
  rcases h with rfl | rfl <;> kernel_rfl

/-- THE STATEMENT -/
theorem fresh_proved : Rows.FnStringsReturnsArrayFreshlyCardSaid :=
  Claim7.holds_tied_plain_at .later [] [.data, .data, .data, .sentinel, .sentinel] true (true, "2c3f52f3b774cc54d2a74f5fda2bf26cf908947778dc9fe96762c90397b4c236") true
    over (fun _ h => by cases h) (by kernel_rfl) (fun _ h => by cases h) fnStringsReturnsArrayFreshly_row_tie rfl ⟨rfl, rfl⟩ (by kernel_rfl) rfl
    (fun f fn hf hfn => by
      obtain rfl : f = 4 := Option.some.inj ((show Tryd.prog.funcNamed "example.com/claimwarden/claimwarden/zzlaws_internal_jose_b1.FnStringsReturnsArrayFreshly" = some 4 by kernel_rfl).symm.trans hf) |>.symm
      obtain rfl : fn = Tryd.f4 := (Option.some.inj (Tryd.func4.symm.trans hfn)).symm
      exact ⟨by kernel_rfl, fun j t ht => by
        rw [Tryd.params4] at ht
        refine wants t ?_
        rcases j with _ | _ | _ | j
        · right; simpa using ht.symm
        · left; simpa using ht.symm
        · right; simpa using ht.symm
        · simp at ht⟩)
    (by kernel_rfl)
end Go.Proofs.Qxb6608517aDoor.Ob
