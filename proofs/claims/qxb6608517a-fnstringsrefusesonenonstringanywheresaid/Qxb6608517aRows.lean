/-
  No cell of these rows narrows 'for every input' (looked for: loops, veiled, ifaces, maps, wideKeys, modest, calm, conditions, laid).
  DERIVED. THE GIVEN ROWS OF THIS SEAT. 2 by the template 'for every input the law returns true; each argument reads behind the call as it read before'; 0 by the template 'total and deterministic' (their statements: Qxb6608517aTotals.lean).
  GIVEN WITH THE SEED: the statements are not yours to turn. If you find one false, say at which input.
  Laid BY PROGRAM, IN A SANDBOX (cutbox-rows.mjs): the forced cells as the released guide's own fill.sh prints them over the translation 9970972c8974398c… (all of the seat's roots in one cut). By AI agents, Wed Nov 11 2026. No macro, syntax, notation, axiom, sorry.
-/
import Derived.Test.Qxb6608517aChecked
import GoSem.Claim
import GoSem.ClaimJoined
import GoSem.ClaimMapViews
import Derived.JoinedTies
import Derived.KernelRfl
namespace Go.Proofs.Qxb6608517a
/- THE CELL 'sum', in the pinned program and in every row, IS THE sha256 OF THE DUMP (.gsa) THAT Qxb6608517aProg.lean LOADS. Nothing in Lean hashes anything: it is a label: what it is worth is what the hold of that sum in a sandbox is worth. -/
noncomputable def Try.pinned : Pinned := { name := "qxb6608517a", sum := "9970972c8974398cb1599a9f5e433c52c4393b225d1abd1b03ae24408c0a48d4", checked := Try.checked }
namespace Rows
def none {H : Type} : Left H := { results := [], args := [] }

/-- 'zzlaws_internal_jose_b1.FnObjectWalksPathRefusesLeaves': WHATEVER THE INPUT: true; the input reads as it did. -/
def fnObjectWalksPathRefusesLeavesSpec : ChangeSpec := { name := "fnObjectWalksPathRefusesLeaves", fn := fun _ => fun
  | [d1, d2, d3, d4, d5] => { results := [.lit (.bool true)], args := [d1, d2, d3, d4, d5] }
  | _ => none }
def fnObjectWalksPathRefusesLeavesRow : OpenClaim := { program := "qxb6608517a", sum := "9970972c8974398cb1599a9f5e433c52c4393b225d1abd1b03ae24408c0a48d4", func := "example.com/claimwarden/claimwarden/zzlaws_internal_jose_b1.FnObjectWalksPathRefusesLeaves", spec := "fnObjectWalksPathRefusesLeaves", apart := false }
def FnObjectWalksPathRefusesLeavesSaid : Prop := fnObjectWalksPathRefusesLeavesRow.holds Try.pinned (OpenSpec.ofChange fnObjectWalksPathRefusesLeavesSpec)

/-- ITS FALSE NEIGHBOUR: 'it returns false'. Refute it at one input. -/
def fnObjectWalksPathRefusesLeavesWrong : ChangeSpec := { name := "fnObjectWalksPathRefusesLeaves", fn := fun _ => fun
  | [d1, d2, d3, d4, d5] => { results := [.lit (.bool false)], args := [d1, d2, d3, d4, d5] }
  | _ => none }
def FnObjectWalksPathRefusesLeavesWrongFalsely : Prop := fnObjectWalksPathRefusesLeavesRow.holds Try.pinned (OpenSpec.ofChange fnObjectWalksPathRefusesLeavesWrong)

/-- 'zzlaws_internal_jose_b1.FnStringsRefusesOneNonStringAnywhere': WHATEVER THE INPUT: true; the input reads as it did. -/
def fnStringsRefusesOneNonStringAnywhereSpec : ChangeSpec := { name := "fnStringsRefusesOneNonStringAnywhere", fn := fun _ => fun
  | [d1, d2, d3, d4] => { results := [.lit (.bool true)], args := [d1, d2, d3, d4] }
  | _ => none }
def fnStringsRefusesOneNonStringAnywhereRow : OpenClaim := { program := "qxb6608517a", sum := "9970972c8974398cb1599a9f5e433c52c4393b225d1abd1b03ae24408c0a48d4", func := "example.com/claimwarden/claimwarden/zzlaws_internal_jose_b1.FnStringsRefusesOneNonStringAnywhere", spec := "fnStringsRefusesOneNonStringAnywhere", apart := false }
def FnStringsRefusesOneNonStringAnywhereSaid : Prop := fnStringsRefusesOneNonStringAnywhereRow.holds Try.pinned (OpenSpec.ofChange fnStringsRefusesOneNonStringAnywhereSpec)

/-- ITS FALSE NEIGHBOUR: 'it returns false'. Refute it at one input. -/
def fnStringsRefusesOneNonStringAnywhereWrong : ChangeSpec := { name := "fnStringsRefusesOneNonStringAnywhere", fn := fun _ => fun
  | [d1, d2, d3, d4] => { results := [.lit (.bool false)], args := [d1, d2, d3, d4] }
  | _ => none }
def FnStringsRefusesOneNonStringAnywhereWrongFalsely : Prop := fnStringsRefusesOneNonStringAnywhereRow.holds Try.pinned (OpenSpec.ofChange fnStringsRefusesOneNonStringAnywhereWrong)

end Rows
end Go.Proofs.Qxb6608517a
