/-
  NARROWER THAN 'FOR EVERY INPUT', by the rows' own cells (each row's printed sentence says how): FnRepositoriesReadBackFromIndexFile: ifaces, laid · FnRepositoryFindsWhatRepositoriesLists: ifaces, laid.
  DERIVED. THE GIVEN ROWS OF THIS SEAT. 2 by the template 'for every input the law returns true; each argument reads behind the call as it read before'; 0 by the template 'total and deterministic' (their statements: Qxb6606006aDoorTotals.lean).
  GIVEN WITH THE SEED: the statements are not yours to turn. If you find one false, say at which input.
  Laid BY PROGRAM, IN A SANDBOX (cutbox-rows.mjs): the forced cells as the released guide's own fill.sh prints them over the translation 03ca3f85e3a6e085… (all of the seat's roots in one cut). By AI agents, Wed Nov 11 2026. No macro, syntax, notation, axiom, sorry.
-/
import Derived.Test.Qxb6606006aDoorChecked
import GoSem.Claim
import GoSem.ClaimJoined
import GoSem.ClaimMapViews
import Derived.JoinedTies
import Derived.KernelRfl
namespace Go.Proofs.Qxb6606006aDoor
/- THE CELL 'sum', in the pinned program and in every row, IS THE sha256 OF THE DUMP (.gsa) THAT Qxb6606006aDoorProg.lean LOADS. Nothing in Lean hashes anything: it is a label: what it is worth is what the hold of that sum in a sandbox is worth. -/
noncomputable def Tryd.pinned : Pinned := { name := "qxb6606006adoor", sum := "03ca3f85e3a6e0857d9643c2481fb6c81fa0617aa257549d8b99fdf660c0982b", checked := Tryd.checked }
namespace Rows
def none {H : Type} : Left H := { results := [], args := [] }

/- WHAT THE LISTED PACKAGE-LEVEL VARIABLES READ AS WHEN THE CALL BEGINS. Each datum BY PROGRAM (the guide's laid-datum.mjs) off the statement by which the dump's own 'gosem.cut.vars' lays the variable. In a bare row this is a premise. The card (Qxb6606006aDoorCards.lean) ties it to the program's text. -/
def laid_example_com_cairn_cairn_index_errFormat {H : Type} : DataW H := .iface "*errors.errorString" (.ptr (.agg [.lit (.string [110, 111, 116, 32, 97, 110, 32, 105, 110, 100, 101, 120, 32, 111, 102, 32, 116, 104, 105, 115, 32, 102, 111, 114, 109, 97, 116])]))
def laid_example_com_cairn_cairn_index_ErrDamaged {H : Type} : DataW H := .iface "*errors.errorString" (.ptr (.agg [.lit (.string [116, 104, 101, 32, 105, 110, 100, 101, 120, 32, 105, 115, 32, 100, 97, 109, 97, 103, 101, 100, 58, 32, 114, 117, 110, 32, 99, 97, 105, 114, 110, 32, 105, 110, 100, 101, 120])]))

/-- 'zzlaws_index_b1.FnRepositoriesReadBackFromIndexFile': WHATEVER THE INPUT: true; the input reads as it did. -/
def fnRepositoriesReadBackFromIndexFileSpec : ChangeSpec := { name := "fnRepositoriesReadBackFromIndexFile", vars := ["example.com/cairn/cairn/index.errFormat", "example.com/cairn/cairn/index.ErrDamaged"], fn := fun _ => fun
  | [d1, d2, d3, d4, g1, g2] => { results := [.lit (.bool true)], args := [d1, d2, d3, d4], vars := [g1, g2] }
  | _ => none }
def fnRepositoriesReadBackFromIndexFileRow : OpenClaim := { program := "qxb6606006adoor", sum := "03ca3f85e3a6e0857d9643c2481fb6c81fa0617aa257549d8b99fdf660c0982b", func := "example.com/cairn/cairn/zzlaws_index_b1.FnRepositoriesReadBackFromIndexFile", spec := "fnRepositoriesReadBackFromIndexFile", unfollowed := true, recurses := true, named := ["example.com/cairn/cairn/index.errFormat", "encoding/binary.LittleEndian", "example.com/cairn/cairn/index.ErrDamaged"], ifaces := true, apart := false, laid := [("example.com/cairn/cairn/index.errFormat", laid_example_com_cairn_cairn_index_errFormat), ("example.com/cairn/cairn/index.ErrDamaged", laid_example_com_cairn_cairn_index_ErrDamaged)] }
def FnRepositoriesReadBackFromIndexFileSaid : Prop := fnRepositoriesReadBackFromIndexFileRow.holds Tryd.pinned (OpenSpec.ofChange fnRepositoriesReadBackFromIndexFileSpec)

/-- ITS FALSE NEIGHBOUR: 'it returns false'. Refute it at one input. -/
def fnRepositoriesReadBackFromIndexFileWrong : ChangeSpec := { name := "fnRepositoriesReadBackFromIndexFile", vars := ["example.com/cairn/cairn/index.errFormat", "example.com/cairn/cairn/index.ErrDamaged"], fn := fun _ => fun
  | [d1, d2, d3, d4, g1, g2] => { results := [.lit (.bool false)], args := [d1, d2, d3, d4], vars := [g1, g2] }
  | _ => none }
def FnRepositoriesReadBackFromIndexFileWrongFalsely : Prop := fnRepositoriesReadBackFromIndexFileRow.holds Tryd.pinned (OpenSpec.ofChange fnRepositoriesReadBackFromIndexFileWrong)

/-- 'zzlaws_index_b1.FnRepositoryFindsWhatRepositoriesLists': WHATEVER THE INPUT: true; the input reads as it did. -/
def fnRepositoryFindsWhatRepositoriesListsSpec : ChangeSpec := { name := "fnRepositoryFindsWhatRepositoriesLists", vars := ["example.com/cairn/cairn/index.errFormat", "example.com/cairn/cairn/index.ErrDamaged"], fn := fun _ => fun
  | [d1, d2, d3, d4, d5, g1, g2] => { results := [.lit (.bool true)], args := [d1, d2, d3, d4, d5], vars := [g1, g2] }
  | _ => none }
def fnRepositoryFindsWhatRepositoriesListsRow : OpenClaim := { program := "qxb6606006adoor", sum := "03ca3f85e3a6e0857d9643c2481fb6c81fa0617aa257549d8b99fdf660c0982b", func := "example.com/cairn/cairn/zzlaws_index_b1.FnRepositoryFindsWhatRepositoriesLists", spec := "fnRepositoryFindsWhatRepositoriesLists", unfollowed := true, recurses := true, named := ["example.com/cairn/cairn/index.errFormat", "encoding/binary.LittleEndian", "example.com/cairn/cairn/index.ErrDamaged"], ifaces := true, apart := false, laid := [("example.com/cairn/cairn/index.errFormat", laid_example_com_cairn_cairn_index_errFormat), ("example.com/cairn/cairn/index.ErrDamaged", laid_example_com_cairn_cairn_index_ErrDamaged)] }
def FnRepositoryFindsWhatRepositoriesListsSaid : Prop := fnRepositoryFindsWhatRepositoriesListsRow.holds Tryd.pinned (OpenSpec.ofChange fnRepositoryFindsWhatRepositoriesListsSpec)

/-- ITS FALSE NEIGHBOUR: 'it returns false'. Refute it at one input. -/
def fnRepositoryFindsWhatRepositoriesListsWrong : ChangeSpec := { name := "fnRepositoryFindsWhatRepositoriesLists", vars := ["example.com/cairn/cairn/index.errFormat", "example.com/cairn/cairn/index.ErrDamaged"], fn := fun _ => fun
  | [d1, d2, d3, d4, d5, g1, g2] => { results := [.lit (.bool false)], args := [d1, d2, d3, d4, d5], vars := [g1, g2] }
  | _ => none }
def FnRepositoryFindsWhatRepositoriesListsWrongFalsely : Prop := fnRepositoryFindsWhatRepositoriesListsRow.holds Tryd.pinned (OpenSpec.ofChange fnRepositoryFindsWhatRepositoriesListsWrong)

end Rows
end Go.Proofs.Qxb6606006aDoor
