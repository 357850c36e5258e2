/-
  DERIVED. GIVEN WITH THE SEED: THE CARDS: each row of Qxb6606006aDoorRows.lean that lists a variable, with what it lists TIED to the program's text (the seventh form; the later family's looks); each row that meets fmt, with fmt's text TOLD by the authors' own Lean function (tested against real Go, not proved from fmt's source: count such statements apart). THE CARD IS WHAT COUNTS. Prove the row's statement (the work); the ties are given (Qxb6606006aDoorTie.lean); close each card by the builder's one call (the guide's Derived/Test/ToyasCard.lean, 'card_holds'). Laid BY PROGRAM, IN A SANDBOX (cutbox-door.mjs). By AI agents, Wed Nov 11 2026. No macro, syntax, notation, axiom, sorry.
-/
import Derived.Test.Qxb6606006aDoorRows
import GoSem.ClaimSeven
namespace Go.Proofs.Qxb6606006aDoor
namespace Rows

/-- THE TIED CARD OF 'zzlaws_index_b1.FnRepositoriesReadBackFromIndexFile'. -/
def fnRepositoriesReadBackFromIndexFileCard : Claim7 := { stood := { row := fnRepositoriesReadBackFromIndexFileRow, standIns := [], harness := (true, "cb079dc891dd6a29f5689f213fc05c1c4f1ba06c545ae5fa365b57950ae2d1c7"), looks := false }, kinds := [], alts := [], laidByText := true, laidKinds := [.sentinel, .sentinel], laidTests := true, laidLooks := .later }
def FnRepositoriesReadBackFromIndexFileCardSaid : Prop := Claim7.holds Tryd.pinned (.plain (OpenSpec.ofChange fnRepositoriesReadBackFromIndexFileSpec)) fnRepositoriesReadBackFromIndexFileCard

/-- THE TIED CARD OF 'zzlaws_index_b1.FnRepositoryFindsWhatRepositoriesLists'. -/
def fnRepositoryFindsWhatRepositoriesListsCard : Claim7 := { stood := { row := fnRepositoryFindsWhatRepositoriesListsRow, standIns := [], harness := (true, "cb079dc891dd6a29f5689f213fc05c1c4f1ba06c545ae5fa365b57950ae2d1c7"), looks := false }, kinds := [], alts := [], laidByText := true, laidKinds := [.sentinel, .sentinel], laidTests := true, laidLooks := .later }
def FnRepositoryFindsWhatRepositoriesListsCardSaid : Prop := Claim7.holds Tryd.pinned (.plain (OpenSpec.ofChange fnRepositoryFindsWhatRepositoriesListsSpec)) fnRepositoryFindsWhatRepositoriesListsCard
end Rows
end Go.Proofs.Qxb6606006aDoor
