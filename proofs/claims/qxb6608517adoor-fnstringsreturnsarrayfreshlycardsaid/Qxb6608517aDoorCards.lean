/-
  DERIVED. GIVEN WITH THE SEED: THE CARDS: each row of Qxb6608517aDoorRows.lean that lists a variable, with what it lists TIED to the program's text (the seventh form; the later family's looks); each row that meets fmt, with fmt's text TOLD by the authors' own Lean function (tested against real Go, not proved from fmt's source: count such statements apart). THE CARD IS WHAT COUNTS. Prove the row's statement (the work); the ties are given (Qxb6608517aDoorTie.lean); close each card by the builder's one call (the guide's Derived/Test/ToyasCard.lean, 'card_holds'). Laid BY PROGRAM, IN A SANDBOX (cutbox-door.mjs). By AI agents, Wed Nov 11 2026. No macro, syntax, notation, axiom, sorry.
-/
import Derived.Test.Qxb6608517aDoorRows
import GoSem.ClaimSeven
namespace Go.Proofs.Qxb6608517aDoor
namespace Rows

/-- THE TIED CARD OF 'zzlaws_internal_jose_b1.FnIntReadsEveryInt64Decimal'. -/
def fnIntReadsEveryInt64DecimalCard : Claim7 := { stood := { row := fnIntReadsEveryInt64DecimalRow, standIns := [], harness := (true, "2c3f52f3b774cc54d2a74f5fda2bf26cf908947778dc9fe96762c90397b4c236"), looks := true }, kinds := [], alts := [], laidByText := true, laidKinds := [.data, .data, .data, .sentinel, .sentinel], laidTests := true, laidLooks := .later }
def FnIntReadsEveryInt64DecimalCardSaid : Prop := Claim7.holds Tryd.pinned (.plain (OpenSpec.ofChange fnIntReadsEveryInt64DecimalSpec)) fnIntReadsEveryInt64DecimalCard

/-- THE TIED CARD OF 'zzlaws_internal_jose_b1.FnStringsReturnsArrayFreshly'. -/
def fnStringsReturnsArrayFreshlyCard : Claim7 := { stood := { row := fnStringsReturnsArrayFreshlyRow, standIns := [], harness := (true, "2c3f52f3b774cc54d2a74f5fda2bf26cf908947778dc9fe96762c90397b4c236"), looks := true }, kinds := [], alts := [], laidByText := true, laidKinds := [.data, .data, .data, .sentinel, .sentinel], laidTests := true, laidLooks := .later }
def FnStringsReturnsArrayFreshlyCardSaid : Prop := Claim7.holds Tryd.pinned (.plain (OpenSpec.ofChange fnStringsReturnsArrayFreshlySpec)) fnStringsReturnsArrayFreshlyCard

/-- THE TIED CARD OF 'zzlaws_internal_jose_b1.FnObjectReturnsNestedMember'. -/
def fnObjectReturnsNestedMemberCard : Claim7 := { stood := { row := fnObjectReturnsNestedMemberRow, standIns := [], harness := (true, "2c3f52f3b774cc54d2a74f5fda2bf26cf908947778dc9fe96762c90397b4c236"), looks := true }, kinds := [], alts := [], laidByText := true, laidKinds := [.data, .data, .data, .sentinel, .sentinel], laidTests := true, laidLooks := .later }
def FnObjectReturnsNestedMemberCardSaid : Prop := Claim7.holds Tryd.pinned (.plain (OpenSpec.ofChange fnObjectReturnsNestedMemberSpec)) fnObjectReturnsNestedMemberCard
end Rows
end Go.Proofs.Qxb6608517aDoor
