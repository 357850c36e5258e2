import Derived.Test.Qxb6606006aDoorZload
import Derived.Test.Qxb6606006aDoorMainTwo
import Derived.Test.Qxb6606006aDoorRow2
namespace Go.Proofs.Qxb6606006aDoor.Ix

/-- THE STATEMENT -/
theorem finds_proved : Rows.FnRepositoryFindsWhatRepositoriesListsCardSaid := card2 (main2_any zok)
end Go.Proofs.Qxb6606006aDoor.Ix
