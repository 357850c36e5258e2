import Derived.Test.Qxb6606006aDoorZload
import Derived.Test.Qxb6606006aDoorRow1
namespace Go.Proofs.Qxb6606006aDoor.Ix

/-- THE STATEMENT -/
theorem readBack_proved : Rows.FnRepositoriesReadBackFromIndexFileCardSaid := card (main_any zok)
end Go.Proofs.Qxb6606006aDoor.Ix
