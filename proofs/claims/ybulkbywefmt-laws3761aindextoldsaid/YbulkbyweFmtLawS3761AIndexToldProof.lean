import Derived.Test.YbulkbyweFmtOver
import Derived.Test.YbulkbyweFmtIx3
namespace Go.Proofs.YbulkbyweFmt
open Go.Stop

theorem indexSaid (F : Interp) : IndexSaid F := fun w hF lg fb fc nb nc ta dd hT G hta TS hh A01 A10 hl => index5 F w hF lg fb fc nb nc ta dd hT G hta TS hh A01 A10 hl

/-- THE STATEMENT -/
theorem lawS3761AIndexTold_proved : Rows.LawS3761AIndexToldSaid := over indexSaid
end Go.Proofs.YbulkbyweFmt
