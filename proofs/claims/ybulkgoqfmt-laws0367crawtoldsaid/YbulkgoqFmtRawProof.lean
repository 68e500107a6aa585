/-
  DERIVED. THE STATEMENT LawS0367CRawToldSaid, PROVED.
-/
import Derived.Test.YbulkgoqFmtRawCard
import Derived.Test.YbulkgoqFmtJoin
namespace Go.Proofs.YbulkgoqFmt
theorem raw_proved : Rows.LawS0367CRawToldSaid := raw_card joinSaid
end Go.Proofs.YbulkgoqFmt
