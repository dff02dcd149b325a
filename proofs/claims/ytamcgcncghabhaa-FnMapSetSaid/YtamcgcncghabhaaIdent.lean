/- spec.identical. -/
import Derived.Test.YtamcgcncghabhaaSame
import Derived.Test.YtamcgcncghabhaaOrder
import Derived.Deep.QuietTactic
import Derived.BigQuiet
namespace Go.Proofs.Ytamcgcncghabhaa
open Go.RowKit

end Go.Proofs.Ytamcgcncghabhaa
