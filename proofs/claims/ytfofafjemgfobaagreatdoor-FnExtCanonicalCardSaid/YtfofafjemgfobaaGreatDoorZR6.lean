/- The closed facts of the row FnExtCanonical. -/
import Derived.Test.YtfofafjemgfobaaGreatDoorRows
import Derived.JoinedOf
set_option maxRecDepth 100000
namespace Go.Proofs.YtfofafjemgfobaaGreatDoor
open Go
theorem fnExtCanonical_facts : joinedFacts Tryz.prog 3 Tryz.f3 Rows.fnExtCanonicalSpec Rows.fnExtCanonicalRow = true := by kernel_rfl
end Go.Proofs.YtfofafjemgfobaaGreatDoor
