/- The closed facts of the row FnTextCut. -/
import Derived.Test.YtfofafjemgfobaaGreatDoorRows
import Derived.JoinedOf
set_option maxRecDepth 100000
namespace Go.Proofs.YtfofafjemgfobaaGreatDoor
open Go
theorem fnTextCut_facts : joinedFacts Tryz.prog 4 Tryz.f4 Rows.fnTextCutSpec Rows.fnTextCutRow = true := by kernel_rfl
end Go.Proofs.YtfofafjemgfobaaGreatDoor
