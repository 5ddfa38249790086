/- A part of a proof. -/
import Derived.Test.YtfofafjemgfobaaGreatDoorRows
import Derived.JoinedOf
set_option maxRecDepth 100000
namespace Go.Proofs.YtfofafjemgfobaaGreatDoor
open Go
theorem fnTextValue_facts : joinedFacts Tryz.prog 5 Tryz.f5 Rows.fnTextValueSpec Rows.fnTextValueRow = true := by kernel_rfl
end Go.Proofs.YtfofafjemgfobaaGreatDoor
