/- A part of the proof that the card of laws.FnMarshal holds. No conditions. -/
import Derived.Test.YtammjbmfiakbnaaGreatDoorRows
import Derived.Test.YtammjbmfiakbnaaGreatDoorM02
import Derived.Stop.Joined
import Derived.ChangeOld
set_option linter.unusedSimpArgs false
set_option linter.unusedVariables false
namespace Go.Proofs.YtammjbmfiakbnaaGreatDoor
theorem marshal_joined : joinedFacts Tryz.pinned.checked.prog 3 Tryz.f3 Rows.fnMarshalSpec Rows.fnMarshalRow = true := by kernel_rfl
end Go.Proofs.YtammjbmfiakbnaaGreatDoor
