/- What the texts of the law FnSet lean on: the kit's tactics, the small words. -/
import Derived.Test.YtobbfenkdnaanaaGreatDoorSafe
import Derived.Test.YtobbfenkdnaanaaGreatDoorWords
import Derived.WalkSmall
import Derived.IntWalk
import Derived.Deep.LoopGhost
import Derived.Deep.QuietTactic
import Derived.Deep.RegionHeld3
import Derived.Deep.RegionWith
import Derived.RegionTactic
import Derived.BigQuiet
import Derived.Laws.Slices
import Derived.Laws.BytesArg
import Derived.Laws.BitsAllLaws
namespace Go.Proofs.YtobbfenkdnaanaaGreatDoor
theorem infoB : (Tryz.prog.info? 5).map (fun i => (i.zero, i.size, i.bytes)) = some (some (.int .u8 0), 1, 1) := by kernel_rfl
end Go.Proofs.YtobbfenkdnaanaaGreatDoor
