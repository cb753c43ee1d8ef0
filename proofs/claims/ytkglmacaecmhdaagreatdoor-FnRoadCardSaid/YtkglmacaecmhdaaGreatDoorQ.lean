/- FnRoad, part Q: the walks of L8c. -/
import Derived.Test.YtkglmacaecmhdaaGreatDoorO
set_option linter.unusedVariables false
set_option linter.unusedSimpArgs false
set_option maxHeartbeats 400000000
set_option maxRecDepth 100000
namespace Go.Proofs.YtkglmacaecmhdaaGreatDoor
open Go Go.RowKit Tryz
namespace Kc
theorem at_ (N:Nat→Prop) (w:World) (p:PkV) (v:Nat→Value) (hm:PkMem N w p v) (hl:PkLim p) (HKG:Hd (p.kind=8)):
 Calls prog 6 #[.agg (p.sells v)] w (Yes w (PkOK p)):=by
 exact pkPre
end Kc
end Go.Proofs.YtkglmacaecmhdaaGreatDoor
