/- FnRoad, part Ra: the walks of L8f, L8. -/
import Derived.Test.YtkglmacaecmhdaaGreatDoorOa
import Derived.Test.YtkglmacaecmhdaaGreatDoorP
import Derived.Test.YtkglmacaecmhdaaGreatDoorQa
import Derived.Test.YtkglmacaecmhdaaGreatDoorR
set_option linter.unusedVariables false
set_option linter.unusedSimpArgs false
set_option maxHeartbeats 400000000
set_option maxRecDepth 100000
namespace Go.Proofs.YtkglmacaecmhdaaGreatDoor
open Go Go.RowKit Tryz
namespace Kd
theorem at2 (N:Nat→Prop) (w:World) (p:PkV) (v:Nat→Value) (hm:PkMem N w p v) (hl:PkLim p) (HKG:Hd (p.kind=11)):
 Calls prog 6 #[.agg (p.sells v)] w (Yes w (PkOK p)):=by
 exact pkPre
end Kd
theorem properPk_c (N:Nat→Prop) (w:World) (p:PkV) (v:Nat→Value) (hm:PkMem N w p v) (hl:PkLim p):
 Calls prog 6 #[.agg (p.sells v)] w (Yes w (PkOK p)):=by
 have h:((p.kind=1)∨(p.kind=2)∨(p.kind=3)∨(p.kind=12∨p.kind=13)∨¬(1≤p.kind∧p.kind≤15))∨((p.kind=4∨p.kind=5∨p.kind=6∨p.kind=7)∨(p.kind=14∨p.kind=15))∨(p.kind=8)∨(p.kind=10)∨(p.kind=9)∨(p.kind=11):=by omega
 rcases h with h|h|h|h|h|h
 ·exact Ka.at_ N w p v hm hl (hH h)
 ·exact Kb.at_ N w p v hm hl (hH h)
 ·exact Kc.at_ N w p v hm hl (hH h)
 ·exact Kc.at2 N w p v hm hl (hH h)
 ·exact Kd.at_ N w p v hm hl (hH h)
 ·exact Kd.at2 N w p v hm hl (hH h)
end Go.Proofs.YtkglmacaecmhdaaGreatDoor
