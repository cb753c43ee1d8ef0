/- FnRoad, part P: the walks of L8b. -/
import Derived.Test.YtkglmacaecmhdaaGreatDoorO
set_option linter.unusedVariables false
set_option linter.unusedSimpArgs false
set_option maxHeartbeats 400000000
set_option maxRecDepth 100000
namespace Go.Proofs.YtkglmacaecmhdaaGreatDoor
open Go Go.RowKit Tryz
theorem zP1 {p:Prop} (h:p:=by
 go_wp2_with fail
 all_goals
  go_ret
  exact yes_no rfl HF.o
 ):p:=h
theorem zP2 {p:Prop} (h:p:=by
 go_wp2_with fail
 all_goals
  go_ret
  exact⟨_,rfl,fun _=>HOK.o,HF.o⟩
 ):p:=h
theorem zP0 {p:Prop} (h:p:=by
 clear q3
 cases ib
 ·exact zP1
 ·have HID:=hH (HIB.o rfl)
  by_cases q5:0≤p.code
  ·have dq5:=decide_eq_true q5
   by_cases q6:p.code≤255
   ·have dq6:=decide_eq_true q6
    by_cases v4:p.version=4
    ·have d4:(p.version==4)=true:=by rw[beq_iff_eq];exact v4
     have d4n:(p.version !=4)=false:=by rw[bne,d4];rfl
     have d5:(p.version==5)=false:=by rw[beq_eq_false_iff_ne];omega
     have d5n:(p.version !=5)=true:=by rw[bne,d5];rfl
     have HV:=hH v4
     clear v4
     by_cases q8:p.code=0
     ·obtain⟨dq8,eq8⟩:=eqT q8
      have CZ:=hH q8
      clear q8
      have HOK:=hH (PkOK.of HF1.o HF3.o (k4:=fun _=>⟨HID.o,by have:=CZ.o;omega,by have:=CZ.o;omega,fun _=>CZ.o⟩))
      exact zP2
     ·obtain⟨dq8,eq8⟩:=eqF q8
      clear q8
      exact zP1
    ·have d4:(p.version==4)=false:=by rw[beq_eq_false_iff_ne];exact v4
     have d4n:(p.version !=4)=true:=by rw[bne,d4];rfl
     have v5:p.version=5:=by have:=HF1.o.ver;omega
     have d5:(p.version==5)=true:=by rw[beq_iff_eq];exact v5
     have d5n:(p.version !=5)=false:=by rw[bne,d5];rfl
     have HV:=hH v5
     clear v5 v4
     have HOK:=hH (PkOK.of HF1.o HF3.o (k4:=fun _=>⟨HID.o,by omega,by omega,fun h=>by have:=HV.o;omega⟩))
     exact zP2
   ·have dq6:=decide_eq_false q6
    exact zP1
  ·have dq5:=decide_eq_false q5
   exact zP1
 ):p:=h
namespace Kb
theorem pkTail {q:Prop} (h:q:=by
 have hk:=HKG.o
 rcases hk with hk|hk
 ·have HKD:Hd (p.kind=4∨p.kind=5∨p.kind=6∨p.kind=7):=hk
  rcases hk with hk|hk|hk|hk
  all_goals
   as_aux_lemma=>
   obtain⟨h1,h2,h3,h4,h5,h6,h7,h8,h9,h10,h11,h12,h13,h14,h15⟩:=eqs15 hk
   have g12:decide ((12:Int)≤p.kind)=false:=decide_eq_false (by omega)
   have HKE:=hH hk
   clear hk
   by_cases q3:p.id=0
   ·obtain⟨dq3,eq3⟩:=eqT q3
    exact zP0
   ·obtain⟨dq3,eq3⟩:=eqF q3
    exact zP0
 ·have HKD:Hd (p.kind=14∨p.kind=15):=hk
  rcases hk with hk|hk
  all_goals
   as_aux_lemma=>
   obtain⟨h1,h2,h3,h4,h5,h6,h7,h8,h9,h10,h11,h12,h13,h14,h15⟩:=eqs15 hk
   have g12:decide ((12:Int)≤p.kind)=true:=decide_eq_true (by omega)
   have HKE:=hH hk
   clear hk
   by_cases q3:p.id=0
   ·obtain⟨dq3,eq3⟩:=eqT q3
    clear q3
    by_cases q4:0≤p.code
    ·have dq4:=decide_eq_true q4
     by_cases q5:p.code≤255
     ·have dq5:=decide_eq_true q5
      by_cases v4:p.version=4
      ·have d4:(p.version==4)=true:=by rw[beq_iff_eq];exact v4
       have d4n:(p.version !=4)=false:=by rw[bne,d4];rfl
       have d5:(p.version==5)=false:=by rw[beq_eq_false_iff_ne];omega
       have d5n:(p.version !=5)=true:=by rw[bne,d5];rfl
       have HV:=hH v4
       clear v4
       by_cases q7:p.code=0
       ·obtain⟨dq7,eq7⟩:=eqT q7
        have CZ:=hH q7
        clear q7
        have HOK:=hH (PkOK.of HF1.o HF3.o (k14:=fun _=>⟨by have:=CZ.o;omega,by have:=CZ.o;omega,fun _=>CZ.o⟩))
        exact zP2
       ·obtain⟨dq7,eq7⟩:=eqF q7
        clear q7
        exact zP1
      ·have d4:(p.version==4)=false:=by rw[beq_eq_false_iff_ne];exact v4
       have d4n:(p.version !=4)=true:=by rw[bne,d4];rfl
       have v5:p.version=5:=by have:=HF1.o.ver;omega
       have d5:(p.version==5)=true:=by rw[beq_iff_eq];exact v5
       have d5n:(p.version !=5)=false:=by rw[bne,d5];rfl
       have HV:=hH v5
       clear v5 v4
       have HOK:=hH (PkOK.of HF1.o HF3.o (k14:=fun _=>⟨by omega,by omega,fun h=>by have:=HV.o;omega⟩))
       exact zP2
     ·have dq5:=decide_eq_false q5
      exact zP1
    ·have dq4:=decide_eq_false q4
     exact zP1
   ·obtain⟨dq3,eq3⟩:=eqF q3
    clear q3
    exact zP1
 ):q:=h
theorem at_ (N:Nat→Prop) (w:World) (p:PkV) (v:Nat→Value) (hm:PkMem N w p v) (hl:PkLim p) (HKG:Hd ((p.kind=4∨p.kind=5∨p.kind=6∨p.kind=7)∨(p.kind=14∨p.kind=15))):
 Calls prog 6 #[.agg (p.sells v)] w (Yes w (PkOK p)):=by
 exact pkPre
end Kb
end Go.Proofs.YtkglmacaecmhdaaGreatDoor
