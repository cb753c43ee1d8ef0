/- FnRoad, part R: the walks of L8d. -/
import Derived.Test.YtkglmacaecmhdaaGreatDoorO
set_option linter.unusedVariables false
set_option linter.unusedSimpArgs false
set_option maxHeartbeats 400000000
set_option maxRecDepth 100000
namespace Go.Proofs.YtkglmacaecmhdaaGreatDoor
open Go Go.RowKit Tryz
namespace Kd
theorem zR1 {p:Prop} (h:p:=by
 go_wp2_with fail
 all_goals
  go_ret
  exact yes_no rfl HF.o
 ):p:=h
theorem zR2 {p:Prop} (h:p:=by
 go_wp2_with fail
 all_goals
  go_ret
  exact⟨_,rfl,fun _=>HOK.o,HF.o⟩
 ):p:=h
theorem zR3 {p:Prop} (h:p:=by
 have d2:decide ((p.codes.length:Int)≤10)=false:=decide_eq_false (by omega)
 exact zR1
 ):p:=h
theorem zR0 {p:Prop} (h:p:=by
 clear q1
 go_wp2_with fail
 go_loopg [306] (p.codes.length+1) (fun gk i wr=>CodRel p W gk i wr)
 case atStart=>exact⟨0,rfl,by omega,by omega,by simp,HK3.o⟩
 case round=>
  obtain⟨k,rfl,hk,hgk,hok,hkw⟩:=hrel
  have HOKK:=hH hok
  have HKW:=hH hkw
  clear hok hkw c0 c1 c2 c3 c4 c5 c6 c7' c14 c15 c16' c17' c18'
  have HF:=hH (HK.o.trans HKW.o (by simp))
  by_cases hlt:k<p.codes.length
  ·as_aux_lemma=>
   obtain⟨g',rfl⟩:∃g',gk=g'+1:=⟨gk-1,by omega⟩
   have hltz:(k:Int)<(p.codes.length:Int):=by omega
   obtain⟨u,hu⟩:∃u,p.codes[k]?=some u:=⟨_,List.getElem?_eq_getElem hlt⟩
   have HU:=hH hu
   obtain⟨b0,o0,rfl,hcl⟩:=R16.o.2 (by omega)
   have x0:wr.cell? ⟨b0,o0+k,none⟩=some (.int .i64 u):=HKW.o.some_ (hcl _ _ (by rw[nvs,List.getElem?_map,hu];rfl)) (by simp)
   clear hcl hu
   by_cases q4:u<0
   ·have dq4:=decide_eq_true q4
    exact zR1
   ·have dq4:=decide_eq_false q4
    by_cases q5:255<u
    ·have dq5:=decide_eq_true q5
     exact zR1
    ·have dq5:=decide_eq_false q5
     go_wp2_with fail
     go_roundg g'
     case measure=>omega
     case rel=>exact⟨k+1,by go_num,by omega,by omega,mem_take_succ HU.o HOKK.o ⟨by omega,by omega⟩,HKW.o⟩
  ·as_aux_lemma=>
   obtain⟨c0,c1,c2,c3,c4,c5,c6,c7',c14,c15,c16',c17',c18'⟩:=HCELL.o wr HKW.o
   have hwk:p.codes.take k=p.codes:=List.take_of_length_le (by omega)
   have hok:=HOKK.o
   rw[hwk] at hok
   have HOKS:=hH hok
   clear hok hwk HOKK
   cases ib
   ·exact zR1
   ·have HID:=hH (HIB.o rfl)
    by_cases v4:p.version=4
    ·have d4:(p.version==4)=true:=by rw[beq_iff_eq];exact v4
     have d4n:(p.version !=4)=false:=by rw[bne,d4];rfl
     have d5:(p.version==5)=false:=by rw[beq_eq_false_iff_ne];omega
     have d5n:(p.version !=5)=true:=by rw[bne,d5];rfl
     have HV:=hH v4
     clear v4
     by_cases q6:p.codes.length=0
     ·have z0:((p.codes.length:Int)==0)=true:=by rw[beq_iff_eq];omega
      have HCZ:Hd (p.codes=[]):=List.eq_nil_of_length_eq_zero q6
      have HL10:Hd (p.codes.length≤10):=by show _≤_;omega
      clear q6
      have HOK:=hH (PkOK.of HF1.o HF3.o (k9:=fun _=>⟨HID.o,HL10.o,HOKS.o,fun _ _=>HCZ.o⟩))
      exact zR2
     ·have z0:((p.codes.length:Int)==0)=false:=by rw[beq_eq_false_iff_ne];omega
      clear q6
      by_cases q7:p.codes.length≤10
      ·have d2:decide ((p.codes.length:Int)≤10)=true:=decide_eq_true (by omega)
       by_cases h11:p.kind=11
       ·exact zR1
       ·have HN11:=hH h11
        clear h11
        have HOK:=hH (PkOK.of HF1.o HF3.o (k9:=fun _=>⟨HID.o,by omega,HOKS.o,fun h=>absurd h HN11.o⟩))
        exact zR2
      ·exact zR3
    ·have d4:(p.version==4)=false:=by rw[beq_eq_false_iff_ne];exact v4
     have d4n:(p.version !=4)=true:=by rw[bne,d4];rfl
     have v5:p.version=5:=by have:=HF1.o.ver;omega
     have d5:(p.version==5)=true:=by rw[beq_iff_eq];exact v5
     have d5n:(p.version !=5)=false:=by rw[bne,d5];rfl
     have HV:=hH v5
     clear v5 v4
     by_cases q6:p.codes.length≤10
     ·have d2:decide ((p.codes.length:Int)≤10)=true:=decide_eq_true (by omega)
      have HOK:=hH (PkOK.of HF1.o HF3.o (k9:=fun _=>⟨HID.o,by omega,HOKS.o,fun _ h=>by have:=HV.o;omega⟩))
      exact zR2
     ·exact zR3
 ):p:=h
theorem pkTail {q:Prop} (h:q:=by
 have hk:=HKG.o
 have HKD:Hd (p.kind=9∨p.kind=11):=by show _∨_;omega
 as_aux_lemma=>
 obtain⟨h1,h2,h3,h4,h5,h6,h7,h8,h9,h10,h11,h12,h13,h14,h15⟩:=eqs15 hk
 have g12:decide ((12:Int)≤p.kind)=false:=decide_eq_false (by omega)
 have HKE:=hH hk
 clear hk
 by_cases q1:p.id=0
 ·obtain⟨dq1,eq1⟩:=eqT q1
  exact zR0
 ·obtain⟨dq1,eq1⟩:=eqF q1
  exact zR0
 ):q:=h
theorem at_ (N:Nat→Prop) (w:World) (p:PkV) (v:Nat→Value) (hm:PkMem N w p v) (hl:PkLim p) (HKG:Hd (p.kind=9)):
 Calls prog 6 #[.agg (p.sells v)] w (Yes w (PkOK p)):=by
 exact pkPre
end Kd
end Go.Proofs.YtkglmacaecmhdaaGreatDoor
