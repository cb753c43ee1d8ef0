/- FnRoad, part Oa: the walks of L8a. -/
import Derived.Test.YtkglmacaecmhdaaGreatDoorO
set_option linter.unusedVariables false
set_option linter.unusedSimpArgs false
set_option maxHeartbeats 400000000
set_option maxRecDepth 100000
namespace Go.Proofs.YtkglmacaecmhdaaGreatDoor
open Go Go.RowKit Tryz
theorem zOa0 {p:Prop} (h:p:=by
 go_wp2_with fail
 all_goals
  go_ret
  exact yes_no rfl HF.o
 ):p:=h
theorem zOa2 {p:Prop} (h:p:=by
 go_wp2_with fail
 all_goals
  go_ret
  exact⟨_,rfl,fun _=>HOK.o,HF.o⟩
 ):p:=h
theorem zOa3 {p:Prop} (h:p:=by
 have dp:decide ((p.payload.length:Int)≤1000)=false:=decide_eq_false (by omega)
 exact zOa0
 ):p:=h
theorem zOa1 {p:Prop} (h:p:=by
 have dq6:=decide_eq_true q6
 cases ib
 ·exact zOa0
 ·have HID:=hH (HIB.o rfl)
  by_cases q8:p.payload.length≤1000
  ·have dp:decide ((p.payload.length:Int)≤1000)=true:=decide_eq_true (by omega)
   have HOK:=hH (PkOK.of HF1.o HF3.o (k3:=fun _=>⟨HTP.o,by omega,by omega,fun _=>HID.o,fun h=>by omega,by omega⟩))
   exact zOa2
  ·exact zOa3
 ):p:=h
namespace Ka
theorem pkTail {q:Prop} (h:q:=by
 have hk:=HKG.o
 rcases hk with hk|hk|hk|hk|hk
 ·have HKD:Hd (p.kind=1):=hk
  as_aux_lemma=>
  obtain⟨h1,h2,h3,h4,h5,h6,h7,h8,h9,h10,h11,h12,h13,h14,h15⟩:=eqs15 hk
  have g12:decide ((12:Int)≤p.kind)=false:=decide_eq_false (by omega)
  have HKE:=hH hk
  clear hk
  by_cases q2:p.id=0
  ·obtain⟨dq2,eq2⟩:=eqT q2
   clear q2
   go_upto_region 10 with fail
   refine wp_region_lit ?_
   refine wpList_load_row rfl 35 (.tmp 1) rfl w.heap.size (by rfl) 35 (p.sells v) (0,0) _ (HBP.o.keep HK3.o (by simp)) underlying35 rfl HI.o ?_
   simp only[Act.put,s1,s2,s3]
   go_wp2_with fail
   go_fit (properConnect_c N _ p v (HM.o.keep HK3.o (by simp)) HL.o)
   rintro e w9 ⟨b,rfl,hb,hk9⟩
   have HK9:=hH (HF.o.trans hk9 (by simp))
   have HB:=hH hb
   clear hk9 hb
   go_wp2_with fail
   go_ret
   refine⟨b,rfl,fun hbt=>?_,HK9.o⟩
   have HOK:=hH (PkOK.of HF1.o HF3.o (k1:=fun _=>HB.o hbt))
   exact HOK.o
  ·obtain⟨dq2,eq2⟩:=eqF q2
   clear q2
   exact zOa0
 ·have HKD:Hd (p.kind=2):=hk
  as_aux_lemma=>
  obtain⟨h1,h2,h3,h4,h5,h6,h7,h8,h9,h10,h11,h12,h13,h14,h15⟩:=eqs15 hk
  have g12:decide ((12:Int)≤p.kind)=false:=decide_eq_false (by omega)
  have HKE:=hH hk
  clear hk
  by_cases q2:p.id=0
  ·obtain⟨dq2,eq2⟩:=eqT q2
   clear q2
   by_cases q3:0≤p.code
   ·have dq3:=decide_eq_true q3
    by_cases q4:p.code≤255
    ·have dq4:=decide_eq_true q4
     have HOK:=hH (PkOK.of HF1.o HF3.o (k2:=fun _=>⟨by omega,by omega⟩))
     exact zOa2
    ·have dq4:=decide_eq_false q4
     exact zOa0
   ·have dq3:=decide_eq_false q3
    exact zOa0
  ·obtain⟨dq2,eq2⟩:=eqF q2
   clear q2
   exact zOa0
 ·have HKD:Hd (p.kind=3):=hk
  as_aux_lemma=>
  obtain⟨h1,h2,h3,h4,h5,h6,h7,h8,h9,h10,h11,h12,h13,h14,h15⟩:=eqs15 hk
  have g12:decide ((12:Int)≤p.kind)=false:=decide_eq_false (by omega)
  have HKE:=hH hk
  clear hk
  have TC:=hH (fun w=>topic_c w p.topic HL.o.topic)
  by_cases q2:p.id=0
  ·obtain⟨dq2,eq2⟩:=eqT q2
   have HZ:=hH q2
   clear q2
   go_wp2_with fail
   go_fit (TC.o _)
   rintro e w9 ⟨rfl,hk9⟩
   have HF:=hH (HF.o.trans hk9 (by simp))
   have HK9:=hH (HK3.o.trans hk9 (by simp))
   clear hk9 c0 c1 c2 c3 c4 c5 c6 c7' c14 c15 c16' c17' c18'
   obtain⟨c0,c1,c2,c3,c4,c5,c6,c7',c14,c15,c16',c17',c18'⟩:=HCELL.o w9 HK9.o
   cases et:topicB p.topic
   ·exact zOa0
   ·have HTP:=hH (topicB_ok et)
    clear et
    by_cases q4:0≤p.qos
    ·have dq4:=decide_eq_true q4
     by_cases q5:p.qos≤2
     ·have dq5:=decide_eq_true q5
      by_cases q6:0<p.qos
      ·exact zOa1
      ·have dq6:=decide_eq_false q6
       have z0:(p.qos==0)=true:=by rw[beq_iff_eq];omega
       cases hd:p.dup
       ·by_cases q8:p.payload.length≤1000
        ·have dp:decide ((p.payload.length:Int)≤1000)=true:=decide_eq_true (by omega)
         have HOK:=hH (PkOK.of HF1.o HF3.o (k3:=fun _=>⟨HTP.o,by omega,by omega,fun h=>by omega,fun _=>⟨HZ.o,hd⟩,by omega⟩))
         exact zOa2
        ·exact zOa3
       ·exact zOa0
     ·have dq5:=decide_eq_false q5
      exact zOa0
    ·have dq4:=decide_eq_false q4
     exact zOa0
  ·obtain⟨dq2,eq2⟩:=eqF q2
   clear q2
   go_wp2_with fail
   go_fit (TC.o _)
   rintro e w9 ⟨rfl,hk9⟩
   have HF:=hH (HF.o.trans hk9 (by simp))
   have HK9:=hH (HK3.o.trans hk9 (by simp))
   clear hk9 c0 c1 c2 c3 c4 c5 c6 c7' c14 c15 c16' c17' c18'
   obtain⟨c0,c1,c2,c3,c4,c5,c6,c7',c14,c15,c16',c17',c18'⟩:=HCELL.o w9 HK9.o
   cases et:topicB p.topic
   ·exact zOa0
   ·have HTP:=hH (topicB_ok et)
    clear et
    by_cases q4:0≤p.qos
    ·have dq4:=decide_eq_true q4
     by_cases q5:p.qos≤2
     ·have dq5:=decide_eq_true q5
      by_cases q6:0<p.qos
      ·exact zOa1
      ·have dq6:=decide_eq_false q6
       have z0:(p.qos==0)=true:=by rw[beq_iff_eq];omega
       cases hd:p.dup
       ·exact zOa0
       ·exact zOa0
     ·have dq5:=decide_eq_false q5
      exact zOa0
    ·have dq4:=decide_eq_false q4
     exact zOa0
 ·have HKD:Hd (p.kind=12∨p.kind=13):=hk
  rcases hk with hk|hk
  all_goals
   as_aux_lemma=>
   obtain⟨h1,h2,h3,h4,h5,h6,h7,h8,h9,h10,h11,h12,h13,h14,h15⟩:=eqs15 hk
   have g12:decide ((12:Int)≤p.kind)=true:=decide_eq_true (by omega)
   have HKE:=hH hk
   clear hk
   by_cases q3:p.id=0
   ·obtain⟨dq3,eq3⟩:=eqT q3
    clear q3
    have HOK:=hH (PkOK.of HF1.o HF3.o)
    exact zOa2
   ·obtain⟨dq3,eq3⟩:=eqF q3
    clear q3
    exact zOa0
 ·exact absurd HF1.o.kind hk
 ):q:=h
theorem at_ (N:Nat→Prop) (w:World) (p:PkV) (v:Nat→Value) (hm:PkMem N w p v) (hl:PkLim p) (HKG:Hd ((p.kind=1)∨(p.kind=2)∨(p.kind=3)∨(p.kind=12∨p.kind=13)∨¬(1≤p.kind∧p.kind≤15))):
 Calls prog 6 #[.agg (p.sells v)] w (Yes w (PkOK p)):=by
 exact pkPre
end Ka
end Go.Proofs.YtkglmacaecmhdaaGreatDoor
