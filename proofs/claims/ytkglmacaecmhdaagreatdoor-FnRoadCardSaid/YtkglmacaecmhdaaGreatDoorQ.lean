/- FnRoad, part Q: the walks of L8c. -/
import Derived.Test.YtkglmacaecmhdaaGreatDoorO
set_option linter.unusedVariables false
set_option linter.unusedSimpArgs false
set_option maxHeartbeats 400000000
set_option maxRecDepth 100000
namespace Go.Proofs.YtkglmacaecmhdaaGreatDoor
open Go Go.RowKit Tryz
namespace Kc
theorem zQ1 {p:Prop} (h:p:=by
 go_wp2_with fail
 all_goals
  go_ret
  exact yes_no rfl HF.o
 ):p:=h
theorem zQ3 {p:Prop} (h:p:=by
 obtain⟨dq16,eq16⟩:=eqF q16
 clear q16
 exact zQ1
 ):p:=h
theorem zQ0 {p:Prop} (h:p:=by
 obtain⟨k,rfl,hk,hgk,hok,hkw⟩:=hrel
 have HOKK:=hH hok
 have HKW:=hH hkw
 clear hok hkw c0 c1 c2 c3 c4 c5 c6 c7' c14 c15 c16' c17' c18'
 have HF:=hH (HK.o.trans HKW.o (by simp))
 by_cases hlt:k<p.subs.length
 ·as_aux_lemma=>
  obtain⟨g',rfl⟩:∃g',gk=g'+1:=⟨gk-1,by omega⟩
  have hltz:(k:Int)<(p.subs.length:Int):=by omega
  obtain⟨u,hu⟩:∃u,p.subs[k]?=some u:=⟨_,List.getElem?_eq_getElem hlt⟩
  have HU:=hH hu
  have LU:=HL.o.filters u (List.mem_of_getElem? hu)
  have fx:=flat5_get p.subs k u hu
  obtain⟨b0,o0,rfl,hcl⟩:=R17.o.2 (by omega)
  clear hu
  have x0:wr.cell? ⟨b0,o0+k*5,none⟩=some (.string u.filter):=HKW.o.some_ (hcl _ _ (fx 0 (by omega))) (by simp)
  have x1:wr.cell? ⟨b0,o0+k*5+1,none⟩=some (.int .i64 u.qos):=HKW.o.some_ (by rw[Nat.add_assoc];exact hcl _ _ (fx 1 (by omega))) (by simp)
  have x2:wr.cell? ⟨b0,o0+k*5+2,none⟩=some (.bool u.nl):=HKW.o.some_ (by rw[Nat.add_assoc];exact hcl _ _ (fx 2 (by omega))) (by simp)
  have x3:wr.cell? ⟨b0,o0+k*5+3,none⟩=some (.bool u.ap):=HKW.o.some_ (by rw[Nat.add_assoc];exact hcl _ _ (fx 3 (by omega))) (by simp)
  have x4:wr.cell? ⟨b0,o0+k*5+4,none⟩=some (.int .i64 u.handling):=HKW.o.some_ (by rw[Nat.add_assoc];exact hcl _ _ (fx 4 (by omega))) (by simp)
  have TT:=hH (fun w=>text_c w u.filter LU)
  clear hcl fx
  go_upto_region 25 with fail
  have HNB:=hH (Blk.new wr 56 #[.string u.filter,.int .i64 u.qos,.bool u.nl,.bool u.ap,.int .i64 u.handling])
  have HKV:=hH (HKW.o.trans (Keeps.alloc wr (.cells #[.string u.filter,.int .i64 u.qos,.bool u.nl,.bool u.ap,.int .i64 u.handling] 56)) (by simp))
  generalize wr.alloc (.cells #[.string u.filter,.int .i64 u.qos,.bool u.nl,.bool u.ap,.int .i64 u.handling] 56)=W5 at*
  generalize wr.heap.size=nb at*
  clear x0 x1 x2 x3 x4
  have hY:∀w',Keeps [] W5 w'→w'.cell? ⟨nb,0,none⟩=some (.string u.filter)∧w'.cell? ⟨nb,1,none⟩=some (.int .i64 u.qos)∧w'.cell? ⟨nb,2,none⟩=some (.bool u.nl)∧w'.cell? ⟨nb,3,none⟩=some (.bool u.ap)∧w'.cell? ⟨nb,4,none⟩=some (.int .i64 u.handling)∧w'.cell? ⟨w.heap.size,0,none⟩=some (.int .i64 p.kind)∧w'.cell? ⟨w.heap.size,1,none⟩=some (.int .i64 p.version):=fun w' k=>⟨by rw[(HNB.o.keep k (by simp)).cell];rfl,by rw[(HNB.o.keep k (by simp)).cell];rfl,by rw[(HNB.o.keep k (by simp)).cell];rfl,by rw[(HNB.o.keep k (by simp)).cell];rfl,by rw[(HNB.o.keep k (by simp)).cell];rfl,(HCELL.o _ (HKV.o.trans k (by simp))).1,(HCELL.o _ (HKV.o.trans k (by simp))).2.1⟩
  have HY:=hH hY
  obtain⟨y0,y1,y2,y3,y4,yk,yv⟩:=hY W5 (Keeps.refl _ _)
  clear hY
  go_wp2_with fail
  go_fit (TT.o _)
  rintro e w6 ⟨rfl,hq2⟩
  obtain⟨y0,y1,y2,y3,y4,yk,yv⟩:=HY.o w6 hq2
  have HKX:=hH (HKV.o.trans hq2 (by simp))
  have HF:=hH (HK.o.trans HKX.o (by simp))
  clear hq2
  cases et:textB u.filter
  ·exact zQ1
  ·have HTP:=hH (textB_ok et)
   clear et
   cases ez:u.filter.toList.isEmpty
   ·have HEZ:=hH ez
    by_cases q6:200<u.filter.size
    ·have d2:decide ((200:Int)<(u.filter.size:Int))=true:=decide_eq_true (by omega)
     exact zQ1
    ·have d2:decide ((200:Int)<(u.filter.size:Int))=false:=decide_eq_false (by omega)
     by_cases q7:u.qos<0
     ·have dq7:=decide_eq_true q7
      exact zQ1
     ·have dq7:=decide_eq_false q7
      by_cases q8:2<u.qos
      ·have dq8:=decide_eq_true q8
       exact zQ1
      ·have dq8:=decide_eq_false q8
       by_cases q9:u.handling<0
       ·have dq9:=decide_eq_true q9
        exact zQ1
       ·have dq9:=decide_eq_false q9
        by_cases q10:2<u.handling
        ·have dq10:=decide_eq_true q10
         exact zQ1
        ·have dq10:=decide_eq_false q10
         have HQ:Hd (0≤u.qos∧u.qos≤2):=⟨by omega,by omega⟩
         have HH:Hd (0≤u.handling∧u.handling≤2):=⟨by omega,by omega⟩
         by_cases k10:p.kind=10
         ·try(exfalso;have h6:=HKE.o;omega)
          all_goals
           clear k10
           cases en:u.nl
           ·cases ea:u.ap
            ·by_cases q15:u.handling=0
             ·obtain⟨dq15,eq15⟩:=eqT q15
              have HZH:=hH q15
              clear q15
              by_cases q16:u.qos=0
              ·obtain⟨dq16,eq16⟩:=eqT q16
               have HZQ:=hH q16
               clear q16
               go_wp2_with fail
               all_goals
                go_roundg g'
                case measure=>omega
                case rel=>exact⟨k+1,by go_num,by omega,by omega,mem_take_succ HU.o HOKK.o ⟨⟨HTP.o,size_ne HEZ.o,by omega⟩,HQ.o,HH.o,fun _=>⟨en,ea,HZH.o⟩,fun _=>HZQ.o⟩,HKX.o⟩
              ·exact zQ3
             ·obtain⟨dq15,eq15⟩:=eqF q15
              clear q15
              exact zQ1
            ·exact zQ1
           ·exact zQ1
         ·try(exfalso;have h6:=HKE.o;omega)
          all_goals
           have HN10:=hH k10
           clear k10
           by_cases v4:p.version=4
           ·have d4:(p.version==4)=true:=by rw[beq_iff_eq];exact v4
            have d4n:(p.version !=4)=false:=by rw[bne,d4];rfl
            have d5:(p.version==5)=false:=by rw[beq_eq_false_iff_ne];omega
            have d5n:(p.version !=5)=true:=by rw[bne,d5];rfl
            have HV:=hH v4
            clear v4
            cases en:u.nl
            ·cases ea:u.ap
             ·by_cases q16:u.handling=0
              ·obtain⟨dq16,eq16⟩:=eqT q16
               have HZH:=hH q16
               clear q16
               go_wp2_with fail
               all_goals
                go_roundg g'
                case measure=>omega
                case rel=>exact⟨k+1,by go_num,by omega,by omega,mem_take_succ HU.o HOKK.o ⟨⟨HTP.o,size_ne HEZ.o,by omega⟩,HQ.o,HH.o,fun _=>⟨en,ea,HZH.o⟩,fun h=>absurd h HN10.o⟩,HKX.o⟩
              ·exact zQ3
             ·exact zQ1
            ·exact zQ1
           ·have d4:(p.version==4)=false:=by rw[beq_eq_false_iff_ne];exact v4
            have d4n:(p.version !=4)=true:=by rw[bne,d4];rfl
            have HN4:=hH v4
            clear v4
            go_wp2_with fail
            all_goals
             go_roundg g'
             case measure=>omega
             case rel=>exact⟨k+1,by go_num,by omega,by omega,mem_take_succ HU.o HOKK.o ⟨⟨HTP.o,size_ne HEZ.o,by omega⟩,HQ.o,HH.o,fun h=>by exfalso;have h1:=HN4.o;have h2:=HN10.o;omega,fun h=>absurd h HN10.o⟩,HKX.o⟩
   ·exact zQ1
 ·as_aux_lemma=>
  obtain⟨c0,c1,c2,c3,c4,c5,c6,c7',c14,c15,c16',c17',c18'⟩:=HCELL.o wr HKW.o
  have hwk:p.subs.take k=p.subs:=List.take_of_length_le (by omega)
  have hok:=HOKK.o
  rw[hwk] at hok
  have HOKS:=hH hok
  clear hok hwk HOKK
  cases ib
  ·exact zQ1
  ·have HID:=hH (HIB.o rfl)
   by_cases q5:p.subs.length≤10
   ·have d2:decide ((p.subs.length:Int)≤10)=true:=decide_eq_true (by omega)
    have HOK:=hH (PkOK.of HF1.o HF3.o (k8:=fun _=>⟨HID.o,by omega,HOKS.o⟩))
    go_wp2_with fail
    all_goals
     go_ret
     exact⟨_,rfl,fun _=>HOK.o,HF.o⟩
   ·have d2:decide ((p.subs.length:Int)≤10)=false:=decide_eq_false (by omega)
    exact zQ1
 ):p:=h
theorem zQ2 {p:Prop} (h:p:=by
 clear q1
 go_wp2_with fail
 go_loopg [216] (p.subs.length+1) (fun gk i wr=>SubRel p W gk i wr)
 case atStart=>exact⟨0,rfl,by omega,by omega,by simp,HK3.o⟩
 case round=>
  exact zQ0
 ):p:=h
theorem pkTail {q:Prop} (h:q:=by
 have hk:=HKG.o
 have HKD:Hd (p.kind=8∨p.kind=10):=by show _∨_;omega
 as_aux_lemma=>
 obtain⟨h1,h2,h3,h4,h5,h6,h7,h8,h9,h10,h11,h12,h13,h14,h15⟩:=eqs15 hk
 have g12:decide ((12:Int)≤p.kind)=false:=decide_eq_false (by omega)
 have HKE:=hH hk
 clear hk
 by_cases q1:p.id=0
 ·obtain⟨dq1,eq1⟩:=eqT q1
  exact zQ2
 ·obtain⟨dq1,eq1⟩:=eqF q1
  exact zQ2
 ):q:=h
theorem at_ (N:Nat→Prop) (w:World) (p:PkV) (v:Nat→Value) (hm:PkMem N w p v) (hl:PkLim p) (HKG:Hd (p.kind=8)):
 Calls prog 6 #[.agg (p.sells v)] w (Yes w (PkOK p)):=by
 exact pkPre
end Kc
end Go.Proofs.YtkglmacaecmhdaaGreatDoor
