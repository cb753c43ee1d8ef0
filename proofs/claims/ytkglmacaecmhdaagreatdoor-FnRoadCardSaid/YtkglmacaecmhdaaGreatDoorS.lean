/- FnRoad, part S: the walks of F0, G0. -/
import Derived.Test.YtkglmacaecmhdaaGreatDoorNa
import Derived.Test.YtkglmacaecmhdaaGreatDoorSa
set_option linter.unusedVariables false
set_option linter.unusedSimpArgs false
set_option maxHeartbeats 8000000
set_option maxRecDepth 100000
namespace Go.Proofs.YtkglmacaecmhdaaGreatDoor
open Go Go.RowKit Tryz
structure FProp (x:PropV):Prop where
 t:x.text.size≤2147483647
 o:x.other.size≤2147483647
structure FAll {α:Type} (F:α→Prop) (l:List α):Prop where
 len:l.length≤2147483647
 all:∀x∈l,F x
structure FWill (u:WillV):Prop where
 t:u.topic.size≤2147483647
 y:u.payload.length≤2147483647
 p:FAll FProp u.props
def FSub (u:SubP):Prop:=u.filter.size≤2147483647
def FByt (u:List UInt8):Prop:=u.length≤2147483647
structure Fits (p:PkV):Prop where
 topic:p.topic.size≤2147483647
 payload:p.payload.length≤2147483647
 name:p.name.size≤2147483647
 client:p.client.size≤2147483647
 will:FAll FWill p.will
 user:FAll FByt p.user
 pass:FAll FByt p.pass
 codes:p.codes.length≤2147483647
 subs:FAll FSub p.subs
 props:FAll FProp p.props
def FRel {α:Type} (F:α→Prop) (l:List α) (w:World) (gk:Nat) (i:Value) (wr:World):Prop:=∃k,i=.int .i64 ((k:Nat):Int)∧k≤l.length∧l.length<gk+k∧(∀u∈l.take k,F u)∧Keeps [] w wr
theorem zS3 {p:Prop} (h:p:=by
 go_wp2_with fail
 go_ret
 exact yes_no rfl (Keeps.alloc _ _)
 ):p:=h
theorem fits5_c (w:World) (x:PropV):Calls prog 39 #[.agg #[.int .i64 x.id,.int .u32 (x.n:Int),.string x.text,.string x.other]] w (Yes w (FProp x)):=by
 go_enter func39,ntmps39
 by_cases q1:2147483647<x.text.size
 ·have d1:decide ((2147483647:Int)<(x.text.size:Int))=true:=decide_eq_true (by omega)
  exact zS3
 have d1:decide ((2147483647:Int)<(x.text.size:Int))=false:=decide_eq_false (by omega)
 by_cases q2:2147483647<x.other.size
 ·have d2:decide ((2147483647:Int)<(x.other.size:Int))=true:=decide_eq_true (by omega)
  exact zS3
 have d2:decide ((2147483647:Int)<(x.other.size:Int))=false:=decide_eq_false (by omega)
 go_wp2_with fail
 go_ret
 exact⟨true,rfl,fun _=>⟨by omega,by omega⟩,Keeps.alloc _ _⟩
theorem fits8_c (w:World) (u:SubP):Calls prog 38 #[.agg #[.string u.filter,.int .i64 u.qos,.bool u.nl,.bool u.ap,.int .i64 u.handling]] w (Yes w (FSub u)):=by
 go_enter func38,ntmps38
 by_cases q1:2147483647<u.filter.size
 ·have d1:decide ((2147483647:Int)<(u.filter.size:Int))=true:=decide_eq_true (by omega)
  exact zS3
 have d1:decide ((2147483647:Int)<(u.filter.size:Int))=false:=decide_eq_false (by omega)
 go_wp2_with fail
 go_ret
 exact⟨true,rfl,fun _=>by show _≤_;omega,Keeps.alloc _ _⟩
theorem zS0 {p:Prop} (h:p:=by
 rintro e w2 ⟨b,rfl,hb,hk2⟩
 have HKX:=hH (HKW.o.trans ((Keeps.alloc wr _).trans hk2 (by simp)) (by simp))
 clear hk2
 cases b
 ·go_wp2_with fail
  go_ret
  exact yes_no rfl HKX.o
 ·have HB:=hH (hb rfl)
  clear hb
  go_wp2_with fail
  go_roundg g'
  case measure=>omega
  case rel=>exact⟨k+1,by go_num,by omega,by omega,mem_take_succ HU.o HOK.o HB.o,HKX.o⟩
 ):p:=h
theorem zS1 {p:Prop} (h:p:=by
 go_wp2_with fail
 go_ret
 refine⟨true,rfl,fun _=>⟨by omega,?_⟩,HKW.o⟩
 have h:=HOK.o
 rwa [List.take_of_length_le (by omega)] at h
 ):p:=h
theorem zS2 {p:Prop} (h:p:=by
 have d1:decide ((2147483647:Int)<(l.length:Int))=true:=decide_eq_true (by omega)
 go_wp2_with fail
 go_ret
 exact yes_no rfl (Keeps.refl _ _)
 ):p:=h
theorem fits4_c (N:Nat→Prop) (w:World) (va:Value) (l:List PropV) (ha:PropsAt N w va l):Calls prog 16 #[va] w (Yes w (FAll FProp l)):=by
 obtain⟨A,ca,rfl,hra,hca,hA⟩:=ha
 have HR:=hH hra
 clear hra hA
 go_enter func16,ntmps16
 by_cases q1:2147483647<l.length
 ·exact zS2
 have d1:decide ((2147483647:Int)<(l.length:Int))=false:=decide_eq_false (by omega)
 go_wp2_with fail
 go_loopg [10] (l.length+1) (fun gk i wr=>FRel FProp l w gk i wr)
 case atStart=>exact⟨0,rfl,by omega,by omega,by simp,Keeps.refl _ _⟩
 case round=>
  obtain⟨k,rfl,hk,hgk,hok,hkw⟩:=hrel
  have HOK:=hH hok
  have HKW:=hH hkw
  clear hok hkw
  by_cases hlt:k<l.length
  ·obtain⟨g',rfl⟩:∃g',gk=g'+1:=⟨gk-1,by omega⟩
   have hltz:(k:Int)<(l.length:Int):=by omega
   obtain⟨u,hu⟩:∃u,l[k]?=some u:=⟨_,List.getElem?_eq_getElem hlt⟩
   have HU:=hH hu
   have fx:=flat4_get l k u hu
   obtain⟨b0,o0,rfl,hcl⟩:=HR.o.2 (by omega)
   clear hu
   have x0:wr.cell? ⟨b0,o0+k*4,none⟩=some (.int .i64 u.id):=HKW.o.some_ (hcl _ _ (fx 0 (by omega))) (by simp)
   have x1:wr.cell? ⟨b0,o0+k*4+1,none⟩=some (.int .u32 (u.n:Int)):=HKW.o.some_ (by rw[Nat.add_assoc];exact hcl _ _ (fx 1 (by omega))) (by simp)
   have x2:wr.cell? ⟨b0,o0+k*4+2,none⟩=some (.string u.text):=HKW.o.some_ (by rw[Nat.add_assoc];exact hcl _ _ (fx 2 (by omega))) (by simp)
   have x3:wr.cell? ⟨b0,o0+k*4+3,none⟩=some (.string u.other):=HKW.o.some_ (by rw[Nat.add_assoc];exact hcl _ _ (fx 3 (by omega))) (by simp)
   clear hcl fx
   go_wp2_with fail
   go_fit (fits5_c _ u)
   exact zS0
  ·exact zS1
theorem fits7_c (N:Nat→Prop) (w:World) (va:Value) (l:List SubP) (ha:SubsAt N w va l):Calls prog 15 #[va] w (Yes w (FAll FSub l)):=by
 obtain⟨A,ca,rfl,hra,hca,hA⟩:=ha
 have HR:=hH hra
 clear hra hA
 go_enter func15,ntmps15
 by_cases q1:2147483647<l.length
 ·exact zS2
 have d1:decide ((2147483647:Int)<(l.length:Int))=false:=decide_eq_false (by omega)
 go_wp2_with fail
 go_loopg [10] (l.length+1) (fun gk i wr=>FRel FSub l w gk i wr)
 case atStart=>exact⟨0,rfl,by omega,by omega,by simp,Keeps.refl _ _⟩
 case round=>
  obtain⟨k,rfl,hk,hgk,hok,hkw⟩:=hrel
  have HOK:=hH hok
  have HKW:=hH hkw
  clear hok hkw
  by_cases hlt:k<l.length
  ·obtain⟨g',rfl⟩:∃g',gk=g'+1:=⟨gk-1,by omega⟩
   have hltz:(k:Int)<(l.length:Int):=by omega
   obtain⟨u,hu⟩:∃u,l[k]?=some u:=⟨_,List.getElem?_eq_getElem hlt⟩
   have HU:=hH hu
   have fx:=flat5_get l k u hu
   obtain⟨b0,o0,rfl,hcl⟩:=HR.o.2 (by omega)
   clear hu
   have x0:wr.cell? ⟨b0,o0+k*5,none⟩=some (.string u.filter):=HKW.o.some_ (hcl _ _ (fx 0 (by omega))) (by simp)
   have x1:wr.cell? ⟨b0,o0+k*5+1,none⟩=some (.int .i64 u.qos):=HKW.o.some_ (by rw[Nat.add_assoc];exact hcl _ _ (fx 1 (by omega))) (by simp)
   have x2:wr.cell? ⟨b0,o0+k*5+2,none⟩=some (.bool u.nl):=HKW.o.some_ (by rw[Nat.add_assoc];exact hcl _ _ (fx 2 (by omega))) (by simp)
   have x3:wr.cell? ⟨b0,o0+k*5+3,none⟩=some (.bool u.ap):=HKW.o.some_ (by rw[Nat.add_assoc];exact hcl _ _ (fx 3 (by omega))) (by simp)
   have x4:wr.cell? ⟨b0,o0+k*5+4,none⟩=some (.int .i64 u.handling):=HKW.o.some_ (by rw[Nat.add_assoc];exact hcl _ _ (fx 4 (by omega))) (by simp)
   clear hcl fx
   go_wp2_with fail
   go_fit (fits8_c _ u)
   exact zS0
  ·exact zS1
theorem fits6_c (N:Nat→Prop) (w:World) (va:Value) (l:List (List UInt8)) (ha:BytessAt N w va l):Calls prog 14 #[va] w (Yes w (FAll FByt l)):=by
 obtain⟨xs,⟨A,ca,rfl,hra,hca,hA⟩,hx⟩:=ha
 have HR:=hH hra
 have HX:=hH hx
 clear hra hA hx
 go_enter func14,ntmps14
 by_cases q1:2147483647<l.length
 ·exact zS2
 have d1:decide ((2147483647:Int)<(l.length:Int))=false:=decide_eq_false (by omega)
 go_wp2_with fail
 go_loopg [10] (l.length+1) (fun gk i wr=>FRel FByt l w gk i wr)
 case atStart=>exact⟨0,rfl,by omega,by omega,by simp,Keeps.refl _ _⟩
 case round=>
  obtain⟨k,rfl,hk,hgk,hok,hkw⟩:=hrel
  have HOK:=hH hok
  have HKW:=hH hkw
  clear hok hkw
  by_cases hlt:k<l.length
  ·obtain⟨g',rfl⟩:∃g',gk=g'+1:=⟨gk-1,by omega⟩
   have hltz:(k:Int)<(l.length:Int):=by omega
   obtain⟨u,hu⟩:∃u,l[k]?=some u:=⟨_,List.getElem?_eq_getElem hlt⟩
   have HU:=hH hu
   obtain⟨uv,hx1,B1,d1,rfl,_⟩:=HX.o k u hu
   obtain⟨b0,o0,rfl,hcl⟩:=HR.o.2 (by omega)
   have x0:wr.cell? ⟨b0,o0+k,none⟩=some (.slice B1 u.length d1):=HKW.o.some_ (hcl _ _ hx1) (by simp)
   clear hcl hx1 hu
   by_cases q2:2147483647<u.length
   ·have d2:decide ((2147483647:Int)<(u.length:Int))=true:=decide_eq_true (by omega)
    go_wp2_with fail
    go_ret
    exact yes_no rfl HKW.o
   have d2:decide ((2147483647:Int)<(u.length:Int))=false:=decide_eq_false (by omega)
   go_wp2_with fail
   go_roundg g'
   case measure=>omega
   case rel=>exact⟨k+1,by go_num,by omega,by omega,mem_take_succ HU.o HOK.o (by show _≤_;omega),HKW.o⟩
  ·exact zS1
theorem fits3_c (N:Nat→Prop) (w:World) (u:WillV) (A1:Option Addr) (k1:Nat) (A4:Option Addr) (k4:Nat) (h4:PropsAt N w (.slice A4 u.props.length k4) u.props):Calls prog 37 #[.agg #[.string u.topic,.slice A1 u.payload.length k1,.int .i64 u.qos,.bool u.retain,.slice A4 u.props.length k4]] w (Yes w (FWill u)):=by
 have HP:Hd (∀w',Keeps [] w w'→PropsAt N w' (.slice A4 u.props.length k4) u.props):=fun w' k=>h4.keep k (by simp)
 clear h4
 go_enter func37,ntmps37
 by_cases q1:2147483647<u.topic.size
 ·have d1:decide ((2147483647:Int)<(u.topic.size:Int))=true:=decide_eq_true (by omega)
  exact zS3
 have d1:decide ((2147483647:Int)<(u.topic.size:Int))=false:=decide_eq_false (by omega)
 by_cases q2:2147483647<u.payload.length
 ·have d2:decide ((2147483647:Int)<(u.payload.length:Int))=true:=decide_eq_true (by omega)
  exact zS3
 have d2:decide ((2147483647:Int)<(u.payload.length:Int))=false:=decide_eq_false (by omega)
 go_wp2_with fail
 go_fit (fits4_c N _ _ u.props (HP.o _ (Keeps.alloc _ _)))
 rintro e w2 ⟨b,rfl,hb,hk2⟩
 have HKX:=hH ((Keeps.alloc w _).trans hk2 (by simp))
 clear hk2
 cases b
 ·go_wp2_with fail
  go_ret
  exact yes_no rfl HKX.o
 ·have HB:=hH (hb rfl)
  clear hb
  go_wp2_with fail
  go_ret
  exact⟨true,rfl,fun _=>⟨by omega,by omega,HB.o⟩,HKX.o⟩
theorem fits2_c (N:Nat→Prop) (w:World) (va:Value) (l:List WillV) (ha:WillsAt N w va l):Calls prog 13 #[va] w (Yes w (FAll FWill l)):=by
 obtain⟨xs,⟨A,ca,rfl,hra,hca,hA⟩,hx⟩:=ha
 have HR:=hH hra
 have HX:=hH hx
 clear hra hA hx
 go_enter func13,ntmps13
 by_cases q1:2147483647<l.length
 ·exact zS2
 have d1:decide ((2147483647:Int)<(l.length:Int))=false:=decide_eq_false (by omega)
 go_wp2_with fail
 go_loopg [10] (l.length+1) (fun gk i wr=>FRel FWill l w gk i wr)
 case atStart=>exact⟨0,rfl,by omega,by omega,by simp,Keeps.refl _ _⟩
 case round=>
  obtain⟨k,rfl,hk,hgk,hok,hkw⟩:=hrel
  have HOK:=hH hok
  have HKW:=hH hkw
  clear hok hkw
  by_cases hlt:k<l.length
  ·obtain⟨g',rfl⟩:∃g',gk=g'+1:=⟨gk-1,by omega⟩
   have hltz:(k:Int)<(l.length:Int):=by omega
   obtain⟨u,hu⟩:∃u,l[k]?=some u:=⟨_,List.getElem?_eq_getElem hlt⟩
   have HU:=hH hu
   obtain⟨f0,⟨y1,f1,A1,k1,rfl,r1,_⟩,f2,f3,y4,f4,A4,k4,rfl,r4,n4,h4⟩:=HX.o k u hu
   obtain⟨b0,o0,rfl,hcl⟩:=HR.o.2 (by omega)
   clear hu
   have x0:wr.cell? ⟨b0,o0+k*5,none⟩=some (.string u.topic):=HKW.o.some_ (hcl _ _ f0) (by simp)
   have x1:wr.cell? ⟨b0,o0+k*5+1,none⟩=some (.slice A1 u.payload.length k1):=HKW.o.some_ (by rw[Nat.add_assoc];exact hcl _ _ f1) (by simp)
   have x2:wr.cell? ⟨b0,o0+k*5+2,none⟩=some (.int .i64 u.qos):=HKW.o.some_ (by rw[Nat.add_assoc];exact hcl _ _ f2) (by simp)
   have x3:wr.cell? ⟨b0,o0+k*5+3,none⟩=some (.bool u.retain):=HKW.o.some_ (by rw[Nat.add_assoc];exact hcl _ _ f3) (by simp)
   have x4:wr.cell? ⟨b0,o0+k*5+4,none⟩=some (.slice A4 u.props.length k4):=HKW.o.some_ (by rw[Nat.add_assoc];exact hcl _ _ f4) (by simp)
   have HP4:Hd (SlAt N w (.slice A4 u.props.length k4) 4 u.props.length (u.props.flatMap PropV.cells)):=⟨A4,k4,rfl,r4,n4,h4⟩
   clear hcl f0 f1 f2 f3 f4 r1 r4 h4
   go_wp2_with fail
   go_fit (fits3_c N _ u A1 k1 A4 k4 (SlAt.keep HP4.o (HKW.o.trans (Keeps.alloc wr _) (by simp)) (by simp)))
   exact zS0
  ·exact zS1
theorem zS4 {p:Prop} (h:p:=by
 go_wp2_with fail
 go_ret
 exact yes_no rfl HK.o
 ):p:=h
theorem fits_c (N:Nat→Prop) (w:World) (p:PkV) (v:Nat→Value) (hm:PkMem N w p v):Calls prog 4 #[.agg (p.cells v)] w (Yes w (Fits p)):=by
 obtain⟨W,hW⟩:∃W,w.alloc (.cells (p.cells v) 29)=W:=⟨_,rfl⟩
 have HK:Hd (Keeps [] w W):=by rw[←hW];exact Keeps.alloc _ _
 have HBP:Hd (Blk W w.heap.size 29 (p.cells v)):=by rw[←hW];exact Blk.new _ _ _
 have HM:=hH (hm.keep HK.o (by simp))
 have HW:=hH hW
 clear hm hW
 obtain⟨A7,c7,e7,_⟩:=HM.o.m7
 obtain⟨A18,c18,e18,_⟩:=HM.o.m18
 have hCELL:∀w',Keeps [] W w'→w'.cell? ⟨w.heap.size,6,none⟩=some (.string p.topic)∧w'.cell? ⟨w.heap.size,7,none⟩=some (.slice A7 p.payload.length c7)∧w'.cell? ⟨w.heap.size,8,none⟩=some (.string p.name)∧w'.cell? ⟨w.heap.size,10,none⟩=some (.string p.client)∧w'.cell? ⟨w.heap.size,13,none⟩=some (v 13)∧w'.cell? ⟨w.heap.size,14,none⟩=some (v 14)∧w'.cell? ⟨w.heap.size,15,none⟩=some (v 15)∧w'.cell? ⟨w.heap.size,18,none⟩=some (.slice A18 p.codes.length c18)∧w'.cell? ⟨w.heap.size,19,none⟩=some (v 19)∧w'.cell? ⟨w.heap.size,20,none⟩=some (v 20):=fun w' k=>by
  have h:=(HBP.o.keep k (by simp)).cell
  refine⟨by rw[h];rfl,by rw[h,←e7];rfl,by rw[h];rfl,by rw[h];rfl,by rw[h];rfl,by rw[h];rfl,by rw[h];rfl,by rw[h,←e18];rfl,by rw[h];rfl,by rw[h];rfl⟩
 have HCELL:=hH hCELL
 clear hCELL e7 e18
 go_enter func4,ntmps4
 go_upto_region 1 with fail
 rw[HW.o]
 clear HW
 obtain⟨c6,c7',c8,c10,c13,c14,c15,c18',c19,c20⟩:=HCELL.o W (Keeps.refl _ _)
 by_cases q1:2147483647<p.topic.size
 ·have d1:decide ((2147483647:Int)<(p.topic.size:Int))=true:=decide_eq_true (by omega)
  exact zS4
 have d1:decide ((2147483647:Int)<(p.topic.size:Int))=false:=decide_eq_false (by omega)
 by_cases q2:2147483647<p.payload.length
 ·have d2:decide ((2147483647:Int)<(p.payload.length:Int))=true:=decide_eq_true (by omega)
  exact zS4
 have d2:decide ((2147483647:Int)<(p.payload.length:Int))=false:=decide_eq_false (by omega)
 by_cases q3:2147483647<p.name.size
 ·have d3:decide ((2147483647:Int)<(p.name.size:Int))=true:=decide_eq_true (by omega)
  exact zS4
 have d3:decide ((2147483647:Int)<(p.name.size:Int))=false:=decide_eq_false (by omega)
 by_cases q4:2147483647<p.client.size
 ·have d4:decide ((2147483647:Int)<(p.client.size:Int))=true:=decide_eq_true (by omega)
  exact zS4
 have d4:decide ((2147483647:Int)<(p.client.size:Int))=false:=decide_eq_false (by omega)
 go_wp2_with fail
 go_fit (fits2_c N _ _ p.will (HM.o.m13))
 rintro e w13 ⟨b,rfl,hb,hk⟩
 have HQ13:=hH (hk)
 clear hk c6 c7' c8 c10 c13 c14 c15 c18' c19 c20
 obtain⟨c6,c7',c8,c10,c13,c14,c15,c18',c19,c20⟩:=HCELL.o w13 HQ13.o
 have HF13:=hH (HK.o.trans HQ13.o (by simp))
 cases b
 ·go_wp2_with fail
  go_ret
  exact yes_no rfl HF13.o
 have B13:=hH (hb rfl)
 clear hb
 go_wp2_with fail
 go_fit (fits6_c N _ _ p.user (HM.o.m14.keep HQ13.o (by simp)))
 rintro e w14 ⟨b,rfl,hb,hk⟩
 have HQ14:=hH (HQ13.o.trans hk (by simp))
 clear hk c6 c7' c8 c10 c13 c14 c15 c18' c19 c20
 obtain⟨c6,c7',c8,c10,c13,c14,c15,c18',c19,c20⟩:=HCELL.o w14 HQ14.o
 have HF14:=hH (HK.o.trans HQ14.o (by simp))
 cases b
 ·go_wp2_with fail
  go_ret
  exact yes_no rfl HF14.o
 have B14:=hH (hb rfl)
 clear hb
 go_wp2_with fail
 go_fit (fits6_c N _ _ p.pass (HM.o.m15.keep HQ14.o (by simp)))
 rintro e w15 ⟨b,rfl,hb,hk⟩
 have HQ15:=hH (HQ14.o.trans hk (by simp))
 clear hk c6 c7' c8 c10 c13 c14 c15 c18' c19 c20
 obtain⟨c6,c7',c8,c10,c13,c14,c15,c18',c19,c20⟩:=HCELL.o w15 HQ15.o
 have HF15:=hH (HK.o.trans HQ15.o (by simp))
 cases b
 ·go_wp2_with fail
  go_ret
  exact yes_no rfl HF15.o
 have B15:=hH (hb rfl)
 clear hb
 by_cases q9:2147483647<p.codes.length
 ·have d9:decide ((2147483647:Int)<(p.codes.length:Int))=true:=decide_eq_true (by omega)
  go_wp2_with fail
  go_ret
  exact yes_no rfl HF15.o
 have d9:decide ((2147483647:Int)<(p.codes.length:Int))=false:=decide_eq_false (by omega)
 go_wp2_with fail
 go_fit (fits7_c N _ _ p.subs (SlAt.keep HM.o.m19 HQ15.o (by simp)))
 rintro e w19 ⟨b,rfl,hb,hk⟩
 have HQ19:=hH (HQ15.o.trans hk (by simp))
 clear hk c6 c7' c8 c10 c13 c14 c15 c18' c19 c20
 obtain⟨c6,c7',c8,c10,c13,c14,c15,c18',c19,c20⟩:=HCELL.o w19 HQ19.o
 have HF19:=hH (HK.o.trans HQ19.o (by simp))
 cases b
 ·go_wp2_with fail
  go_ret
  exact yes_no rfl HF19.o
 have B19:=hH (hb rfl)
 clear hb
 go_wp2_with fail
 go_fit (fits4_c N _ _ p.props (HM.o.m20.keep HQ19.o (by simp)))
 rintro e w20 ⟨b,rfl,hb,hk⟩
 have HQ20:=hH (HQ19.o.trans hk (by simp))
 clear hk c6 c7' c8 c10 c13 c14 c15 c18' c19 c20
 obtain⟨c6,c7',c8,c10,c13,c14,c15,c18',c19,c20⟩:=HCELL.o w20 HQ20.o
 have HF20:=hH (HK.o.trans HQ20.o (by simp))
 cases b
 ·go_wp2_with fail
  go_ret
  exact yes_no rfl HF20.o
 have B20:=hH (hb rfl)
 clear hb
 go_wp2_with fail
 go_ret
 exact⟨true,rfl,fun _=>⟨by omega,by omega,by omega,by omega,B13.o,B14.o,B15.o,by omega,B19.o,B20.o⟩,HF20.o⟩
theorem Fits.lim {p:PkV} (h:Fits p) (hn:∀x∈p.props,x.n<4294967296) (hw:∀u∈p.will,∀x∈u.props,x.n<4294967296):PkLim p:=by
 have hp:∀(l:List PropV),FAll FProp l→(∀x∈l,x.n<4294967296)→∀x∈l,PLim x:=fun l hl hn x hx=>⟨hn x hx,by have:=(hl.all x hx).t;omega,by have:=(hl.all x hx).o;omega⟩
 have b:∀{n:Nat},n≤2147483647→n≤140737488355328:=fun h=>by omega
 exact⟨b h.topic,b h.client,b h.payload,b h.will.len,fun u hu=>have k:=h.will.all u hu;⟨b k.t,b k.y,b k.p.len,hp _ k.p (hw u hu)⟩,b h.user.len,fun u hu=>b (h.user.all u hu),b h.pass.len,fun u hu=>b (h.pass.all u hu),b h.codes,b h.subs.len,fun u hu=>b (h.subs.all u hu),b h.props.len,hp _ h.props hn⟩
theorem info100:(prog.info? 100).map (fun i=>(i.zero,i.size,i.bytes))=some (some (.agg #[.int .i64 0,.int .u32 0,.string ⟨#[]⟩,.string ⟨#[]⟩]),4,48):=by kernel_rfl
def PrOut (w:World) (l:List PropV) (e:Ending) (w':World):Prop:=∃A c,e=.returned (.slice A l.length c)∧SlAt AllB w' (.slice A l.length c) 4 l.length (l.flatMap PropV.cells)∧(∀a,A=some a→w.heap.size≤a.block)∧Keeps [] w w'
def QRel (l:List PropV) (w:World) (gk:Nat) (o i:Value) (wr:World):Prop:=
 ∃(k:Nat) (A:Option Addr) (c:Nat),i=.int .i64 (k:Int)∧o=.slice A k c∧k≤l.length∧l.length<gk+k∧wr.ownsRow 0 100 4 (.slice A k c) k ((l.take k).flatMap PropV.cells)∧(∀q,A.map (·.block)=some q→w.heap.size≤q)∧Keeps [] w wr
theorem q_next {l:List PropV} {w W w1:World} {k g':Nat} {u:PropV} {A A1:Option Addr} {c c1:Nat} (hu:l[k]?=some u) (hlt:k<l.length) (hg:l.length<g'+1+k) (hA:∀q,A.map (·.block)=some q→w.heap.size≤q) (hk:Keeps [] w W)
 (ho:w1.ownsRow 0 100 4 (.slice A1 (k+1) c1) (k+1) ((l.take k).flatMap PropV.cells++u.cells)) (hk1:Keeps (Value.slice A k c).ownBlock.toList W w1) (hd:A1.map (·.block)=(Value.slice A k c).ownBlock∨A1.map (·.block)=some W.heap.size):
 QRel l w g' (.slice A1 (k+1) c1) (.int .i64 ((k:Int)+1)) w1:=by
 rw[own_slice] at hk1 hd
 refine⟨k+1,A1,c1,by simp,rfl,hlt,by omega,?_,?_,hk.trans hk1 ?_⟩
 ·rw[List.take_add_one,hu]
  simpa using ho
 ·intro q hq
  rcases hd with h|h
  ·exact hA q (by rw[←h];exact hq)
  ·rw[h] at hq;injection hq with hq;have:=hk.size;omega
 ·intro x hx
  exact .inr (hA x (Option.mem_toList.1 hx))
theorem props_c (N:Nat→Prop) (w:World) (va:Value) (l:List PropV) (ha:PropsAt N w va l) (hl:l.length≤2147483647):Calls prog 17 #[va] w (PrOut w l):=by
 obtain⟨A,ca,rfl,hra,hca,hA⟩:=ha
 obtain⟨i0,hi0,hz0,hz1,hz2⟩:=info_parts info100
 have HR:=hH hra
 have HI0:=hH hi0
 have HZ0:=hH hz0
 have HZ1:=hH hz1
 have HZ2:=hH hz2
 clear hra hA hi0 hz0 hz1 hz2
 go_enter func17,ntmps17
 go_wp2_with fail
 go_loopg [3,8] (l.length+1) (fun gk o i wr=>QRel l w gk o i wr)
 case atStart=>exact⟨0,none,0,rfl,rfl,by omega,by omega,by simpa using World.ownsRow_nil w 0 100 4,by simp,Keeps.refl _ _⟩
 case round=>
  obtain⟨k,A1,c1,rfl,rfl,hk,hgk,hown,hA1,hkw⟩:=hrel
  have HOWN:=hH hown
  have HA1:=hH hA1
  have HKW:=hH hkw
  clear hown hA1 hkw
  by_cases hlt:k<l.length
  ·obtain⟨g',rfl⟩:∃g',gk=g'+1:=⟨gk-1,by omega⟩
   have hltz:(k:Int)<(l.length:Int):=by omega
   obtain⟨u,hu⟩:∃u,l[k]?=some u:=⟨_,List.getElem?_eq_getElem hlt⟩
   have HU:=hH hu
   have fx:=flat4_get l k u hu
   obtain⟨b0,o0,rfl,hcl⟩:=HR.o.2 (by omega)
   clear hu
   have x0:wr.cell? ⟨b0,o0+k*4,none⟩=some (.int .i64 u.id):=HKW.o.some_ (hcl _ _ (fx 0 (by omega))) (by simp)
   have x1:wr.cell? ⟨b0,o0+k*4+1,none⟩=some (.int .u32 (u.n:Int)):=HKW.o.some_ (by rw[Nat.add_assoc];exact hcl _ _ (fx 1 (by omega))) (by simp)
   have x2:wr.cell? ⟨b0,o0+k*4+2,none⟩=some (.string u.text):=HKW.o.some_ (by rw[Nat.add_assoc];exact hcl _ _ (fx 2 (by omega))) (by simp)
   have x3:wr.cell? ⟨b0,o0+k*4+3,none⟩=some (.string u.other):=HKW.o.some_ (by rw[Nat.add_assoc];exact hcl _ _ (fx 3 (by omega))) (by simp)
   clear hcl fx
   go_upto_region 5 with fail
   have HNB:=hH (Blk.new wr 98 #[.int .i64 u.id,.int .u32 (u.n:Int),.string u.text,.string u.other])
   have HKV:=hH (HKW.o.trans (Keeps.alloc wr (.cells #[.int .i64 u.id,.int .u32 (u.n:Int),.string u.text,.string u.other] 98)) (by simp))
   have HO5:=hH (HOWN.o.alloc (.cells #[.int .i64 u.id,.int .u32 (u.n:Int),.string u.text,.string u.other] 98))
   generalize wr.alloc (.cells #[.int .i64 u.id,.int .u32 (u.n:Int),.string u.text,.string u.other] 98)=W5 at*
   generalize wr.heap.size=nb at*
   clear x0 x1 x2 x3
   have y0:W5.cell? ⟨nb,0,none⟩=some (.int .i64 u.id):=by rw[HNB.o.cell];rfl
   have y1:W5.cell? ⟨nb,1,none⟩=some (.int .u32 (u.n:Int)):=by rw[HNB.o.cell];rfl
   have y2:W5.cell? ⟨nb,2,none⟩=some (.string u.text):=by rw[HNB.o.cell];rfl
   have y3:W5.cell? ⟨nb,3,none⟩=some (.string u.other):=by rw[HNB.o.cell];rfl
   have HRN:Hd (Rd (W5.alloc (.cells #[.int .i64 u.id,.int .u32 (u.n:Int),.string u.text,.string u.other] 100)) 4 (some ⟨W5.heap.size,0,none⟩) 1 [.int .i64 u.id,.int .u32 (u.n:Int),.string u.text,.string u.other]):=rd_new W5 100 #[.int .i64 u.id,.int .u32 (u.n:Int),.string u.text,.string u.other] 4 1 rfl
   have HON:=hH (HO5.o.alloc (.cells #[.int .i64 u.id,.int .u32 (u.n:Int),.string u.text,.string u.other] 100))
   go_wp2_with (at_builtin;refine wpList_append_rd _ rfl (.tmp 12) (.tmp 22) 33 rfl 100 i0 _ 4 48 underlying33 HI0.o HZ0.o HZ1.o HZ2.o rfl (by decide) (.slice A1 k c1) k _ rfl HON.o _ 1 1 _ rfl HRN.o (by intro u hu;simp at hu;rcases hu with rfl|rfl|rfl|rfl<;>rfl) (by omega) (by unfold maxLen;omega) ?_;intro A2 c2 w2 ho2 hk2 hd2;have HQ:=hH (q_next HU.o hlt hgk HA1.o (HKV.o.trans (Keeps.alloc W5 _) (by simp)) ho2 hk2 hd2);clear ho2 hk2 hd2)
   go_roundg g'
   case measure=>omega
   case rel=>exact HQ.o
  ·have hkl:k=l.length:=by omega
   subst hkl
   go_wp2_with fail
   go_ret
   have ho:=HOWN.o
   rw[List.take_length] at ho
   refine⟨A1,c1,rfl,⟨A1,c1,rfl,own_rd ho,own_cap2 ho,fun a ha _=>⟨own_lt ho a.block (by rw[ha];rfl),trivial⟩⟩,fun a ha=>HA1.o a.block (by rw[ha];rfl),HKW.o⟩
end Go.Proofs.YtkglmacaecmhdaaGreatDoor
