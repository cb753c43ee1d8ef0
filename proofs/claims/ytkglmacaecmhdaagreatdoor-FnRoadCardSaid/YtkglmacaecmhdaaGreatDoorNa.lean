/- FnRoad, part Na: the walks of L7. -/
import Derived.Test.YtkglmacaecmhdaaGreatDoorL
import Derived.Test.YtkglmacaecmhdaaGreatDoorM
import Derived.Test.YtkglmacaecmhdaaGreatDoorN
set_option linter.unusedVariables false
set_option linter.unusedSimpArgs false
set_option maxHeartbeats 16000000
set_option maxRecDepth 100000
namespace Go.Proofs.YtkglmacaecmhdaaGreatDoor
open Go Go.RowKit Tryz
structure WLim (u:WillV):Prop where
 t:u.topic.size≤140737488355328
 y:u.payload.length≤140737488355328
 l:u.props.length≤140737488355328
 p:∀x∈u.props,PLim x
structure PkLim (p:PkV):Prop where
 topic:p.topic.size≤140737488355328
 client:p.client.size≤140737488355328
 payload:p.payload.length≤140737488355328
 will:p.will.length≤140737488355328
 wills:∀u∈p.will,WLim u
 user:p.user.length≤140737488355328
 users:∀u∈p.user,u.length≤140737488355328
 pass:p.pass.length≤140737488355328
 passes:∀u∈p.pass,u.length≤140737488355328
 codes:p.codes.length≤140737488355328
 subs:p.subs.length≤140737488355328
 filters:∀u∈p.subs,u.filter.size≤140737488355328
 props:p.props.length≤140737488355328
 propl:∀x∈p.props,PLim x
theorem PkLim.lens {p:PkV} (h:PkLim p):Lens p:=
 ⟨h.will,h.user,h.pass,h.codes,h.subs,h.props,fun u hu=>⟨(h.wills u hu).l,(h.wills u hu).t,fun x hx=>⟨((h.wills u hu).p x hx).t,((h.wills u hu).p x hx).o⟩⟩⟩
structure WillOK (ver:Int) (u:WillV):Prop where
 topic:TopicOK u.topic
 payload:u.payload.length≤1000
 qos:0≤u.qos∧u.qos≤2
 props:ProperL 16 u.props
 v4:ver=4→u.props=[]
theorem info22:(prog.info? 22).map (fun i=>(i.zero,i.size,i.bytes))=some (some (.slice none 0 0),1,24):=by kernel_rfl
theorem own_empty {w:World} {q:Nat} {e:TypeId} {size:Nat} (h:Blk w q e #[]):w.ownsRow 0 e size (.slice (some ⟨q,0,none⟩) 0 0) 0 []:=by
 refine⟨by simp,.inr ⟨q,0,#[],rfl,Nat.zero_le _,h,by simp,by simp⟩⟩
structure ConnOK (p:PkV):Prop where
 keep:0≤p.keep∧p.keep≤65535
 client:TextOK p.client∧p.client.size≤200
 will:p.will.length≤1
 user:p.user.length≤1
 pass:p.pass.length≤1
 wills:∀u∈p.will,WillOK p.version u
 users:∀u∈p.user,u.length≤200
 passes:∀u∈p.pass,u.length≤200
def WRel (p:PkV) (W:World) (gk:Nat) (i:Value) (wr:World):Prop:=∃k,i=.int .i64 ((k:Nat):Int)∧k≤p.will.length∧p.will.length<gk+k∧(∀u∈p.will.take k,WillOK p.version u)∧Keeps [] W wr
def BRel (l:List (List UInt8)) (W:World) (gk:Nat) (i:Value) (wr:World):Prop:=∃k,i=.int .i64 ((k:Nat):Int)∧k≤l.length∧l.length<gk+k∧(∀u∈l.take k,u.length≤200)∧Keeps [] W wr
def URel2 (l:List (List UInt8)) (W:World) (gk:Nat) (i:Value) (wr:World):Prop:=∃k,i=.int .i64 ((k:Nat):Int)∧k≤l.length∧l.length<gk+k∧Keeps [] W wr
theorem mem_take_succ {α:Type} {l:List α} {k:Nat} {x:α} {Q:α→Prop} (hx:l[k]?=some x) (h:∀u∈l.take k,Q u) (hq:Q x):∀u∈l.take (k+1),Q u:=by
 intro u hu
 rw[List.take_add_one,hx] at hu
 rcases List.mem_append.1 hu with hu|hu
 ·exact h u hu
 ·simp at hu;subst hu;exact hq
theorem zNa3 {p:Prop} (h:p:=by
 intro w hSw;(try dsimp only at hSw);go_simp;try with_reducible rfl
 ):p:=h
theorem zNa0 {p:Prop} (h:p:=by
 as_aux_lemma=>
 have hwk:p.will.take k=p.will:=List.take_of_length_le (by omega)
 have hok:=HOK.o
 rw[hwk] at hok
 have HWOK:=hH hok
 clear hok hwk HOK
 have HME:Hd (∀(i:Nat) (ys:List UInt8),(p.user++p.pass)[i]?=some ys→∃A c,(xu++xp)[i]?=some (Value.slice A ys.length c)):=by
  intro i ys hi
  have hux:xu.length=p.user.length:=by rw[R14.o.1,Nat.mul_one]
  by_cases hlt2:i<p.user.length
  ·rw[List.getElem?_append_left hlt2] at hi
   obtain⟨u,h1,A,c,rfl,_⟩:=M14.o i ys hi
   exact⟨A,c,by rw[List.getElem?_append_left (by omega)];exact h1⟩
  ·rw[List.getElem?_append_right (by omega)] at hi
   obtain⟨u,h1,A,c,rfl,_⟩:=M15.o _ ys hi
   exact⟨A,c,by rw[List.getElem?_append_right (by omega),hux];exact h1⟩
 have HC1:Hd (∀u∈xu,u.oneCell'=true):=by
  intro u hu
  obtain⟨i,hi,rfl⟩:=List.mem_iff_getElem.1 hu
  obtain⟨v,h1,A,c,rfl,_⟩:=M14.o i _ (List.getElem?_eq_getElem (by have:=R14.o.1;omega))
  rw[List.getElem?_eq_getElem hi] at h1;injection h1 with h1;rw[h1];rfl
 have HC2:Hd (∀u∈xp,u.oneCell'=true):=by
  intro u hu
  obtain⟨i,hi,rfl⟩:=List.mem_iff_getElem.1 hu
  obtain⟨v,h1,A,c,rfl,_⟩:=M15.o i _ (List.getElem?_eq_getElem (by have:=R15.o.1;omega))
  rw[List.getElem?_eq_getElem hi] at h1;injection h1 with h1;rw[h1];rfl
 obtain⟨i22,hi22,z1,z2,z3⟩:=info_parts info22
 have HI22:=hH hi22
 have Z1:=hH z1
 have Z2:=hH z2
 have Z3:=hH z3
 clear hi22 z1 z2 z3
 go_upto_region 9 with fail
 have hS:∀w',Keeps [] W w'→(w'.cell? ⟨w.heap.size,12,none⟩=some (.slice A14 p.user.length c14)∧w'.cell? ⟨w.heap.size,13,none⟩=some (.slice A15 p.pass.length c15)∧Keeps [] W w'):=fun w' k=>⟨(HCELL.o _ k).2.2.2.2.1,(HCELL.o _ k).2.2.2.2.2,k⟩
 have hkd:=HKW.o.trans (Keeps.drew wr) (by simp)
 refine wp_region_held_drew (S:=(fun w'=>w'.cell? ⟨w.heap.size,12,none⟩=some (.slice A14 p.user.length c14)∧w'.cell? ⟨w.heap.size,13,none⟩=some (.slice A15 p.pass.length c15)∧Keeps [] W w')) (by kernel_rfl) (hS _ hkd) (fun hHeld=>?_)
 change wpAnyH _ _ _ _ _ 9 #[false,false,false,false,false,false,false,false,false] _ _
 generalize hwd:wr.drew=wd at*
 refine wpAnyH_take (fuel:=8) (i:=1) (oi:=⟨(some 107),_,_,_,_,_⟩) (v:=?_) rfl (by kernel_rfl) (by kernel_rfl) (by kernel_rfl) (fun _ _ _ h=>h) (Or.inl ⟨by rfl,?_⟩) (by assumption) ?_
 rotate_left 1
 ·exact zNa3
 try simp only[Act.put,s1,s2,s3]
 refine wpAnyH_take (fuel:=7) (i:=2) (oi:=⟨(some 108),_,_,_,_,_⟩) (v:=?_) rfl (by kernel_rfl) (by kernel_rfl) (by kernel_rfl) (fun _ _ _ h=>h) (Or.inl ⟨by rfl,?_⟩) (by assumption) ?_
 rotate_left 1
 ·exact zNa3
 try simp only[Act.put,s1,s2,s3]
 refine wpAnyH_take (fuel:=6) (i:=4) (oi:=⟨(some 110),_,_,_,_,_⟩) (v:=?_) rfl (by kernel_rfl) (by kernel_rfl) (by kernel_rfl) (fun _ _ _ h=>h) (Or.inl ⟨by rfl,?_⟩) (by assumption) ?_
 rotate_left 1
 ·exact zNa3
 try simp only[Act.put,s1,s2,s3]
 refine wpAnyH_take (fuel:=5) (i:=5) (oi:=⟨(some 111),_,_,_,_,_⟩) (v:=?_) rfl (by kernel_rfl) (by kernel_rfl) (by kernel_rfl) (fun _ _ _ h=>h) (Or.inl ⟨by rfl,?_⟩) (by assumption) ?_
 rotate_left 1
 ·exact zNa3
 try simp only[Act.put,s1,s2,s3]
 refine wpAnyH_take (fuel:=4) (i:=8) (oi:=⟨(some 114),_,_,_,_,_⟩) (v:=?_) rfl (by kernel_rfl) (by kernel_rfl) (by kernel_rfl) (fun _ _ _ h=>h) (Or.inl ⟨by rfl,?_⟩) (by assumption) ?_
 rotate_left 1
 ·exact zNa3
 try simp only[Act.put,s1,s2,s3]
 refine wpAnyH_ready (fuel:=3) (rs:=[0]) (by kernel_rfl) (by simp) ?_
 refine AllReadyH.cons (o:=⟨some 106,_,_,_,_,_⟩) rfl (fun K hK=>?_) AllReadyH.nil
 rw[if_pos (by rfl)]
 go_simp
 have hkb:=hkd.trans (Keeps.alloc wd (.cells #[] 22)) (by simp)
 have hown0:(wd.alloc (.cells #[] 22)).ownsRow 0 22 1 (.slice (some ⟨wd.heap.size,0,none⟩) 0 0) 0 []:=own_empty (Blk.new wd 22 #[])
 have hwds:W.heap.size≤wd.heap.size:=hkd.size
 have hHeld2:=hS _ hkb
 clear hHeld
 refine hK.out _ _ hHeld2 (fun hHeld=>?_)
 clear hK K
 try simp only[Act.put,s1,s2,s3]
 generalize wd.alloc (.cells #[] 22)=we at*
 generalize wd.heap.size=nb at*
 refine wpAnyH_ready (fuel:=2) (rs:=[3]) (by kernel_rfl) (by simp) ?_
 refine AllReadyH.cons (o:=⟨some 109,_,_,_,_,_⟩) rfl (fun K hK=>?_) AllReadyH.nil
 rw[if_pos (by rfl)]
 refine wp_append_rd we (.tmp 106) (.tmp 108) 24 rfl 22 i22 (.slice none 0 0) 1 24 underlying24 HI22.o Z1.o Z2.o Z3.o rfl (by decide) (.slice (some ⟨nb,0,none⟩) 0 0) 0 [] rfl hown0 A14 p.user.length c14 xu rfl (R14.o.keep hkb (by simp)) HC1.o (by omega) (by unfold maxLen;omega) (fun A1 k1 wf hown1 hk1' hat1=>?_)
 have hkf:Keeps [] W wf:=hkb.trans hk1' (by intro x hx;refine .inr ?_;(have:x=nb:=by simpa [Value.ownBlock] using hx);omega)
 have hnf:∀q,A1.map (·.block)=some q→W.heap.size≤q:=fun q hq=>by
  have hs:=hkb.size
  rcases hat1 with h|h
  ·rw[h] at hq;have:nb=q:=by simpa [Value.ownBlock] using hq
   omega
  ·rw[h] at hq;injection hq with hq;omega
 simp only[Nat.zero_add,List.nil_append] at hown1 ⊢
 have hHeld2:=hS _ hkf
 clear hHeld
 refine hK.out _ _ hHeld2 (fun hHeld=>?_)
 clear hK K
 try simp only[Act.put,s1,s2,s3]
 refine wpAnyH_ready (fuel:=1) (rs:=[6]) (by kernel_rfl) (by simp) ?_
 refine AllReadyH.cons (o:=⟨some 112,_,_,_,_,_⟩) rfl (fun K hK=>?_) AllReadyH.nil
 rw[if_pos (by rfl)]
 refine wp_append_rd wf (.tmp 109) (.tmp 111) 24 rfl 22 i22 (.slice none 0 0) 1 24 underlying24 HI22.o Z1.o Z2.o Z3.o rfl (by decide) (.slice A1 p.user.length k1) p.user.length xu rfl hown1 A15 p.pass.length c15 xp rfl (R15.o.keep hkf (by simp)) HC2.o (by omega) (by unfold maxLen;omega) (fun A2 k2 wg hown2 hk2' hat2=>?_)
 have hkg:Keeps [] W wg:=hkf.trans hk2' (by intro x hx;rw[own_slice] at hx;exact .inr (hnf x (Option.mem_toList.1 hx)))
 have hHeld2:=hS _ hkg
 clear hHeld
 refine hK.out _ _ hHeld2 (fun hHeld=>?_)
 clear hK K
 try simp only[Act.put,s1,s2,s3]
 refine wpAnyH_take (fuel:=0) (i:=7) (oi:=⟨(some 113),_,_,_,_,_⟩) (v:=?_) rfl (by kernel_rfl) (by kernel_rfl) (by kernel_rfl) (fun _ _ _ h=>h) (Or.inl ⟨by rfl,?_⟩) (by assumption) ?_
 rotate_left 1
 ·exact zNa3
 try simp only[Act.put,s1,s2,s3]
 refine wpAnyH_done (by kernel_rfl) ?_ _
 have HR2:=hH (own_rd hown2)
 have HKG:=hH hkg
 clear hS hHeld hHeld2 hown2 hk2' hat2 hkg hkf hnf hown1 hk1' hat1 hkb hown0 hkd hwds
 obtain⟨L,hL⟩:∃L,p.user++p.pass=L:=⟨_,rfl⟩
 have hLl:p.user.length+p.pass.length=L.length:=by rw[←hL];simp
 rw[hL] at HME
 have HLL:=hH hL
 have hll:L.length≤2:=by omega
 have hlz:((p.user.length:Int)+(p.pass.length:Int))=(L.length:Int):=by omega
 rw[hLl] at HR2
 try simp only[hLl,hlz]
 clear hL
 go_wp2_with fail
 go_loopg [114] (L.length+1) (fun gk i wr=>BRel L wg gk i wr)
 case atStart=>exact⟨0,rfl,by omega,by omega,by simp,Keeps.refl _ _⟩
 case round=>
  obtain⟨m,rfl,hm2,hgm,hokm,hkm⟩:=hrel
  have HOKM:=hH hokm
  have HKM:=hH hkm
  clear hokm hkm
  have HF:=hH (HK.o.trans (HKG.o.trans HKM.o (by simp)) (by simp))
  by_cases hlt3:m<L.length
  ·as_aux_lemma=>
   obtain⟨g2,rfl⟩:∃g2,gk=g2+1:=⟨gk-1,by omega⟩
   have hltz:(m:Int)<(L.length:Int):=by omega
   obtain⟨ys,hys⟩:∃ys,L[m]?=some ys:=⟨_,List.getElem?_eq_getElem hlt3⟩
   obtain⟨B1,d1,hx1⟩:=HME.o m ys hys
   obtain⟨b1,o1,rfl,hc1⟩:=HR2.o.2 (by omega)
   have hcm:wr.cell? ⟨b1,o1+m,none⟩=some (.slice B1 ys.length d1):=HKM.o.some_ (hc1 m _ hx1) (by simp)
   have HYS:=hH hys
   clear hc1 hx1 hys
   by_cases hyl:200<ys.length
   ·have e1:decide ((200:Int)<(ys.length:Int))=true:=decide_eq_true (by omega)
    go_wp2_with fail
    go_ret
    exact yes_no rfl HF.o
   ·have e1:decide ((200:Int)<(ys.length:Int))=false:=decide_eq_false (by omega)
    go_wp2_with fail
    go_roundg g2
    case measure=>omega
    case rel=>exact⟨m+1,by go_num,by omega,by omega,mem_take_succ HYS.o HOKM.o (by omega),HKM.o⟩
  ·as_aux_lemma=>
   have hmk:L.take m=L:=List.take_of_length_le (by omega)
   have hokl:=HOKM.o
   rw[hmk,←HLL.o] at hokl
   have HOKL:=hH hokl
   clear hokl hmk HOKM
   have hcu:wr.cell? ⟨w.heap.size,12,none⟩=some (.slice A14 p.user.length c14):=(HCELL.o _ (HKG.o.trans HKM.o (by simp))).2.2.2.2.1
   have HKU:=hH (HKG.o.trans HKM.o (by simp))
   have HUS:=hH HL.o.users
   go_wp2_with fail
   go_loopg [125] (p.user.length+1) (fun gk i wr=>URel2 p.user W gk i wr)
   case atStart=>exact⟨0,rfl,by omega,by omega,HKU.o⟩
   case round=>
    obtain⟨m2,rfl,hm3,hgm3,hkm3⟩:=hrel
    have HKM3:=hH hkm3
    clear hkm3 hcu
    by_cases hlt4:m2<p.user.length
    ·as_aux_lemma=>
     obtain⟨g3,rfl⟩:∃g3,gk=g3+1:=⟨gk-1,by omega⟩
     have hltz:(m2:Int)<(p.user.length:Int):=by omega
     obtain⟨ys,hys⟩:∃ys,p.user[m2]?=some ys:=⟨_,List.getElem?_eq_getElem hlt4⟩
     obtain⟨uv,hx1,B1,d1,rfl,hr1,_,_⟩:=M14.o m2 ys hys
     obtain⟨b1,o1,rfl,hc1⟩:=R14.o.2 (by omega)
     have hcm:wr.cell? ⟨b1,o1+m2,none⟩=some (.slice B1 ys.length d1):=HKM3.o.some_ (hc1 m2 _ hx1) (by simp)
     have hcv:∀w',Keeps [] W w'→(convert 22 9 (.slice B1 ys.length d1)).run prog w'=.ok (.string ⟨ys.toArray⟩) w':=fun w' k=>conv_bytes w' B1 d1 ys (hr1.keep k (by simp))
     have hcv2:=hcv wr HKM3.o
     have hysz:(⟨ys.toArray⟩:ByteArray).size≤140737488355328:=by have:=HUS.o ys (List.mem_of_getElem? hys);show ys.toArray.size≤_;simpa using this
     have T3:=hH (fun w=>text_c w ⟨ys.toArray⟩ hysz)
     clear hc1 hx1 hys hr1 hcv hysz
     generalize (⟨ys.toArray⟩:ByteArray)=sy at*
     go_wp2_with fail
     go_fit (T3.o _)
     rintro e w9 ⟨rfl,hq9⟩
     have HF9:=hH (HK.o.trans (HKM3.o.trans hq9 (by simp)) (by simp))
     have HK9:=hH (HKM3.o.trans hq9 (by simp))
     clear hq9
     cases e9:textB sy
     ·go_wp2_with fail
      go_ret
      exact yes_no rfl HF9.o
     ·go_wp2_with fail
      go_roundg g3
      case measure=>omega
      case rel=>exact⟨m2+1,by go_num,by omega,by omega,HK9.o⟩
    ·as_aux_lemma=>
     go_wp2_with fail
     go_ret
     exact⟨true,rfl,fun _=>⟨by omega,⟨HTX.o,by omega⟩,by omega,by omega,by omega,HWOK.o,fun u hu=>HOKL.o u (List.mem_append_left _ hu),fun u hu=>HOKL.o u (List.mem_append_right _ hu)⟩,HK.o.trans HKM3.o (by simp)⟩
 ):p:=h
theorem zNa1 {p:Prop} (h:p:=by
 go_wp2_with fail
 go_ret
 exact yes_no rfl (by first|exact HK.o|exact HK.o.trans (by assumption) (by simp))
 ):p:=h
theorem zNa2 {p:Prop} (h:p:=by
 go_wp2_with fail
 go_ret
 exact yes_no rfl HF2.o
 ):p:=h
theorem zNa4 {p:Prop} (h:p:=by
 go_wp2_with fail
 go_ret
 exact yes_no rfl HF3.o
 ):p:=h
theorem zNa5 {p:Prop} (h:p:=by
 have e1:decide ((1000:Int)<(u.payload.length:Int))=true:=decide_eq_true (by omega)
 exact zNa2
 ):p:=h
theorem properConnect_c (N:Nat→Prop) (w:World) (p:PkV) (v:Nat→Value) (hm:PkMem N w p v) (hl:PkLim p):
 Calls prog 20 #[.agg (p.sells v)] w (Yes w (ConnOK p)):=by
 obtain⟨W,hW⟩:∃W,w.alloc (.cells (p.sells v) 35)=W:=⟨_,rfl⟩
 have HK:Hd (Keeps [] w W):=by rw[←hW];exact Keeps.alloc _ _
 have HBP:Hd (Blk W w.heap.size 35 (p.sells v)):=by rw[←hW];exact Blk.new _ _ _
 have HM:=hH (hm.keep HK.o (by simp))
 have HW:=hH hW
 have HL:=hH hl
 clear hm hl hW
 obtain⟨xw,⟨A13,c13,e13,r13,n13,_⟩,m13⟩:=HM.o.m13
 obtain⟨xu,⟨A14,c14,e14,r14,n14,_⟩,m14⟩:=HM.o.m14
 obtain⟨xp,⟨A15,c15,e15,r15,n15,_⟩,m15⟩:=HM.o.m15
 have R13:=hH r13
 have R14:=hH r14
 have R15:=hH r15
 have M13:=hH m13
 have M14:=hH m14
 have M15:=hH m15
 have hCELL:∀w',Keeps [] W w'→w'.cell? ⟨w.heap.size,1,none⟩=some (.int .i64 p.version)∧w'.cell? ⟨w.heap.size,8,none⟩=some (.string p.client)∧w'.cell? ⟨w.heap.size,10,none⟩=some (.int .i64 p.keep)∧w'.cell? ⟨w.heap.size,11,none⟩=some (.slice A13 p.will.length c13)∧w'.cell? ⟨w.heap.size,12,none⟩=some (.slice A14 p.user.length c14)∧w'.cell? ⟨w.heap.size,13,none⟩=some (.slice A15 p.pass.length c15):=fun w' k=>by
  have h:=(HBP.o.keep k (by simp)).cell
  refine⟨by rw[h];rfl,by rw[h];rfl,by rw[h];rfl,by rw[h,←e13];rfl,by rw[h,←e14];rfl,by rw[h,←e15];rfl⟩
 have HCELL:=hH hCELL
 have hlw:=HL.o.will
 have hlu:=HL.o.user
 have hlp:=HL.o.pass
 clear r13 r14 r15 m13 m14 m15 e13 e14 e15 hCELL
 have TC:=hH (fun w=>text_c w p.client HL.o.client)
 go_enter func20,ntmps20
 go_upto_region 1 with fail
 rw[HW.o]
 clear HW
 obtain⟨c1,c8,c10,c11,c12,c13'⟩:=HCELL.o W (Keeps.refl _ _)
 by_cases q1:p.keep<0
 ·have dq1:decide (p.keep<0)=true:=decide_eq_true (by omega)
  exact zNa1
 ·have dq1:decide (p.keep<0)=false:=decide_eq_false (by omega)
  by_cases q2:65535<p.keep
  ·have dq2:decide (65535<p.keep)=true:=decide_eq_true (by omega)
   exact zNa1
  ·have dq2:decide (65535<p.keep)=false:=decide_eq_false (by omega)
   go_wp2_with fail
   go_fit (TC.o _)
   rintro e w1 ⟨rfl,hk1⟩
   obtain⟨c1,c8,c10,c11,c12,c13'⟩:=HCELL.o w1 hk1
   cases et:textB p.client
   ·exact zNa1
   ·have HTX:=hH (textB_ok et)
    clear et
    by_cases q3:200<p.client.size
    ·have dq3:decide ((200:Int)<(p.client.size:Int))=true:=decide_eq_true (by omega)
     exact zNa1
    ·have dq3:decide ((200:Int)<(p.client.size:Int))=false:=decide_eq_false (by omega)
     by_cases q4:1<p.will.length
     ·have dq4:decide ((1:Int)<(p.will.length:Int))=true:=decide_eq_true (by omega)
      exact zNa1
     ·have dq4:decide ((1:Int)<(p.will.length:Int))=false:=decide_eq_false (by omega)
      by_cases q5:1<p.user.length
      ·have dq5:decide ((1:Int)<(p.user.length:Int))=true:=decide_eq_true (by omega)
       exact zNa1
      ·have dq5:decide ((1:Int)<(p.user.length:Int))=false:=decide_eq_false (by omega)
       by_cases q6:1<p.pass.length
       ·have dq6:decide ((1:Int)<(p.pass.length:Int))=true:=decide_eq_true (by omega)
        exact zNa1
       ·have dq6:decide ((1:Int)<(p.pass.length:Int))=false:=decide_eq_false (by omega)
        by_cases v4:p.version=4
        ·have d4:(p.version==4)=true:=by rw[beq_iff_eq];exact v4
         have HV4:=hH v4
         clear v4
         by_cases q8:p.user.length<p.pass.length
         ·exact zNa1
         ·have hwl:=HL.o.wills
          have HWL:=hH hwl
          have HC:=hH hk1
          clear hwl hk1
          go_wp2_with fail
          go_loopg [64] (p.will.length+1) (fun gk i wr=>WRel p W gk i wr)
          case atStart=>exact⟨0,rfl,by omega,by omega,by simp,HC.o⟩
          case round=>
           obtain⟨k,rfl,hk,hgk,hok,hkw⟩:=hrel
           have HOK:=hH hok
           have HKW:=hH hkw
           clear hok hkw c1 c8 c10 c11 c12 c13'
           by_cases hlt:k<p.will.length
           ·as_aux_lemma=>
            obtain⟨g',rfl⟩:∃g',gk=g'+1:=⟨gk-1,by omega⟩
            have hltz:(k:Int)<(p.will.length:Int):=by omega
            obtain⟨b0,o0,rfl,hcl⟩:=R13.o.2 (by omega)
            obtain⟨u,hu⟩:∃u,p.will[k]?=some u:=⟨_,List.getElem?_eq_getElem hlt⟩
            obtain⟨f0,⟨y1,f1,A1,k1,rfl,r1,_⟩,f2,f3,y4,f4,A4,k4,rfl,r4,n4,h4⟩:=M13.o k u hu
            have LU:=HWL.o u (List.mem_of_getElem? hu)
            have HU:=hH hu
            have hub:=LU.t
            have hup:=LU.y
            have hul:=LU.l
            clear hu
            have x0:wr.cell? ⟨b0,o0+k*5,none⟩=some (.string u.topic):=HKW.o.some_ (hcl _ _ f0) (by simp)
            have x1:wr.cell? ⟨b0,o0+k*5+1,none⟩=some (.slice A1 u.payload.length k1):=HKW.o.some_ (by rw[Nat.add_assoc];exact hcl _ _ f1) (by simp)
            have x2:wr.cell? ⟨b0,o0+k*5+2,none⟩=some (.int .i64 u.qos):=HKW.o.some_ (by rw[Nat.add_assoc];exact hcl _ _ f2) (by simp)
            have x3:wr.cell? ⟨b0,o0+k*5+3,none⟩=some (.bool u.retain):=HKW.o.some_ (by rw[Nat.add_assoc];exact hcl _ _ f3) (by simp)
            have x4:wr.cell? ⟨b0,o0+k*5+4,none⟩=some (.slice A4 u.props.length k4):=HKW.o.some_ (by rw[Nat.add_assoc];exact hcl _ _ f4) (by simp)
            have TT:=hH (fun w=>topic_c w u.topic LU.t)
            have HP4:Hd (∀w',Keeps [] W w'→PropsAt N w' (.slice A4 u.props.length k4) u.props):=fun w' k=>SlAt.keep (⟨A4,k4,rfl,r4,n4,h4⟩:SlAt N W (.slice A4 u.props.length k4) 4 u.props.length (u.props.flatMap PropV.cells)) k (by simp)
            have PL:=hH (fun w' (k:Keeps [] W w')=>properList_c N w' 16 _ u.props (HP4.o w' k) LU.l LU.p)
            have HLU:=hH LU
            clear hcl f0 f1 f2 f3 f4 r1 r4 h4 LU
            go_upto_region 6 with fail
            have HNB:=hH (Blk.new wr 53 #[.string u.topic,.slice A1 u.payload.length k1,.int .i64 u.qos,.bool u.retain,.slice A4 u.props.length k4])
            have HKV:=hH (HKW.o.trans (Keeps.alloc wr (.cells #[.string u.topic,.slice A1 u.payload.length k1,.int .i64 u.qos,.bool u.retain,.slice A4 u.props.length k4] 53)) (by simp))
            generalize wr.alloc (.cells #[.string u.topic,.slice A1 u.payload.length k1,.int .i64 u.qos,.bool u.retain,.slice A4 u.props.length k4] 53)=W5 at*
            generalize wr.heap.size=nb at*
            clear x0 x1 x2 x3 x4
            have hY:∀w',Keeps [] W5 w'→w'.cell? ⟨nb,0,none⟩=some (.string u.topic)∧w'.cell? ⟨nb,1,none⟩=some (.slice A1 u.payload.length k1)∧w'.cell? ⟨nb,2,none⟩=some (.int .i64 u.qos)∧w'.cell? ⟨nb,3,none⟩=some (.bool u.retain)∧w'.cell? ⟨nb,4,none⟩=some (.slice A4 u.props.length k4)∧w'.cell? ⟨w.heap.size,1,none⟩=some (.int .i64 p.version):=fun w' k=>⟨by rw[(HNB.o.keep k (by simp)).cell];rfl,by rw[(HNB.o.keep k (by simp)).cell];rfl,by rw[(HNB.o.keep k (by simp)).cell];rfl,by rw[(HNB.o.keep k (by simp)).cell];rfl,by rw[(HNB.o.keep k (by simp)).cell];rfl,(HCELL.o _ (HKV.o.trans k (by simp))).1⟩
            have HY:=hH hY
            obtain⟨y0,y1,y2,y3,y4,yv⟩:=hY W5 (Keeps.refl _ _)
            clear hY
            go_wp2_with fail
            go_fit (TT.o _)
            rintro e w2 ⟨rfl,hq2⟩
            obtain⟨y0,y1,y2,y3,y4,yv⟩:=HY.o w2 hq2
            have HQ2:=hH hq2
            have HF2:=hH (HK.o.trans (HKV.o.trans hq2 (by simp)) (by simp))
            clear hq2
            cases et:topicB u.topic
            ·exact zNa2
            ·have HTP:=hH (topicB_ok et)
             clear et
             by_cases z1:1000<u.payload.length
             ·exact zNa5
             ·have e1:decide ((1000:Int)<(u.payload.length:Int))=false:=decide_eq_false (by omega)
              by_cases z2:u.qos<0
              ·have e2:decide (u.qos<0)=true:=decide_eq_true z2
               exact zNa2
              ·have e2:decide (u.qos<0)=false:=decide_eq_false z2
               by_cases z3:2<u.qos
               ·have e3:decide (2<u.qos)=true:=decide_eq_true z3
                exact zNa2
               ·have e3:decide (2<u.qos)=false:=decide_eq_false z3
                go_wp2_with fail
                go_fit (PL.o _ (HKV.o.trans HQ2.o (by simp)))
                rintro e w3 ⟨rfl,hq3⟩
                obtain⟨y0,y1,y2,y3,y4,yv⟩:=HY.o w3 (HQ2.o.trans hq3 (by simp))
                have HF3:=hH (HF2.o.trans hq3 (by simp))
                have HK3:=hH (HKV.o.trans (HQ2.o.trans hq3 (by simp)) (by simp))
                clear hq3
                cases ep:plB 16 u.props
                ·exact zNa4
                ·have HPP:=hH (plB_ok (fun x hx=>(HLU.o.p x hx).n) ep)
                 clear ep
                 by_cases z5:0<u.props.length
                 ·exact zNa4
                 ·go_wp2_with fail
                  go_roundg g'
                  case measure=>omega
                  case rel=>exact⟨k+1,by go_num,by omega,by omega,mem_take_succ HU.o HOK.o ⟨HTP.o,by omega,by omega,HPP.o,fun _=>List.eq_nil_of_length_eq_zero (by omega)⟩,HK3.o⟩
           ·exact zNa0
        ·have d4:(p.version==4)=false:=by rw[beq_eq_false_iff_ne];exact v4
         have HV4:=hH v4
         clear v4
         have hwl:=HL.o.wills
         have HWL:=hH hwl
         have HC:=hH hk1
         clear hwl hk1
         go_wp2_with fail
         go_loopg [64] (p.will.length+1) (fun gk i wr=>WRel p W gk i wr)
         case atStart=>exact⟨0,rfl,by omega,by omega,by simp,HC.o⟩
         case round=>
          obtain⟨k,rfl,hk,hgk,hok,hkw⟩:=hrel
          have HOK:=hH hok
          have HKW:=hH hkw
          clear hok hkw c1 c8 c10 c11 c12 c13'
          by_cases hlt:k<p.will.length
          ·as_aux_lemma=>
           obtain⟨g',rfl⟩:∃g',gk=g'+1:=⟨gk-1,by omega⟩
           have hltz:(k:Int)<(p.will.length:Int):=by omega
           obtain⟨b0,o0,rfl,hcl⟩:=R13.o.2 (by omega)
           obtain⟨u,hu⟩:∃u,p.will[k]?=some u:=⟨_,List.getElem?_eq_getElem hlt⟩
           obtain⟨f0,⟨y1,f1,A1,k1,rfl,r1,_⟩,f2,f3,y4,f4,A4,k4,rfl,r4,n4,h4⟩:=M13.o k u hu
           have LU:=HWL.o u (List.mem_of_getElem? hu)
           have HU:=hH hu
           have hub:=LU.t
           have hup:=LU.y
           have hul:=LU.l
           clear hu
           have x0:wr.cell? ⟨b0,o0+k*5,none⟩=some (.string u.topic):=HKW.o.some_ (hcl _ _ f0) (by simp)
           have x1:wr.cell? ⟨b0,o0+k*5+1,none⟩=some (.slice A1 u.payload.length k1):=HKW.o.some_ (by rw[Nat.add_assoc];exact hcl _ _ f1) (by simp)
           have x2:wr.cell? ⟨b0,o0+k*5+2,none⟩=some (.int .i64 u.qos):=HKW.o.some_ (by rw[Nat.add_assoc];exact hcl _ _ f2) (by simp)
           have x3:wr.cell? ⟨b0,o0+k*5+3,none⟩=some (.bool u.retain):=HKW.o.some_ (by rw[Nat.add_assoc];exact hcl _ _ f3) (by simp)
           have x4:wr.cell? ⟨b0,o0+k*5+4,none⟩=some (.slice A4 u.props.length k4):=HKW.o.some_ (by rw[Nat.add_assoc];exact hcl _ _ f4) (by simp)
           have TT:=hH (fun w=>topic_c w u.topic LU.t)
           have HP4:Hd (∀w',Keeps [] W w'→PropsAt N w' (.slice A4 u.props.length k4) u.props):=fun w' k=>SlAt.keep (⟨A4,k4,rfl,r4,n4,h4⟩:SlAt N W (.slice A4 u.props.length k4) 4 u.props.length (u.props.flatMap PropV.cells)) k (by simp)
           have PL:=hH (fun w' (k:Keeps [] W w')=>properList_c N w' 16 _ u.props (HP4.o w' k) LU.l LU.p)
           have HLU:=hH LU
           clear hcl f0 f1 f2 f3 f4 r1 r4 h4 LU
           go_upto_region 6 with fail
           have HNB:=hH (Blk.new wr 53 #[.string u.topic,.slice A1 u.payload.length k1,.int .i64 u.qos,.bool u.retain,.slice A4 u.props.length k4])
           have HKV:=hH (HKW.o.trans (Keeps.alloc wr (.cells #[.string u.topic,.slice A1 u.payload.length k1,.int .i64 u.qos,.bool u.retain,.slice A4 u.props.length k4] 53)) (by simp))
           generalize wr.alloc (.cells #[.string u.topic,.slice A1 u.payload.length k1,.int .i64 u.qos,.bool u.retain,.slice A4 u.props.length k4] 53)=W5 at*
           generalize wr.heap.size=nb at*
           clear x0 x1 x2 x3 x4
           have hY:∀w',Keeps [] W5 w'→w'.cell? ⟨nb,0,none⟩=some (.string u.topic)∧w'.cell? ⟨nb,1,none⟩=some (.slice A1 u.payload.length k1)∧w'.cell? ⟨nb,2,none⟩=some (.int .i64 u.qos)∧w'.cell? ⟨nb,3,none⟩=some (.bool u.retain)∧w'.cell? ⟨nb,4,none⟩=some (.slice A4 u.props.length k4)∧w'.cell? ⟨w.heap.size,1,none⟩=some (.int .i64 p.version):=fun w' k=>⟨by rw[(HNB.o.keep k (by simp)).cell];rfl,by rw[(HNB.o.keep k (by simp)).cell];rfl,by rw[(HNB.o.keep k (by simp)).cell];rfl,by rw[(HNB.o.keep k (by simp)).cell];rfl,by rw[(HNB.o.keep k (by simp)).cell];rfl,(HCELL.o _ (HKV.o.trans k (by simp))).1⟩
           have HY:=hH hY
           obtain⟨y0,y1,y2,y3,y4,yv⟩:=hY W5 (Keeps.refl _ _)
           clear hY
           go_wp2_with fail
           go_fit (TT.o _)
           rintro e w2 ⟨rfl,hq2⟩
           obtain⟨y0,y1,y2,y3,y4,yv⟩:=HY.o w2 hq2
           have HQ2:=hH hq2
           have HF2:=hH (HK.o.trans (HKV.o.trans hq2 (by simp)) (by simp))
           clear hq2
           cases et:topicB u.topic
           ·exact zNa2
           ·have HTP:=hH (topicB_ok et)
            clear et
            by_cases z1:1000<u.payload.length
            ·exact zNa5
            ·have e1:decide ((1000:Int)<(u.payload.length:Int))=false:=decide_eq_false (by omega)
             by_cases z2:u.qos<0
             ·have e2:decide (u.qos<0)=true:=decide_eq_true z2
              exact zNa2
             ·have e2:decide (u.qos<0)=false:=decide_eq_false z2
              by_cases z3:2<u.qos
              ·have e3:decide (2<u.qos)=true:=decide_eq_true z3
               exact zNa2
              ·have e3:decide (2<u.qos)=false:=decide_eq_false z3
               go_wp2_with fail
               go_fit (PL.o _ (HKV.o.trans HQ2.o (by simp)))
               rintro e w3 ⟨rfl,hq3⟩
               obtain⟨y0,y1,y2,y3,y4,yv⟩:=HY.o w3 (HQ2.o.trans hq3 (by simp))
               have HF3:=hH (HF2.o.trans hq3 (by simp))
               have HK3:=hH (HKV.o.trans (HQ2.o.trans hq3 (by simp)) (by simp))
               clear hq3
               cases ep:plB 16 u.props
               ·exact zNa4
               ·have HPP:=hH (plB_ok (fun x hx=>(HLU.o.p x hx).n) ep)
                clear ep
                go_wp2_with fail
                go_roundg g'
                case measure=>omega
                case rel=>exact⟨k+1,by go_num,by omega,by omega,mem_take_succ HU.o HOK.o ⟨HTP.o,by omega,by omega,HPP.o,fun h=>absurd h HV4.o⟩,HK3.o⟩
          ·exact zNa0
end Go.Proofs.YtkglmacaecmhdaaGreatDoor
