/- FnRoad, part T: the walks of G1. -/
import Derived.Test.YtkglmacaecmhdaaGreatDoorS
set_option linter.unusedVariables false
set_option linter.unusedSimpArgs false
set_option maxHeartbeats 16000000
set_option maxRecDepth 100000
namespace Go.Proofs.YtkglmacaecmhdaaGreatDoor
open Go Go.RowKit Tryz
def mk35 (p:PkV) (v:Nat→Value) (wl sb pr:Value):Array Value:=p.sells (fun j=>if j=13 then wl else if j=19 then sb else if j=20 then pr else v j)
theorem mk35_size (p:PkV) (v:Nat→Value) (wl sb pr:Value):(mk35 p v wl sb pr).size=19:=rfl
theorem mk35_will (p:PkV) (v:Nat→Value) (wl wl' sb pr:Value):(mk35 p v wl sb pr).setIfInBounds 11 wl'=mk35 p v wl' sb pr:=rfl
theorem mk35_sub (p:PkV) (v:Nat→Value) (wl sb sb' pr:Value):(mk35 p v wl sb pr).setIfInBounds 17 sb'=mk35 p v wl sb' pr:=rfl
def WlRel (G:Nat→Prop) (p:PkV) (v:Nat→Value) (g:Nat) (pr:Value) (W1:World) (gk:Nat) (i:Value) (wr:World):Prop:=
 ∃(k:Nat) (A:Option Addr) (c:Nat) (xs:List Value),i=.int .i64 (k:Int)∧k≤p.will.length∧p.will.length<gk+k∧Blk wr g 35 (mk35 p v (.slice A k c) (.slice none 0 0) pr)∧wr.ownsRow 0 53 5 (.slice A k c) k xs∧
  (∀(j:Nat) u,(p.will.take k)[j]?=some u→WillAt (fun b=>G b∧A.map (·.block)≠some b) wr (fun m=>xs[j*5+m]?) u)∧(∀q,A.map (·.block)=some q→W1.heap.size≤q)∧Keeps [g] W1 wr
theorem info56:(prog.info? 56).map (fun i=>(i.zero,i.size,i.bytes))=some (some (.agg #[.string ⟨#[]⟩,.int .i64 0,.bool false,.bool false,.int .i64 0]),5,40):=by kernel_rfl
def SbRel (p:PkV) (v:Nat→Value) (g:Nat) (wl pr:Value) (W1:World) (gk:Nat) (i:Value) (wr:World):Prop:=
 ∃(k:Nat) (A:Option Addr) (c:Nat),i=.int .i64 (k:Int)∧k≤p.subs.length∧p.subs.length<gk+k∧Blk wr g 35 (mk35 p v wl (.slice A k c) pr)∧wr.ownsRow 0 56 5 (.slice A k c) k ((p.subs.take k).flatMap SubP.cells)∧(∀q,A.map (·.block)=some q→W1.heap.size≤q)∧Keeps [g] W1 wr
theorem zT3 {p:Prop} (h:p:=by
 exact((hkw.trans hkq (by simp)).trans hkz (fun x hx=>.inr (hA1 x (Option.mem_toList.1 hx)))).trans hset (by simp)
 ):p:=h
theorem zT4 {p:Prop} (h:p:=by
 rcases hd with h|h
 ·exact hA1 q (by rw[←h];exact hq)
 ·rw[h] at hq;injection hq with hq;omega
 ):p:=h
theorem sub_next {p:PkV} {v:Nat→Value} {g k g':Nat} {wl pr:Value} {W1 wr wq wz:World} {A1 A2:Option Addr} {c1 c2:Nat} {u:SubP} (hu:p.subs[k]?=some u) (hlt:k<p.subs.length) (hg:p.subs.length<g'+1+k) (hgl:g<W1.heap.size)
 (hA1:∀q,A1.map (·.block)=some q→W1.heap.size≤q) (hkw:Keeps [g] W1 wr) (hkq:Keeps [] wr wq) (hB2:Blk wz g 35 (mk35 p v wl (.slice A1 k c1) pr))
 (ho:wz.ownsRow 0 56 5 (.slice A2 (k+1) c2) (k+1) ((p.subs.take k).flatMap SubP.cells++u.cells)) (hkz:Keeps (Value.slice A1 k c1).ownBlock.toList wq wz) (hd:A2.map (·.block)=(Value.slice A1 k c1).ownBlock∨A2.map (·.block)=some wq.heap.size):
 SbRel p v g wl pr W1 g' (.int .i64 ((k:Int)+1)) (wz.setCell ⟨g,17,none⟩ (.slice A2 (k+1) c2)):=by
 rw[own_slice] at hkz hd
 have hsq:W1.heap.size≤wq.heap.size:=Nat.le_trans hkw.size hkq.size
 have hA2:∀q,A2.map (·.block)=some q→W1.heap.size≤q:=fun q hq=>by
  exact zT4
 have hset:=Keeps.setCell wz ⟨g,17,none⟩ (.slice A2 (k+1) c2)
 refine⟨k+1,A2,c2,by simp,hlt,by omega,?_,ownsRow_keep ?_ hset ?_,hA2,?_⟩
 ·have h:=hB2.set_ 17 (.slice A2 (k+1) c2)
  rwa [mk35_sub] at h
 ·rw[List.take_add_one,hu]
  simpa using ho
 ·intro q hq hm
  rw[own_slice] at hq
  have:=hA2 q hq
  simp at hm
  omega
 ·exact zT3
def PA (W:World) (p:PkV) (v:Nat→Value) (s3:Value) (wc:World):Prop:=∃g Ap cp,s3=.pointer (some ⟨g,0,none⟩)∧Blk wc g 35 (mk35 p v (.slice none 0 0) (.slice none 0 0) (.slice Ap p.props.length cp))∧W.heap.size≤g∧
 SlAt (fun b=>b≠g∧W.heap.size≤b) wc (.slice Ap p.props.length cp) 4 p.props.length (p.props.flatMap PropV.cells)∧Keeps [] W wc
theorem WillAt.congr {N:Nat→Prop} {w:World} {f f':Nat→Option Value} {u:WillV} (h:WillAt N w f u) (hf:∀m,m<5→f' m=f m):WillAt N w f' u:=by
 obtain⟨h0,⟨v1,h1,h1'⟩,h2,h3,v4,h4,h4'⟩:=h
 exact⟨by rw[hf 0 (by omega)];exact h0,⟨v1,by rw[hf 1 (by omega)];exact h1,h1'⟩,by rw[hf 2 (by omega)];exact h2,by rw[hf 3 (by omega)];exact h3,v4,by rw[hf 4 (by omega)];exact h4,h4'⟩
theorem info53:(prog.info? 53).map (fun i=>(i.zero,i.size,i.bytes))=some (some (.agg #[.string ⟨#[]⟩,.slice none 0 0,.int .i64 0,.bool false,.slice none 0 0]),5,80):=by kernel_rfl
def rowW (u:WillV) (B1 B4:Option Addr) (k1 k4:Nat):List Value:=[.string u.topic,.slice B1 u.payload.length k1,.int .i64 u.qos,.bool u.retain,.slice B4 u.props.length k4]
theorem will_next {G:Nat→Prop} {p:PkV} {v:Nat→Value} {g k g':Nat} {pr:Value} {W1 wr wq wz:World} {A1 A2 B1 B4:Option Addr} {c1 c2 k1 k4:Nat} {xs:List Value} {u:WillV} (hG:∀b,G b→b≠g) (hu:p.will[k]?=some u) (hlt:k<p.will.length) (hg:p.will.length<g'+1+k)
 (hB:Blk wr g 35 (mk35 p v (.slice A1 k c1) (.slice none 0 0) pr)) (hgl:g<W1.heap.size) (hws:∀(j:Nat) u,(p.will.take k)[j]?=some u→WillAt (fun b=>G b∧A1.map (·.block)≠some b) wr (fun m=>xs[j*5+m]?) u)
 (hA1:∀q,A1.map (·.block)=some q→W1.heap.size≤q) (hkw:Keeps [g] W1 wr) (hkq:Keeps [] wr wq) (hxl:xs.length=k*5)
 (hp1:SlAt (fun b=>G b∧A1.map (·.block)≠some b) wq (.slice B1 u.payload.length k1) 1 u.payload.length (bvs u.payload)) (hp4:SlAt (fun b=>G b∧A1.map (·.block)≠some b) wq (.slice B4 u.props.length k4) 4 u.props.length (u.props.flatMap PropV.cells))
 (ho:wz.ownsRow 0 53 5 (.slice A2 (k+1) c2) (k+1) (xs++rowW u B1 B4 k1 k4)) (hkz:Keeps (Value.slice A1 k c1).ownBlock.toList wq wz) (hd:A2.map (·.block)=(Value.slice A1 k c1).ownBlock∨A2.map (·.block)=some wq.heap.size):
 WlRel G p v g pr W1 g' (.int .i64 ((k:Int)+1)) (wz.setCell ⟨g,11,none⟩ (.slice A2 (k+1) c2)):=by
 rw[own_slice] at hkz hd
 have hsq:W1.heap.size≤wq.heap.size:=Nat.le_trans hkw.size hkq.size
 have hgo:g∉(A1.map (·.block)).toList:=fun hm=>by have:=hA1 g (Option.mem_toList.1 hm);omega
 have hA2:∀q,A2.map (·.block)=some q→W1.heap.size≤q:=fun q hq=>by
  exact zT4
 have hB2:Blk wz g 35 (mk35 p v (.slice A1 k c1) (.slice none 0 0) pr):=(hB.keep hkq (by simp)).keep hkz hgo
 have hset:=Keeps.setCell wz ⟨g,11,none⟩ (.slice A2 (k+1) c2)
 have hmono:∀b,b<wq.heap.size→(G b∧A1.map (·.block)≠some b)→(G b∧A1.map (·.block)≠some b∧A2.map (·.block)≠some b):=fun b hb h=>⟨h.1,h.2,fun e=>by
  rcases hd with h2|h2
  ·exact h.2 (by rw[←h2];exact e)
  ·rw[h2] at e;injection e with e;omega⟩
 have hS1:∀x∈(A1.map (·.block)).toList,(G x∧A1.map (·.block)≠some x∧A2.map (·.block)≠some x)→wq.heap.size≤x:=fun x hx h=>absurd (Option.mem_toList.1 hx) h.2.1
 have hS2:∀x∈[(⟨g,11,none⟩:Addr).block],(G x∧A1.map (·.block)≠some x∧A2.map (·.block)≠some x)→wz.heap.size≤x:=fun x hx h=>absurd (by simpa using hx) (hG x h.1)
 have fin:∀b,b<(wz.setCell ⟨g,11,none⟩ (.slice A2 (k+1) c2)).heap.size→(G b∧A1.map (·.block)≠some b∧A2.map (·.block)≠some b)→(G b∧A2.map (·.block)≠some b):=fun b _ h=>⟨h.1,h.2.2⟩
 refine⟨k+1,A2,c2,xs++rowW u B1 B4 k1 k4,by simp,hlt,by omega,?_,ownsRow_keep ho hset ?_,?_,hA2,?_⟩
 ·have h:=hB2.set_ 11 (.slice A2 (k+1) c2)
  rwa [mk35_will] at h
 ·intro q hq hm
  rw[own_slice] at hq
  have:=hA2 q hq
  simp at hm
  omega
 ·intro j x hx
  rcases Nat.lt_or_ge j k with hj|hj
  ·have hx2:(p.will.take k)[j]?=some x:=by rw[List.getElem?_take] at hx ⊢;rw[if_pos (by omega)] at hx;rw[if_pos hj];exact hx
   have h:=hws j x hx2
   refine WillAt.congr ((((h.keep hkq (by simp)).mono hmono).keep hkz hS1).keep hset hS2|>.mono fin) (fun m hm=>?_)
   rw[List.getElem?_append_left (by omega)]
  ·have hjk:j=k:=by
    have:=(List.getElem?_eq_some_iff.1 hx).1
    simp at this;omega
   subst hjk
   have hxu:x=u:=by rw[List.getElem?_take,if_pos (by omega),hu] at hx;injection hx with hx;exact hx.symm
   subst hxu
   have hr:∀m,m<5→(xs++rowW x B1 B4 k1 k4)[j*5+m]?=(rowW x B1 B4 k1 k4)[m]?:=fun m _=>by
    rw[List.getElem?_append_right (by omega),hxl];congr 1;omega
   refine WillAt.congr (f:=fun m=>(rowW x B1 B4 k1 k4)[m]?) ⟨rfl,⟨_,rfl,?_⟩,rfl,rfl,_,rfl,?_⟩ hr
   ·exact(((hp1.mono hmono).keep hkz hS1).keep hset hS2).mono fin
   ·exact(((hp4.mono hmono).keep hkz hS1).keep hset hS2).mono fin
 ·exact zT3
theorem zT0 {p:Prop} (h:p:=by
 refine tkc fun K hK=>?_
 have hbm:1≤1:=Nat.le_refl 1
 refine wp_append_rd ws (.tmp 52) (.tmp 65) 31 rfl 53 i53 _ 5 80 underlying31 hi53 z1 z2 z3 rfl (by decide) (.slice A1 k c1) k xs rfl (ownsRow_keep HOWN.o hks (by simp)) (some ⟨sb,0,none⟩) 1 1 (rowW u B1 Aq k1 cq) rfl hrs (by intro x hx;simp[rowW] at hx;rcases hx with rfl|rfl|rfl|rfl|rfl<;>rfl) (by omega) (by unfold maxLen;omega) (fun A2 c2 wz ho2 hkz hd2=>?_)
 have hnbo:nb∉(Value.slice A1 k c1).ownBlock.toList:=fun hm=>by rw[own_slice] at hm;have:=(hA1l _ (Option.mem_toList.1 hm)).1;omega
 have hgbo:g3∉(Value.slice A1 k c1).ownBlock.toList:=fun hm=>by rw[own_slice] at hm;have:=(hA1l _ (Option.mem_toList.1 hm)).2;omega
 have hbz:=hbs.keep hkz hnbo
 have hBz:=((HB.o).keep hks (by simp)).keep hkz hgbo
 clear hHeld
 refine hK.out _ _ (hS _ hbz) (fun hHeld=>?_)
 clear hK K
 simp only[setN,Act.put,s1,s2,s3]
 repeat((first|refine tkx ?_|refine tku ?_);simp only[setN,Act.put,s1,s2,s3])
 refine tkc fun K hK=>?_
 refine wp_one (gg:=g3) (off:=11) (v:=.slice A2 (k+1) c2) hBz (by rw[mk35_size];omega) 31 (.tmp 67) (.tmp 66) rfl rfl rfl (by kernel_rfl) rfl ?_
 refine hK.out _ _ (hS _ (hbz.far (p:=⟨g3,11,none⟩) (Ne.symm hgb) _)) (fun hHeld=>?_)
 clear hK K
 simp only[setN,Act.put,s1,s2,s3]
 refine tkDone (by kernel_rfl) ?_
 have HQ:=hH (will_next (G:=fun b=>b≠g3∧b≠w.heap.size+1) (g':=g') (fun b h=>h.1) HU.o hlt hgk HB.o hgl HWS.o HA1.o HKW.o hks hxl ?_ hps2 ho2 hkz hd2)
 rotate_left 1
 ·obtain⟨A9,c9,h9,h10,h11,h12⟩:=HY1.o
  refine SlAt.keep (N:=fun b=>(b≠g3∧b≠w.heap.size+1)∧A1.map (·.block)≠some b) ⟨A9,c9,h9,h10,h11,fun a ha h0=>⟨(h12 a ha h0).1,?_,?_⟩⟩ (HK.o.trans (HKX.o.trans hks (by simp)) (by simp)) (by simp)
  ·have:=(h12 a ha h0).1;have:=HGW.o;have:=HS.o;exact⟨by omega,by omega⟩
  ·intro e;have:=HA1.o _ e;have:=(h12 a ha h0).1;have:=HGW.o;have:=HS.o;omega
 generalize wz.setCell ⟨g3,11,none⟩ (.slice A2 (k+1) c2)=wy at*
 clear hS hHeld hbz hBz ho2 hkz hd2 hps2 hrs hks hbs hnbo hgbo hA1l hbm hxl hfu hkb hb0 hgl hgb
 go_wp2_with fail
 go_roundg g'
 case measure=>omega
 case rel=>exact HQ.o
 ):p:=h
theorem zT1 {p:Prop} (h:p:=by
 refine tkc fun K hK=>?_
 go_simp
 have hks:=hkc.trans (Keeps.alloc w2 (.cells #[.string u.topic,.slice B1 u.payload.length k1,.int .i64 u.qos,.bool u.retain,.slice Aq u.props.length cq] 53)) (by simp)
 have hbs:=hbc.alloc (.cells #[.string u.topic,.slice B1 u.payload.length k1,.int .i64 u.qos,.bool u.retain,.slice Aq u.props.length cq] 53)
 have hrs:=rd_new w2 53 #[.string u.topic,.slice B1 u.payload.length k1,.int .i64 u.qos,.bool u.retain,.slice Aq u.props.length cq] 5 1 rfl
 have hps2:=hps.keep (Keeps.alloc w2 (.cells #[.string u.topic,.slice B1 u.payload.length k1,.int .i64 u.qos,.bool u.retain,.slice Aq u.props.length cq] 53)) (by simp)
 clear hHeld
 refine hK.out _ _ (hS _ hbs) (fun hHeld=>?_)
 clear hK K
 simp only[setN,Act.put,s1,s2,s3]
 generalize w2.alloc (.cells #[.string u.topic,.slice B1 u.payload.length k1,.int .i64 u.qos,.bool u.retain,.slice Aq u.props.length cq] 53)=ws at*
 generalize w2.heap.size=sb at*
 exact zT0
 ):p:=h
theorem zT2 {p:Prop} (h:p:=by
 obtain⟨A9,c9,h9,h10,h11,h12⟩:=hsq
 injection h9 with h9a h9b h9c
 subst h9a h9c
 have hz9:=(hkb).size
 have hlt9:=(HB.o).lt
 rw[hnb] at hz9 hlt9
 exact⟨_,_,rfl,h10,h11,fun a ha h0=>⟨(h12 a ha h0).1,⟨by have:=haq a ha;omega,by have:=haq a ha;have:=HS.o;have hsz:=HKX.o.size;rw[hnb] at hsz;omega⟩,fun e=>by have:=haq a ha;have:=(hA1l _ e).1;omega⟩⟩
 ):p:=h
theorem zT5 {p:Prop} (h:p:=by
 exact⟨ys,y1.mono all,fun i u hi=>by obtain⟨z,z3,z4⟩:=y2 i u hi;exact⟨z,z3,z4.mono all⟩⟩
 ):p:=h
theorem packet_c (N:Nat→Prop) (w:World) (p:PkV) (v:Nat→Value) (hm:PkMem N w p v) (hf:Fits p):Calls prog 5 #[.agg (p.cells v)] w (PkOut w AllB p):=by
 obtain⟨W,hW⟩:∃W,(w.alloc (.cells (p.cells v) 29)).alloc (.cells (zero35 0 0 (.slice none 0 0)) 35)=W:=⟨_,rfl⟩
 have HK:Hd (Keeps [] w W):=by rw[←hW];exact(Keeps.alloc _ _).trans (Keeps.alloc _ _) (by simp)
 have HBP:Hd (Blk W w.heap.size 29 (p.cells v)):=by rw[←hW];exact(Blk.new _ _ _).alloc _
 have HBR:Hd (Blk W (w.heap.size+1) 35 (zero35 0 0 (.slice none 0 0))):=by rw[←hW];have h:=Blk.new (w.alloc (.cells (p.cells v) 29)) 35 (zero35 0 0 (.slice none 0 0));rwa [World.size_alloc] at h
 have HS:Hd (W.heap.size=w.heap.size+2):=by rw[←hW];show _=_;simp
 have HM0:=hH hm
 have HM:=hH (hm.keep HK.o (by simp))
 have HF:=hH hf
 have HW:=hH hW
 clear hm hW hf
 obtain⟨A7,c7,e7,_⟩:=HM.o.m7
 obtain⟨xw,⟨A13,c13,e13,r13,n13,d13⟩,m13⟩:=HM0.o.m13
 have r13:=r13.keep HK.o (by simp)
 obtain⟨_,⟨A14,c14,e14,_⟩,_⟩:=HM.o.m14
 obtain⟨_,⟨A15,c15,e15,_⟩,_⟩:=HM.o.m15
 obtain⟨A18,c18,e18,_⟩:=HM.o.m18
 obtain⟨A19,c19,e19,r19,_⟩:=HM.o.m19
 obtain⟨A20,c20,e20,_⟩:=HM.o.m20
 have hCELL:∀w',Keeps [] W w'→w'.cell? ⟨w.heap.size,0,none⟩=some (.int .i64 p.kind)∧w'.cell? ⟨w.heap.size,1,none⟩=some (.int .i64 p.version)∧w'.cell? ⟨w.heap.size,2,none⟩=some (.bool p.dup)∧w'.cell? ⟨w.heap.size,3,none⟩=some (.bool p.retain)∧w'.cell? ⟨w.heap.size,4,none⟩=some (.int .i64 p.qos)∧w'.cell? ⟨w.heap.size,5,none⟩=some (.int .i64 p.id)∧w'.cell? ⟨w.heap.size,6,none⟩=some (.string p.topic)∧w'.cell? ⟨w.heap.size,7,none⟩=some (.slice A7 p.payload.length c7)∧w'.cell? ⟨w.heap.size,10,none⟩=some (.string p.client)∧w'.cell? ⟨w.heap.size,11,none⟩=some (.bool p.clean)∧w'.cell? ⟨w.heap.size,12,none⟩=some (.int .i64 p.keep)∧w'.cell? ⟨w.heap.size,14,none⟩=some (.slice A14 p.user.length c14)∧w'.cell? ⟨w.heap.size,15,none⟩=some (.slice A15 p.pass.length c15)∧w'.cell? ⟨w.heap.size,16,none⟩=some (.bool p.present)∧w'.cell? ⟨w.heap.size,17,none⟩=some (.int .i64 p.code)∧w'.cell? ⟨w.heap.size,18,none⟩=some (.slice A18 p.codes.length c18)∧w'.cell? ⟨w.heap.size,20,none⟩=some (.slice A20 p.props.length c20)∧w'.cell? ⟨w.heap.size,13,none⟩=some (.slice A13 p.will.length c13)∧w'.cell? ⟨w.heap.size,19,none⟩=some (.slice A19 p.subs.length c19)∧Keeps [] W w':=fun w' k=>by
  have h:=(HBP.o.keep k (by simp)).cell
  refine⟨by rw[h];rfl,by rw[h];rfl,by rw[h];rfl,by rw[h];rfl,by rw[h];rfl,by rw[h];rfl,by rw[h];rfl,by rw[h,←e7];rfl,by rw[h];rfl,by rw[h];rfl,by rw[h];rfl,by rw[h,←e14];rfl,by rw[h,←e15];rfl,by rw[h];rfl,by rw[h];rfl,by rw[h,←e18];rfl,by rw[h,←e20];rfl,by rw[h,←e13];rfl,by rw[h,←e19];rfl,k⟩
 have HCELL:=hH hCELL
 have R13:=hH r13
 have M13:=hH m13
 have R19:=hH r19
 have E7:=hH e7
 have E14:=hH e14
 have E15:=hH e15
 have E18:=hH e18
 have HPR:=hH (fun w' (k:Keeps [] W w')=>props_c N w' (.slice A20 p.props.length c20) p.props (by rw[←e20];exact HM.o.m20.keep k (by simp)) HF.o.props.len)
 clear hCELL r13 m13 r19 d13 e7 e13 e14 e15 e18 e19 e20
 go_enter func5,ntmps5
 go_upto_region 1 with fail
 have hw1:=HW.o
 unfold zero35 at hw1
 rw[hw1]
 clear hw1 HW
 go_cut [3] from 8 to 43 (fun s wc=>PA W p v s wc)
 case first=>
  have hi:(prog.info? 35).map (·.size)=some 19:=by kernel_rfl
  have HI:=hH hi
  clear hi
  refine tkStart (S:=(fun w'=>w'.cell? ⟨w.heap.size,0,none⟩=some (.int .i64 p.kind)∧w'.cell? ⟨w.heap.size,1,none⟩=some (.int .i64 p.version)∧w'.cell? ⟨w.heap.size,2,none⟩=some (.bool p.dup)∧w'.cell? ⟨w.heap.size,3,none⟩=some (.bool p.retain)∧w'.cell? ⟨w.heap.size,4,none⟩=some (.int .i64 p.qos)∧w'.cell? ⟨w.heap.size,5,none⟩=some (.int .i64 p.id)∧w'.cell? ⟨w.heap.size,6,none⟩=some (.string p.topic)∧w'.cell? ⟨w.heap.size,7,none⟩=some (.slice A7 p.payload.length c7)∧w'.cell? ⟨w.heap.size,10,none⟩=some (.string p.client)∧w'.cell? ⟨w.heap.size,11,none⟩=some (.bool p.clean)∧w'.cell? ⟨w.heap.size,12,none⟩=some (.int .i64 p.keep)∧w'.cell? ⟨w.heap.size,14,none⟩=some (.slice A14 p.user.length c14)∧w'.cell? ⟨w.heap.size,15,none⟩=some (.slice A15 p.pass.length c15)∧w'.cell? ⟨w.heap.size,16,none⟩=some (.bool p.present)∧w'.cell? ⟨w.heap.size,17,none⟩=some (.int .i64 p.code)∧w'.cell? ⟨w.heap.size,18,none⟩=some (.slice A18 p.codes.length c18)∧w'.cell? ⟨w.heap.size,20,none⟩=some (.slice A20 p.props.length c20)∧w'.cell? ⟨w.heap.size,13,none⟩=some (.slice A13 p.will.length c13)∧w'.cell? ⟨w.heap.size,19,none⟩=some (.slice A19 p.subs.length c19)∧Keeps [] W w')) (by kernel_rfl) (HCELL.o _ (Keeps.drew W)) (fun hHeld=>?_)
  simp only[s4,s5,Nat.reduceAdd,s6,s7]
  repeat((first|refine tkx ?_|refine tku ?_);simp only[setN,Act.put,s1,s2,s3])
  refine wpAnyH_ready (rs:=[34,36]) (by kernel_rfl) (by simp) ?_
  refine AllReadyH.cons (o:=⟨some 42,_,_,_,_,_⟩) rfl (fun K hK=>?_) (AllReadyH.cons (o:=⟨some 3,_,_,_,_,_⟩) rfl (fun K hK=>?_) AllReadyH.nil)
  ·rw[if_pos (by rfl)]
   go_simp
   refine(HPR.o _ (Keeps.drew W)).mono ?_
   rintro e w1 ⟨Ap,cp,rfl,hsp,hap,hk1⟩
   have hkk:=(Keeps.drew W).trans hk1 (by simp)
   have HSP:=hH hsp
   have HAP:Hd (∀a,Ap=some a→W.heap.size≤a.block):=hap
   clear hsp hap hHeld
   refine hK.out _ _ (HCELL.o _ hkk) (fun hHeld=>?_)
   clear hK K
   simp only[setN,Act.put,s1,s2,s3]
   repeat((first|refine tkx ?_|refine tku ?_);simp only[setN,Act.put,s1,s2,s3])
   refine tkc fun K hK=>?_
   go_simp
   have hbg:=Blk.new w1 35 #[.int .i64 0,.int .i64 0,.bool false,.bool false,.int .i64 0,.int .i64 0,.string ⟨#[]⟩,.slice none 0 0,.string ⟨#[]⟩,.bool false,.int .i64 0,.slice none 0 0,.slice none 0 0,.slice none 0 0,.bool false,.int .i64 0,.slice none 0 0,.slice none 0 0,.slice none 0 0]
   have hkw:=hkk.trans (Keeps.alloc w1 (.cells #[.int .i64 0,.int .i64 0,.bool false,.bool false,.int .i64 0,.int .i64 0,.string ⟨#[]⟩,.slice none 0 0,.string ⟨#[]⟩,.bool false,.int .i64 0,.slice none 0 0,.slice none 0 0,.slice none 0 0,.bool false,.int .i64 0,.slice none 0 0,.slice none 0 0,.slice none 0 0] 35)) (by simp)
   have hws:=hkk.size
   have hsx:SlAt (fun b=>b≠w1.heap.size∧W.heap.size≤b) (w1.alloc (.cells #[.int .i64 0,.int .i64 0,.bool false,.bool false,.int .i64 0,.int .i64 0,.string ⟨#[]⟩,.slice none 0 0,.string ⟨#[]⟩,.bool false,.int .i64 0,.slice none 0 0,.slice none 0 0,.slice none 0 0,.bool false,.int .i64 0,.slice none 0 0,.slice none 0 0,.slice none 0 0] 35)) (.slice Ap p.props.length cp) 4 p.props.length (p.props.flatMap PropV.cells):=by
    obtain⟨A9,c9,h9,h10,h11,h12⟩:=HSP.o
    injection h9 with h9a h9b h9c
    subst h9a h9c
    exact SlAt.keep (N:=fun b=>b≠w1.heap.size∧W.heap.size≤b) ⟨_,_,rfl,h10,h11,fun a ha h0=>⟨(h12 a ha h0).1,by have:=(h12 a ha h0).1;omega,HAP.o a ha⟩⟩ (Keeps.alloc w1 (.cells #[.int .i64 0,.int .i64 0,.bool false,.bool false,.int .i64 0,.int .i64 0,.string ⟨#[]⟩,.slice none 0 0,.string ⟨#[]⟩,.bool false,.int .i64 0,.slice none 0 0,.slice none 0 0,.slice none 0 0,.bool false,.int .i64 0,.slice none 0 0,.slice none 0 0,.slice none 0 0] 35)) (by simp)
   clear hHeld
   refine hK.out _ _ (HCELL.o _ hkw) (fun hHeld=>?_)
   clear hK K
   simp only[setN,Act.put,s1,s2,s3]
   generalize w1.alloc (.cells #[.int .i64 0,.int .i64 0,.bool false,.bool false,.int .i64 0,.int .i64 0,.string ⟨#[]⟩,.slice none 0 0,.string ⟨#[]⟩,.bool false,.int .i64 0,.slice none 0 0,.slice none 0 0,.slice none 0 0,.bool false,.int .i64 0,.slice none 0 0,.slice none 0 0,.slice none 0 0] 35)=wd at*
   generalize w1.heap.size=g3 at*
   repeat((first|refine tkx ?_|refine tku ?_);simp only[setN,Act.put,s1,s2,s3])
   refine tkc fun K hK=>?_
   refine wp_store_row 35 (.tmp 3) (.tmp 43) rfl g3 #[.int .i64 p.kind,.int .i64 p.version,.bool p.dup,.bool p.retain,.int .i64 p.qos,.int .i64 p.id,.string p.topic,.slice A7 p.payload.length c7,.string p.client,.bool p.clean,.int .i64 p.keep,.slice none 0 0,.slice A14 p.user.length c14,.slice A15 p.pass.length c15,.bool p.present,.int .i64 p.code,.slice A18 p.codes.length c18,.slice none 0 0,.slice Ap p.props.length cp] (by rfl) (by rfl) 35 #[.int .i64 0,.int .i64 0,.bool false,.bool false,.int .i64 0,.int .i64 0,.string ⟨#[]⟩,.slice none 0 0,.string ⟨#[]⟩,.bool false,.int .i64 0,.slice none 0 0,.slice none 0 0,.slice none 0 0,.bool false,.int .i64 0,.slice none 0 0,.slice none 0 0,.slice none 0 0] hbg HI.o rfl (by simp only[List.all_toArray,List.all_cons,List.all_nil];rfl) ?_
   have hkf:=hkw.trans (keeps_setRow wd g3 #[.int .i64 p.kind,.int .i64 p.version,.bool p.dup,.bool p.retain,.int .i64 p.qos,.int .i64 p.id,.string p.topic,.slice A7 p.payload.length c7,.string p.client,.bool p.clean,.int .i64 p.keep,.slice none 0 0,.slice A14 p.user.length c14,.slice A15 p.pass.length c15,.bool p.present,.int .i64 p.code,.slice A18 p.codes.length c18,.slice none 0 0,.slice Ap p.props.length cp]) (fun x hx=>.inr (by rw[List.mem_singleton] at hx;omega))
   clear hHeld
   refine hK.out _ _ (HCELL.o _ hkf) (fun hHeld=>?_)
   clear hK K
   simp only[setN,Act.put,s1,s2,s3]
   refine tkDone (by kernel_rfl) ?_
   go_wp2_with fail
   go_meet
   case rel=>exact⟨g3,Ap,cp,rfl,(by rw[show(#[.int .i64 p.kind,.int .i64 p.version,.bool p.dup,.bool p.retain,.int .i64 p.qos,.int .i64 p.id,.string p.topic,.slice A7 p.payload.length c7,.string p.client,.bool p.clean,.int .i64 p.keep,.slice none 0 0,.slice A14 p.user.length c14,.slice A15 p.pass.length c15,.bool p.present,.int .i64 p.code,.slice A18 p.codes.length c18,.slice none 0 0,.slice Ap p.props.length cp]:Array Value)=mk35 p v (.slice none 0 0) (.slice none 0 0) (.slice Ap p.props.length cp) from by(rw[←E7.o,←E14.o,←E15.o,←E18.o];rfl)];exact blk_setRow hbg _),(by omega),SlAt.keep hsx (keeps_setRow wd g3 #[.int .i64 p.kind,.int .i64 p.version,.bool p.dup,.bool p.retain,.int .i64 p.qos,.int .i64 p.id,.string p.topic,.slice A7 p.payload.length c7,.string p.client,.bool p.clean,.int .i64 p.keep,.slice none 0 0,.slice A14 p.user.length c14,.slice A15 p.pass.length c15,.bool p.present,.int .i64 p.code,.slice A18 p.codes.length c18,.slice none 0 0,.slice Ap p.props.length cp]) (by simp),hkf⟩
  ·rw[if_pos (by rfl)]
   go_simp
   have hbg0:=(Blk.new W 35 #[.int .i64 0,.int .i64 0,.bool false,.bool false,.int .i64 0,.int .i64 0,.string ⟨#[]⟩,.slice none 0 0,.string ⟨#[]⟩,.bool false,.int .i64 0,.slice none 0 0,.slice none 0 0,.slice none 0 0,.bool false,.int .i64 0,.slice none 0 0,.slice none 0 0,.slice none 0 0]).drew
   have hkw0:=(Keeps.alloc W (.cells #[.int .i64 0,.int .i64 0,.bool false,.bool false,.int .i64 0,.int .i64 0,.string ⟨#[]⟩,.slice none 0 0,.string ⟨#[]⟩,.bool false,.int .i64 0,.slice none 0 0,.slice none 0 0,.slice none 0 0,.bool false,.int .i64 0,.slice none 0 0,.slice none 0 0,.slice none 0 0] 35)).trans (Keeps.drew _) (by simp)
   clear hHeld
   refine hK.out _ _ (HCELL.o _ hkw0) (fun hHeld=>?_)
   clear hK K
   simp only[setN,Act.put,s1,s2,s3]
   generalize (W.alloc (.cells #[.int .i64 0,.int .i64 0,.bool false,.bool false,.int .i64 0,.int .i64 0,.string ⟨#[]⟩,.slice none 0 0,.string ⟨#[]⟩,.bool false,.int .i64 0,.slice none 0 0,.slice none 0 0,.slice none 0 0,.bool false,.int .i64 0,.slice none 0 0,.slice none 0 0,.slice none 0 0] 35)).drew=wa at*
   refine tkc fun K hK=>?_
   go_simp
   refine(HPR.o _ hkw0).mono ?_
   rintro e wd ⟨Ap,cp,rfl,hsp,hap,hk1⟩
   have hkw:=hkw0.trans hk1 (by simp)
   have hbg:=hbg0.keep hk1 (by simp)
   have hlt:=hbg0.lt
   have hsx:SlAt (fun b=>b≠W.heap.size∧W.heap.size≤b) wd (.slice Ap p.props.length cp) 4 p.props.length (p.props.flatMap PropV.cells):=by
    obtain⟨A9,c9,h9,h10,h11,h12⟩:=hsp
    injection h9 with h9a h9b h9c
    subst h9a h9c
    exact⟨_,_,rfl,h10,h11,fun a ha h0=>⟨(h12 a ha h0).1,by have:=hap a ha;have:=hkw0.size;omega,by have:=hap a ha;have:=hkw0.size;omega⟩⟩
   clear hsp hap hHeld
   refine hK.out _ _ (HCELL.o _ hkw) (fun hHeld=>?_)
   clear hK K
   simp only[setN,Act.put,s1,s2,s3]
   repeat((first|refine tkx ?_|refine tku ?_);simp only[setN,Act.put,s1,s2,s3])
   refine tkc fun K hK=>?_
   refine wp_store_row 35 (.tmp 3) (.tmp 43) rfl W.heap.size #[.int .i64 p.kind,.int .i64 p.version,.bool p.dup,.bool p.retain,.int .i64 p.qos,.int .i64 p.id,.string p.topic,.slice A7 p.payload.length c7,.string p.client,.bool p.clean,.int .i64 p.keep,.slice none 0 0,.slice A14 p.user.length c14,.slice A15 p.pass.length c15,.bool p.present,.int .i64 p.code,.slice A18 p.codes.length c18,.slice none 0 0,.slice Ap p.props.length cp] (by rfl) (by rfl) 35 #[.int .i64 0,.int .i64 0,.bool false,.bool false,.int .i64 0,.int .i64 0,.string ⟨#[]⟩,.slice none 0 0,.string ⟨#[]⟩,.bool false,.int .i64 0,.slice none 0 0,.slice none 0 0,.slice none 0 0,.bool false,.int .i64 0,.slice none 0 0,.slice none 0 0,.slice none 0 0] hbg HI.o rfl (by simp only[List.all_toArray,List.all_cons,List.all_nil];rfl) ?_
   have hkf:=hkw.trans (keeps_setRow wd W.heap.size #[.int .i64 p.kind,.int .i64 p.version,.bool p.dup,.bool p.retain,.int .i64 p.qos,.int .i64 p.id,.string p.topic,.slice A7 p.payload.length c7,.string p.client,.bool p.clean,.int .i64 p.keep,.slice none 0 0,.slice A14 p.user.length c14,.slice A15 p.pass.length c15,.bool p.present,.int .i64 p.code,.slice A18 p.codes.length c18,.slice none 0 0,.slice Ap p.props.length cp]) (fun x hx=>.inr (by rw[List.mem_singleton] at hx;omega))
   clear hHeld
   refine hK.out _ _ (HCELL.o _ hkf) (fun hHeld=>?_)
   clear hK K
   simp only[setN,Act.put,s1,s2,s3]
   refine tkDone (by kernel_rfl) ?_
   go_wp2_with fail
   go_meet
   case rel=>exact⟨W.heap.size,Ap,cp,rfl,(by rw[show(#[.int .i64 p.kind,.int .i64 p.version,.bool p.dup,.bool p.retain,.int .i64 p.qos,.int .i64 p.id,.string p.topic,.slice A7 p.payload.length c7,.string p.client,.bool p.clean,.int .i64 p.keep,.slice none 0 0,.slice A14 p.user.length c14,.slice A15 p.pass.length c15,.bool p.present,.int .i64 p.code,.slice A18 p.codes.length c18,.slice none 0 0,.slice Ap p.props.length cp]:Array Value)=mk35 p v (.slice none 0 0) (.slice none 0 0) (.slice Ap p.props.length cp) from by(rw[←E7.o,←E14.o,←E15.o,←E18.o];rfl)];exact blk_setRow hbg _),(by omega),SlAt.keep hsx (keeps_setRow wd W.heap.size #[.int .i64 p.kind,.int .i64 p.version,.bool p.dup,.bool p.retain,.int .i64 p.qos,.int .i64 p.id,.string p.topic,.slice A7 p.payload.length c7,.string p.client,.bool p.clean,.int .i64 p.keep,.slice none 0 0,.slice A14 p.user.length c14,.slice A15 p.pass.length c15,.bool p.present,.int .i64 p.code,.slice A18 p.codes.length c18,.slice none 0 0,.slice Ap p.props.length cp]) (by simp),hkf⟩
 case rest=>
 obtain⟨g3,Ap,cp,rfl,hbg,hgw,hsx,hk1⟩:=hcut
 have HBG:=hH hbg
 have HSX:=hH hsx
 have HK1:=hH hk1
 have HGW:=hH hgw
 clear hbg hsx hk1 hgw
 obtain⟨t0,t1,t2,t3,t4,t5,t6,t7,t10,t11,t12,t14,t15,t16,t17,t18,t20,t13,t19,_⟩:=HCELL.o wc HK1.o
 have hlw:=HF.o.will.len
 have hls:=HF.o.subs.len
 clear t0 t1 t2 t3 t4 t5 t6 t7 t10 t11 t12 t14 t15 t16 t17 t18 t20 t19
 go_wp2_with fail
 go_loopg [47] (p.will.length+1) (fun gk i wr=>WlRel (fun b=>b≠g3∧b≠w.heap.size+1) p v g3 (.slice Ap p.props.length cp) wc gk i wr)
 case atStart=>exact⟨0,none,0,[],rfl,by omega,by omega,HBG.o,World.ownsRow_nil wc 0 53 5,by simp,by simp,Keeps.refl _ _⟩
 case round=>
  obtain⟨k,A1,c1,xs,rfl,hk,hgk,hB,hown,hws,hA1,hkw⟩:=hrel
  have HB:=hH hB
  have HOWN:=hH hown
  have HWS:=hH hws
  have HA1:=hH hA1
  have HKW:=hH hkw
  have HKX:=hH (HK1.o.trans hkw (by simp;have:=HGW.o;omega))
  clear hB hown hws hA1 hkw t13
  by_cases hlt:k<p.will.length
  ·obtain⟨g',rfl⟩:∃g',gk=g'+1:=⟨gk-1,by omega⟩
   have hltz:(k:Int)<(p.will.length:Int):=by omega
   obtain⟨u,hu⟩:∃u,p.will[k]?=some u:=⟨_,List.getElem?_eq_getElem hlt⟩
   have HU:=hH hu
   have hfu:=HF.o.will.all u (List.mem_of_getElem? hu)
   obtain⟨f0,⟨y1,f1,B1,k1,rfl,r1,n1,h1⟩,f2,f3,y4,f4,B4,k4,rfl,r4,n4,h4⟩:=M13.o k u hu
   obtain⟨b0,o0,rfl,hcl⟩:=R13.o.2 (by omega)
   clear hu
   have x0:wr.cell? ⟨b0,o0+k*5,none⟩=some (.string u.topic):=HKX.o.some_ (hcl _ _ f0) (by simp)
   have x1:wr.cell? ⟨b0,o0+k*5+1,none⟩=some (.slice B1 u.payload.length k1):=HKX.o.some_ (by rw[Nat.add_assoc];exact hcl _ _ f1) (by simp)
   have x2:wr.cell? ⟨b0,o0+k*5+2,none⟩=some (.int .i64 u.qos):=HKX.o.some_ (by rw[Nat.add_assoc];exact hcl _ _ f2) (by simp)
   have x3:wr.cell? ⟨b0,o0+k*5+3,none⟩=some (.bool u.retain):=HKX.o.some_ (by rw[Nat.add_assoc];exact hcl _ _ f3) (by simp)
   have x4:wr.cell? ⟨b0,o0+k*5+4,none⟩=some (.slice B4 u.props.length k4):=HKX.o.some_ (by rw[Nat.add_assoc];exact hcl _ _ f4) (by simp)
   have HY1:Hd (SlAt N w (.slice B1 u.payload.length k1) 1 u.payload.length (bvs u.payload)):=⟨B1,k1,rfl,r1,n1,h1⟩
   have HY4:Hd (SlAt N w (.slice B4 u.props.length k4) 4 u.props.length (u.props.flatMap PropV.cells)):=⟨B4,k4,rfl,r4,n4,h4⟩
   clear hcl f0 f1 f2 f3 f4 r1 h1 r4 h4
   go_upto_region 5 with fail
   have HNB:=hH (Blk.new wr 51 #[.string u.topic,.slice B1 u.payload.length k1,.int .i64 u.qos,.bool u.retain,.slice B4 u.props.length k4])
   have HKV:=hH (Keeps.alloc wr (.cells #[.string u.topic,.slice B1 u.payload.length k1,.int .i64 u.qos,.bool u.retain,.slice B4 u.props.length k4] 51))
   generalize wr.alloc (.cells #[.string u.topic,.slice B1 u.payload.length k1,.int .i64 u.qos,.bool u.retain,.slice B4 u.props.length k4] 51)=W5 at*
   generalize hnb:wr.heap.size=nb at*
   clear x0 x1 x2 x3 x4
   have hS:∀w',Blk w' nb 51 #[.string u.topic,.slice B1 u.payload.length k1,.int .i64 u.qos,.bool u.retain,.slice B4 u.props.length k4]→(w'.cell? ⟨nb,0,none⟩=some (.string u.topic)∧w'.cell? ⟨nb,1,none⟩=some (.slice B1 u.payload.length k1)∧w'.cell? ⟨nb,2,none⟩=some (.int .i64 u.qos)∧w'.cell? ⟨nb,3,none⟩=some (.bool u.retain)∧w'.cell? ⟨nb,4,none⟩=some (.slice B4 u.props.length k4)):=fun w' b=>⟨by rw[b.cell];rfl,by rw[b.cell];rfl,by rw[b.cell];rfl,by rw[b.cell];rfl,by rw[b.cell];rfl⟩
   have hP4:=fun w' (kk:Keeps [] W w')=>props_c N w' (.slice B4 u.props.length k4) u.props (SlAt.keep HY4.o (HK.o.trans kk (by simp)) (by simp)) hfu.p.len
   have HP4:=hH hP4
   clear hP4
   have hgl:g3<wc.heap.size:=HBG.o.lt
   have hgb:g3≠nb:=by have:=(HB.o).lt;omega
   have hA1l:∀q,A1.map (·.block)=some q→q<nb∧q≠g3:=fun q hq=>⟨by rw[←hnb];exact own_lt HOWN.o q hq,by have:=HA1.o q hq;omega⟩
   obtain⟨i53,hi53,z1,z2,z3⟩:=info_parts info53
   have hxl:=HOWN.o.1
   refine tkSt hS HNB.o.drew (by kernel_rfl) fun hHeld=>?_
   simp only[s4,s5,Nat.reduceAdd,s6,s7]
   have hkb:=(HKV.o).trans (Keeps.drew W5) (by simp)
   have hb0:=HNB.o.drew
   generalize W5.drew=wb at*
   repeat((first|refine tkx ?_|refine tku ?_);simp only[setN,Act.put,s1,s2,s3])
   refine tki 2 53 ?_
   simp only[setN,Act.put,s1,s2,s3]
   refine tki 3 54 ?_
   simp only[setN,Act.put,s1,s2,s3]
   refine tki 4 55 ?_
   simp only[setN,Act.put,s1,s2,s3]
   refine tki 5 56 ?_
   simp only[setN,Act.put,s1,s2,s3]
   refine tki 6 57 ?_
   simp only[setN,Act.put,s1,s2,s3]
   refine tki 7 58 ?_
   simp only[setN,Act.put,s1,s2,s3]
   refine tki 8 59 ?_
   simp only[setN,Act.put,s1,s2,s3]
   refine tki 9 60 ?_
   simp only[setN,Act.put,s1,s2,s3]
   refine tki 10 61 ?_
   simp only[setN,Act.put,s1,s2,s3]
   refine tki 11 62 ?_
   simp only[setN,Act.put,s1,s2,s3]
   refine wpAnyH_ready (rs:=[1,12]) (by kernel_rfl) (by simp) ?_
   refine AllReadyH.cons (o:=⟨some 52,_,_,_,_,_⟩) rfl (fun K hK=>?_) (AllReadyH.cons (o:=⟨some 63,_,_,_,_,_⟩) rfl (fun K hK=>?_) AllReadyH.nil)
   ·rw[if_pos (by rfl)]
    have hcw:wb.cell? ⟨g3,11,none⟩=some (.slice A1 k c1):=by rw[((HB.o).keep hkb (by simp)).cell];rfl
    go_simp
    refine hK.out _ _ hHeld (fun hHeld=>?_)
    clear hK K hcw
    simp only[setN,Act.put,s1,s2,s3]
    refine tkc fun K hK=>?_
    go_simp
    refine(HP4.o _ (HKX.o.trans hkb (by simp))).mono ?_
    rintro e w2 ⟨Aq,cq,rfl,hsq,haq,hk2⟩
    have hkc:=(hkb).trans hk2 (by simp)
    have hbc:=(hb0).keep hk2 (by simp)
    have hps:SlAt (fun b=>(b≠g3∧b≠w.heap.size+1)∧A1.map (·.block)≠some b) w2 (.slice Aq u.props.length cq) 4 u.props.length (u.props.flatMap PropV.cells):=by
     exact zT2
    clear hsq haq hHeld
    refine hK.out _ _ (hS _ hbc) (fun hHeld=>?_)
    clear hK K
    simp only[setN,Act.put,s1,s2,s3]
    repeat((first|refine tkx ?_|refine tku ?_);simp only[setN,Act.put,s1,s2,s3])
    exact zT1
   ·rw[if_pos (by rfl)]
    go_simp
    refine(HP4.o _ (HKX.o.trans hkb (by simp))).mono ?_
    rintro e w2 ⟨Aq,cq,rfl,hsq,haq,hk2⟩
    have hkc:=(hkb).trans hk2 (by simp)
    have hbc:=(hb0).keep hk2 (by simp)
    have hps:SlAt (fun b=>(b≠g3∧b≠w.heap.size+1)∧A1.map (·.block)≠some b) w2 (.slice Aq u.props.length cq) 4 u.props.length (u.props.flatMap PropV.cells):=by
     exact zT2
    clear hsq haq hHeld
    refine hK.out _ _ (hS _ hbc) (fun hHeld=>?_)
    clear hK K
    simp only[setN,Act.put,s1,s2,s3]
    refine tki 13 64 ?_
    simp only[setN,Act.put,s1,s2,s3]
    refine wpAnyH_ready (rs:=[1,14]) (by kernel_rfl) (by simp) ?_
    refine AllReadyH.cons (o:=⟨some 52,_,_,_,_,_⟩) rfl (fun K hK=>?_) (AllReadyH.cons (o:=⟨some 65,_,_,_,_,_⟩) rfl (fun K hK=>?_) AllReadyH.nil)
    ·rw[if_pos (by rfl)]
     have hcw:w2.cell? ⟨g3,11,none⟩=some (.slice A1 k c1):=by rw[((HB.o).keep hkc (by simp)).cell];rfl
     go_simp
     refine hK.out _ _ hHeld (fun hHeld=>?_)
     clear hK K hcw
     simp only[setN,Act.put,s1,s2,s3]
     exact zT1
    ·rw[if_pos (by rfl)]
     go_simp
     have hks:=hkc.trans (Keeps.alloc w2 (.cells #[.string u.topic,.slice B1 u.payload.length k1,.int .i64 u.qos,.bool u.retain,.slice Aq u.props.length cq] 53)) (by simp)
     have hbs:=hbc.alloc (.cells #[.string u.topic,.slice B1 u.payload.length k1,.int .i64 u.qos,.bool u.retain,.slice Aq u.props.length cq] 53)
     have hrs:=rd_new w2 53 #[.string u.topic,.slice B1 u.payload.length k1,.int .i64 u.qos,.bool u.retain,.slice Aq u.props.length cq] 5 1 rfl
     have hps2:=hps.keep (Keeps.alloc w2 (.cells #[.string u.topic,.slice B1 u.payload.length k1,.int .i64 u.qos,.bool u.retain,.slice Aq u.props.length cq] 53)) (by simp)
     clear hHeld
     refine hK.out _ _ (hS _ hbs) (fun hHeld=>?_)
     clear hK K
     simp only[setN,Act.put,s1,s2,s3]
     generalize w2.alloc (.cells #[.string u.topic,.slice B1 u.payload.length k1,.int .i64 u.qos,.bool u.retain,.slice Aq u.props.length cq] 53)=ws at*
     generalize w2.heap.size=sb at*
     refine tkc fun K hK=>?_
     have hcw:ws.cell? ⟨g3,11,none⟩=some (.slice A1 k c1):=by rw[((HB.o).keep hks (by simp)).cell];rfl
     go_simp
     refine hK.out _ _ hHeld (fun hHeld=>?_)
     clear hK K hcw
     simp only[setN,Act.put,s1,s2,s3]
     exact zT0
  ·have hkl:k=p.will.length:=by omega
   subst hkl
   have hws:=HWS.o
   rw[List.take_length] at hws
   have ho:=HOWN.o
   have hbl:∀a,A1=some a→a.block<wr.heap.size∧a.block≠g3∧a.block≠w.heap.size+1:=fun a ha=>⟨own_lt ho a.block (by rw[ha];rfl),by have:=HA1.o a.block (by rw[ha];rfl);have:=HBG.o.lt;omega,by have:=HA1.o a.block (by rw[ha];rfl);have:=HBG.o.lt;have:=HGW.o;have:=HS.o;omega⟩
   have HWI:Hd (WillsAt (fun b=>b≠g3∧b≠w.heap.size+1) wr (.slice A1 p.will.length c1) p.will):=⟨xs,⟨A1,c1,rfl,own_rd ho,own_cap2 ho,fun a ha _=>hbl a ha⟩,fun j x hx=>(hws j x hx).mono (fun b _ h=>h.1)⟩
   have HK2:=hH (HKW.o)
   clear hws ho hbl HWS HOWN HA1
   obtain⟨t0,t1,t2,t3,t4,t5,t6,t7,t10,t11,t12,t14,t15,t16,t17,t18,t20,t13,t19,_⟩:=HCELL.o wr HKX.o
   clear t0 t1 t2 t3 t4 t5 t6 t7 t10 t11 t12 t14 t15 t16 t17 t18 t20 t13
   obtain⟨i56,hi56,z1,z2,z3⟩:=info_parts info56
   have HI56:=hH hi56
   have Z1:=hH z1
   have Z2:=hH z2
   have Z3:=hH z3
   clear hi56 z1 z2 z3
   go_wp2_with fail
   go_loopg [72] (p.subs.length+1) (fun gk i wz=>SbRel p v g3 (.slice A1 p.will.length c1) (.slice Ap p.props.length cp) wr gk i wz)
   case atStart=>exact⟨0,none,0,rfl,by omega,by omega,HB.o,by simpa using World.ownsRow_nil wr 0 56 5,by simp,Keeps.refl _ _⟩
   case round=>
    obtain⟨m,A5,c5,rfl,hm5,hgm,hB5,ho5,hA5,hk5⟩:=hrel
    have HB5:=hH hB5
    have HO5:=hH ho5
    have HA5:=hH hA5
    have HK5:=hH hk5
    have HKX5:=hH (HKX.o.trans hk5 (by simp;have:=HGW.o;omega))
    clear hB5 ho5 hA5 hk5 t19
    by_cases hlt5:m<p.subs.length
    ·obtain⟨g2,rfl⟩:∃g2,gk=g2+1:=⟨gk-1,by omega⟩
     have hltz:(m:Int)<(p.subs.length:Int):=by omega
     obtain⟨u,hu⟩:∃u,p.subs[m]?=some u:=⟨_,List.getElem?_eq_getElem hlt5⟩
     have HU:=hH hu
     have fx:=flat5_get p.subs m u hu
     obtain⟨b0,o0,rfl,hcl⟩:=R19.o.2 (by omega)
     clear hu
     have x0:wr.cell? ⟨b0,o0+m*5,none⟩=some (.string u.filter):=HKX5.o.some_ (hcl _ _ (fx 0 (by omega))) (by simp)
     have x1:wr.cell? ⟨b0,o0+m*5+1,none⟩=some (.int .i64 u.qos):=HKX5.o.some_ (by rw[Nat.add_assoc];exact hcl _ _ (fx 1 (by omega))) (by simp)
     have x2:wr.cell? ⟨b0,o0+m*5+2,none⟩=some (.bool u.nl):=HKX5.o.some_ (by rw[Nat.add_assoc];exact hcl _ _ (fx 2 (by omega))) (by simp)
     have x3:wr.cell? ⟨b0,o0+m*5+3,none⟩=some (.bool u.ap):=HKX5.o.some_ (by rw[Nat.add_assoc];exact hcl _ _ (fx 3 (by omega))) (by simp)
     have x4:wr.cell? ⟨b0,o0+m*5+4,none⟩=some (.int .i64 u.handling):=HKX5.o.some_ (by rw[Nat.add_assoc];exact hcl _ _ (fx 4 (by omega))) (by simp)
     clear hcl fx
     go_upto_region 10 with fail
     have HNB:=hH (Blk.new wr 55 #[.string u.filter,.int .i64 u.qos,.bool u.nl,.bool u.ap,.int .i64 u.handling])
     have HKV:=hH (Keeps.alloc wr (.cells #[.string u.filter,.int .i64 u.qos,.bool u.nl,.bool u.ap,.int .i64 u.handling] 55))
     have HO6:=hH (HO5.o.alloc (.cells #[.string u.filter,.int .i64 u.qos,.bool u.nl,.bool u.ap,.int .i64 u.handling] 55))
     have HB6:=hH (HB5.o.alloc (.cells #[.string u.filter,.int .i64 u.qos,.bool u.nl,.bool u.ap,.int .i64 u.handling] 55))
     generalize wr.alloc (.cells #[.string u.filter,.int .i64 u.qos,.bool u.nl,.bool u.ap,.int .i64 u.handling] 55)=W5 at*
     generalize wr.heap.size=nb at*
     clear x0 x1 x2 x3 x4
     have y0:W5.cell? ⟨nb,0,none⟩=some (.string u.filter):=by rw[HNB.o.cell];rfl
     have y1:W5.cell? ⟨nb,1,none⟩=some (.int .i64 u.qos):=by rw[HNB.o.cell];rfl
     have y2:W5.cell? ⟨nb,2,none⟩=some (.bool u.nl):=by rw[HNB.o.cell];rfl
     have y3:W5.cell? ⟨nb,3,none⟩=some (.bool u.ap):=by rw[HNB.o.cell];rfl
     have y4:W5.cell? ⟨nb,4,none⟩=some (.int .i64 u.handling):=by rw[HNB.o.cell];rfl
     have y17:W5.cell? ⟨g3,17,none⟩=some (.slice A5 m c5):=by rw[HB6.o.cell];rfl
     have HRN:Hd (Rd (W5.alloc (.cells #[.string u.filter,.int .i64 u.qos,.bool u.nl,.bool u.ap,.int .i64 u.handling] 56)) 5 (some ⟨W5.heap.size,0,none⟩) 1 u.cells):=rd_new W5 56 #[.string u.filter,.int .i64 u.qos,.bool u.nl,.bool u.ap,.int .i64 u.handling] 5 1 rfl
     have HON:=hH (HO6.o.alloc (.cells #[.string u.filter,.int .i64 u.qos,.bool u.nl,.bool u.ap,.int .i64 u.handling] 56))
     have HBN:=hH (HB6.o.alloc (.cells #[.string u.filter,.int .i64 u.qos,.bool u.nl,.bool u.ap,.int .i64 u.handling] 56))
     have hgo:g3∉(Value.slice A5 m c5).ownBlock.toList:=fun hm=>by rw[own_slice] at hm;have:=HA5.o g3 (Option.mem_toList.1 hm);have:=HB.o.lt;omega
     have HGO:=hH hgo
     clear hgo
     go_wp2_with (at_builtin;refine wpList_append_rd _ rfl (.tmp 77) (.tmp 89) 32 rfl 56 i56 _ 5 40 underlying32 HI56.o Z1.o Z2.o Z3.o rfl (by decide) (.slice A5 m c5) m _ rfl HON.o _ 1 1 _ rfl HRN.o (by intro u hu;simp[SubP.cells] at hu;rcases hu with rfl|rfl|rfl|rfl|rfl<;>rfl) (by omega) (by unfold maxLen;omega) ?_;intro A2 c2 w2 ho2 hk2 hd2;have HBZ:=hH (HBN.o.keep hk2 HGO.o);have c17z:w2.cell? ⟨g3,17,none⟩=some (.slice A5 m c5):=(by rw[HBZ.o.cell];rfl);have f17z:w2.frozen? ⟨g3,17,none⟩=false:=HBZ.o.frozen _;have HQ:=hH (sub_next (g':=g2) HU.o hlt5 hgm HB.o.lt HA5.o HK5.o (HKV.o.trans (Keeps.alloc W5 _) (by simp)) HBZ.o ho2 hk2 hd2);clear ho2 hk2 hd2)
     go_roundg g2
     case measure=>omega
     case rel=>exact HQ.o
    ·have hml:m=p.subs.length:=by omega
     subst hml
     have hs6:=HO5.o
     rw[List.take_length] at hs6
     have HSU:Hd (SlAt (fun b=>b≠w.heap.size+1) wr (.slice A5 p.subs.length c5) 5 p.subs.length (p.subs.flatMap SubP.cells)):=⟨A5,c5,rfl,own_rd hs6,own_cap2 hs6,fun a ha _=>⟨own_lt hs6 a.block (by rw[ha];rfl),by have:=HA5.o a.block (by rw[ha];rfl);have:=HB.o.lt;have:=HGW.o;have:=HS.o;omega⟩⟩
     clear hs6
     have hBf:=HB5.o
     have HTE:=hH (rfl:mk35 p v (.slice A1 p.will.length c1) (.slice A5 p.subs.length c5) (.slice Ap p.props.length cp)=mk35 p v (.slice A1 p.will.length c1) (.slice A5 p.subs.length c5) (.slice Ap p.props.length cp))
     obtain⟨tg,htg⟩:∃tg:Array Value,tg=mk35 p v (.slice A1 p.will.length c1) (.slice A5 p.subs.length c5) (.slice Ap p.props.length cp):=⟨_,rfl⟩
     rw[←htg] at hBf
     have HTG:=hH htg
     have HTZ:Hd (tg.size=19):=by show _=_;rw[htg];rfl
     have h1:tg.all (·.oneCell')=true:=by
      have h:=PkMem.sl HM0.o
      rw[htg]
      show(#[.int .i64 p.kind,.int .i64 p.version,.bool p.dup,.bool p.retain,.int .i64 p.qos,.int .i64 p.id,.string p.topic,v 7,.string p.client,.bool p.clean,.int .i64 p.keep,.slice A1 p.will.length c1,v 14,v 15,.bool p.present,.int .i64 p.code,v 18,.slice A5 p.subs.length c5,.slice Ap p.props.length cp]:Array Value).all _=true
      simp only[List.all_toArray,List.all_cons,List.all_nil,h.1,h.2.2.1,h.2.2.2.1,h.2.2.2.2.1];rfl
     have hi:(prog.info? 35).map (·.size)=some tg.size:=by rw[HTZ.o];kernel_rfl
     have HF2:=hH hBf
     have H1:=hH h1
     have HI2:=hH hi
     have HRF:=hH (HBR.o.keep HKX5.o (by simp))
     clear hBf htg h1 hi
     go_wp2_with (first|refine wpList_load_row rfl 35 (.tmp 3) rfl g3 rfl 35 tg (0,0) _ HF2.o underlying35 rfl HI2.o ?_|refine wpList_store_row rfl 35 (.tmp 2) (.tmp 93) rfl (w.heap.size+1) tg rfl rfl 35 (zero35 0 0 (.slice none 0 0)) HRF.o HI2.o HTZ.o.symm H1.o ?_)
     (try simp only[Exit.inBlock,Exit.then])
     refine bodyPost_ret (v:=.agg tg) ?_ rfl ?_
     ·exact results_cell_row rfl _ _ (w.heap.size+1) 35 tg (0,0) _ rfl (blk_setRow HRF.o tg) underlying35 rfl HI2.o
     ·have hset:=keeps_setRow wr (w.heap.size+1) tg
      have hkk:Keeps [] w (wr.setRow (w.heap.size+1) tg):=(HK.o.trans HKX5.o (by simp)).trans hset (by simp)
      have hm0:=HM0.o.keep hkk (by simp)
      have all:∀(b:Nat),b<(wr.setRow (w.heap.size+1) tg).heap.size→N b→AllB b:=fun _ _ _=>trivial
      have hw2:∀{N0:Nat→Prop} (b:Nat),b<(wr.setRow (w.heap.size+1) tg).heap.size→N0 b→AllB b:=fun _ _ _=>trivial
      have k3:=(HKW.o.trans HK5.o (by simp))
      refine⟨fun j=>if j=13 then .slice A1 p.will.length c1 else if j=19 then .slice A5 p.subs.length c5 else if j=20 then .slice Ap p.props.length cp else v j,by rw[HTG.o];rfl,⟨hm0.m7.mono all,?_,?_,?_,SlAt.mono (show SlAt N _ (v 18) 1 p.codes.length (nvs p.codes) from hm0.m18) all,?_,?_⟩,hkk⟩
      ·obtain⟨ys,y1,y2⟩:=(HWI.o.keep HK5.o (by simp)).keep hset (by simp)
       exact⟨ys,y1.mono hw2,fun i u hi=>(y2 i u hi).mono hw2⟩
      ·obtain⟨ys,y1,y2⟩:=hm0.m14
       exact zT5
      ·obtain⟨ys,y1,y2⟩:=hm0.m15
       exact zT5
      ·exact(HSU.o.keep hset (by simp)).mono hw2
      ·exact((HSX.o.keep k3 (by simp)).keep hset (by simp;have:=HS.o;omega)).mono hw2
end Go.Proofs.YtkglmacaecmhdaaGreatDoor
