/- FnRoad, part X: the walks of Q1. -/
import Derived.Test.YtkglmacaecmhdaaGreatDoorNa
import Derived.Test.YtkglmacaecmhdaaGreatDoorSa
import Derived.Test.YtkglmacaecmhdaaGreatDoorW
set_option linter.unusedVariables false
set_option linter.unusedSimpArgs false
set_option maxHeartbeats 16000000
set_option maxRecDepth 100000
namespace Go.Proofs.YtkglmacaecmhdaaGreatDoor
open Go Go.RowKit Tryz
def z29:Array Value:=#[.int .i64 0,.int .i64 0,.bool false,.bool false,.int .i64 0,.int .i64 0,.string ⟨#[]⟩,.slice none 0 0,.string ⟨#[]⟩,.int .i64 0,.string ⟨#[]⟩,.bool false,.int .i64 0,.slice none 0 0,.slice none 0 0,.slice none 0 0,.bool false,.int .i64 0,.slice none 0 0,.slice none 0 0,.slice none 0 0]
def z78:Array Value:=#[.slice none 0 0,.slice none 0 0,.slice none 0 0,.slice none 0 0,.string ⟨#[]⟩,.string ⟨#[]⟩,.string ⟨#[]⟩,.string ⟨#[]⟩,.string ⟨#[]⟩,.string ⟨#[]⟩,.string ⟨#[]⟩,.int .u32 0,.int .u32 0,.int .u32 0,.int .u32 0,.int .u16 0,.int .u16 0,.int .u16 0,.int .u16 0,.int .u8 0,.bool false,.bool false,.bool false,.int .u8 0,.bool false,.int .u8 0,.bool false,.int .u8 0,.bool false,.int .u8 0,.bool false,.int .u8 0,.bool false,.int .u8 0,.bool false,.int .u8 0,.bool false,.slice none 0 0,.slice none 0 0,.slice none 0 0,.slice none 0 0,.string ⟨#[]⟩,.string ⟨#[]⟩,.int .u16 0,.bool false,.bool false,.int .u8 0,.bool false,.bool false,.bool false]
structure PP (w wc:World) (g xb:Nat) (f:Nat→Value) (t4:Nat) (pc:PkV) (h:Nat→Value):Prop where
 bg:Blk wc g 86 (arr f)
 b2:Blk wc w.heap.size 29 z29
 b3:Blk wc (w.heap.size+1) 78 (slc f 0 50).toArray
 b4:Blk wc t4 29 (pc.cells h)
 lt4:w.heap.size+2≤t4
 mem:PkMem (fun b=>b≠t4∧w.heap.size<b) wc pc h
 k:Keeps [] w wc
theorem PP.c {w wc:World} {g xb:Nat} {f:Nat→Value} {t4:Nat} {pc:PkV} {h:Nat→Value} (P:PP w wc g xb f t4 pc h) (j:Nat) (hj:j<50) (v:Value) (hv:f j=v):wc.cell? ⟨w.heap.size+1,j,none⟩=some v:=by
 rw[P.b3.cell,List.getElem?_toArray,slc_get f 0 50 j hj,Nat.zero_add,hv]
theorem PP.keep {w wc w':World} {g xb:Nat} {f:Nat→Value} {t4:Nat} {pc:PkV} {h:Nat→Value} (P:PP w wc g xb f t4 pc h) (k:Keeps [] wc w'):PP w w' g xb f t4 pc h:=
 ⟨P.bg.keep k (by simp),P.b2.keep k (by simp),P.b3.keep k (by simp),P.b4.keep k (by simp),P.lt4,P.mem.keep k (by simp),P.k.trans k (by simp)⟩
theorem PP.set {w wc:World} {g xb t4 i:Nat} {f:Nat→Value} {pc pc2:PkV} {h h2:Nat→Value} {v:Value} (P:PP w wc g xb f t4 pc h) (hgl:g<w.heap.size) (hc:(pc.cells h).setIfInBounds i v=pc2.cells h2) (hm:PkMem (fun b=>b≠t4∧w.heap.size<b) wc pc2 h2):PP w (wc.setCell ⟨t4,i,none⟩ v) g xb f t4 pc2 h2:=by
 have hl:=P.lt4
 have kr:=Keeps.setCell wc ⟨t4,i,none⟩ v
 exact⟨P.bg.keep kr (by simp;omega),P.b2.keep kr (by simp;omega),P.b3.keep kr (by simp;omega),by rw[←hc];exact P.b4.set_ i v,hl,hm.keep kr (fun x hx hn=>by simp at hx;exact absurd hx hn.1),P.k.trans kr (by simp;omega)⟩
theorem PP.range {w wc:World} {g xb t4:Nat} {f:Nat→Value} {pc:PkV} {h:Nat→Value} (P:PP w wc g xb f t4 pc h):wc.rangeAt (w.heap.size+1) 0 (slc f 0 37):=fun j v hv=>by
 have hj:j<37:=by have:=(List.getElem?_eq_some_iff.1 hv).1;rwa [slc_len] at this
 rw[slc_get f 0 37 j hj] at hv
 rw[Nat.zero_add]
 exact P.c j (by omega) v (by rw[Nat.zero_add] at hv;exact Option.some.inj hv)
theorem PP.g {w wc:World} {g xb t4:Nat} {f:Nat→Value} {pc:PkV} {h:Nat→Value} (P:PP w wc g xb f t4 pc h) (j:Nat) (hj:j<108) (v:Value) (hv:f j=v):wc.cell? ⟨g,j,none⟩=some v:=by rw[P.bg.cell,arr_get f j hj,hv]
def CdRel (w W1:World) (t4:Nat) (pc:PkV) (h:Nat→Value) (codes:List Int) (gk:Nat) (i:Value) (wr:World):Prop:=
 ∃(k:Nat) (A:Option Addr) (cc:Nat),i=.int .i64 (k:Int)∧k≤codes.length∧codes.length<gk+k∧Blk wr t4 29 (pc.cells (upd h 18 (.slice A k cc)))∧wr.ownsRow 0 3 1 (.slice A k cc) k (nvs (codes.take k))∧(∀x,A.map (·.block)=some x→W1.heap.size≤x)∧Keeps [t4] W1 wr
def SuRel (w W1:World) (t4:Nat) (pc:PkV) (h:Nat→Value) (subs:List SubP) (gk:Nat) (i:Value) (wr:World):Prop:=
 ∃(k:Nat) (A:Option Addr) (cc:Nat),i=.int .i64 (k:Int)∧k≤subs.length∧subs.length<gk+k∧Blk wr t4 29 (pc.cells (upd h 19 (.slice A k cc)))∧wr.ownsRow 0 55 5 (.slice A k cc) k ((subs.take k).flatMap SubP.cells)∧(∀x,A.map (·.block)=some x→W1.heap.size≤x)∧Keeps [t4] W1 wr
theorem ow_next {W1 wr wq wz:World} {t4 k i:Nat} {e:TypeId} {size:Nat} {A A2:Option Addr} {c1 c2:Nat} {xs ys:List Value} {pc:PkV} {h:Nat→Value} (ht:t4<W1.heap.size) (hi:18≤i) (hi2:i≤19) (hB:Blk wr t4 29 (pc.cells (upd h i (.slice A k c1)))) (hA:∀x,A.map (·.block)=some x→W1.heap.size≤x) (hkw:Keeps [t4] W1 wr) (hkq:Keeps [] wr wq)
 (ho:wz.ownsRow 0 e size (.slice A2 (k+1) c2) (k+1) (xs++ys)) (hkz:Keeps (Value.slice A k c1).ownBlock.toList wq wz) (hd:A2.map (·.block)=(Value.slice A k c1).ownBlock∨A2.map (·.block)=some wq.heap.size):
 Blk (wz.setCell ⟨t4,i,none⟩ (.slice A2 (k+1) c2)) t4 29 (pc.cells (upd h i (.slice A2 (k+1) c2)))∧(wz.setCell ⟨t4,i,none⟩ (.slice A2 (k+1) c2)).ownsRow 0 e size (.slice A2 (k+1) c2) (k+1) (xs++ys)∧(∀x,A2.map (·.block)=some x→W1.heap.size≤x)∧Keeps [t4] W1 (wz.setCell ⟨t4,i,none⟩ (.slice A2 (k+1) c2)):=by
 rw[own_slice] at hkz hd
 have hsq:W1.heap.size≤wq.heap.size:=Nat.le_trans hkw.size hkq.size
 have hA2:∀x,A2.map (·.block)=some x→W1.heap.size≤x:=fun x hx=>by
  rcases hd with h|h
  ·exact hA x (by rw[←h];exact hx)
  ·rw[h] at hx;injection hx with hx;omega
 have hset:=Keeps.setCell wz ⟨t4,i,none⟩ (.slice A2 (k+1) c2)
 have hb2:=((hB.keep hkq (by simp)).keep hkz (fun hm=>by have:=hA t4 (Option.mem_toList.1 hm);omega)).set_ i (.slice A2 (k+1) c2)
 refine⟨?_,ownsRow_keep ho hset (fun x hx hm=>by rw[own_slice] at hx;have:=hA2 x hx;simp at hm;omega),hA2,((hkw.trans hkq (by simp)).trans hkz (fun x hx=>.inr (hA x (Option.mem_toList.1 hx)))).trans hset (by simp)⟩
 rcases(show i=18∨i=19 by omega) with rfl|rfl
 ·exact hb2
 ·exact hb2
theorem info55:(prog.info? 55).map (fun i=>(i.zero,i.size,i.bytes))=some (some (.agg #[.string ⟨#[]⟩,.int .i64 0,.bool false,.bool false,.int .i64 0]),5,40):=by kernel_rfl
theorem bytess_one {w4:World} {N:Nat→Prop} {Ap:Option Addr} {cp:Nat} {ys:List UInt8} (hpr:Rd w4 1 Ap ys.length (bvs ys)) (hpc:ys.length≤cp) (hpb:∀a,Ap=some a→a.block<w4.heap.size∧N a.block) (hN:N w4.heap.size):
 BytessAt N (w4.alloc (.cells #[.slice Ap ys.length cp] 22)) (.slice (some ⟨w4.heap.size,0,none⟩) 1 1) [ys]:=by
 have ka:=Keeps.alloc w4 (.cells #[.slice Ap ys.length cp] 22)
 refine⟨_,⟨_,1,rfl,rd_new w4 22 #[.slice Ap ys.length cp] 1 1 rfl,Nat.le_refl _,fun a ha _=>?_⟩,fun i x hi=>?_⟩
 ·injection ha with ha;subst ha;exact⟨by show w4.heap.size<_;simp,hN⟩
 ·have h0:i=0:=by have:=(List.getElem?_eq_some_iff.1 hi).1;simp at this;omega
  subst h0
  simp at hi
  subst hi
  exact⟨_,rfl,Ap,cp,rfl,hpr.keep ka (by simp),hpc,fun a ha _=>⟨by have:=(hpb a ha).1;simp;omega,(hpb a ha).2⟩⟩
def pc0 (q:PkV):PkV:=⟨q.kind,q.version,q.dup,q.retain,q.qos,q.id,q.topic,q.payload,q.name,0,q.client,q.clean,q.keep,[],[],[],q.present,q.code,[],[],q.props⟩
def vv0 (Ap:Option Addr) (np cp:Nat) (Aq:Option Addr) (nq cq:Nat):Nat→Value:=fun j=>if j=7 then .slice Ap np cp else if j=20 then .slice Aq nq cq else .slice none 0 0
def Z18 (h:Nat→Value):Prop:=h 18=.slice none 0 0∧h 19=.slice none 0 0
theorem Z18.upd {h:Nat→Value} (z:Z18 h) {i:Nat} (v:Value) (hi:i<18):Z18 (YtkglmacaecmhdaaGreatDoor.upd h i v):=by
 unfold Z18 YtkglmacaecmhdaaGreatDoor.upd
 rw[if_neg (by omega),if_neg (by omega)];exact z
def PA2 (w:World) (g xb:Nat) (f:Nat→Value) (q:PkV) (s4:Value) (wc:World):Prop:=∃t4 h,s4=.pointer (some ⟨t4,0,none⟩)∧PP w wc g xb f t4 (pc0 q) h∧Z18 h
theorem pa_of {w W3 wz:World} {g xb t4 np cp nq cq:Nat} {f:Nat→Value} {q:PkV} {Ap Aq:Option Addr} (k3:Keeps [] w W3) (b2:Blk W3 w.heap.size 29 z29) (b3:Blk W3 (w.heap.size+1) 78 (slc f 0 50).toArray) (bg:Blk W3 g 86 (arr f)) (hs:w.heap.size+2≤W3.heap.size)
 (kz:Keeps [] W3 wz) (h4:Blk wz t4 29 z29) (ht:W3.heap.size≤t4) (hn:np=q.payload.length) (hm:nq=q.props.length) (h7:Rd wz 1 Ap np (bvs q.payload)) (c7:np≤cp) (a7:∀a,Ap=some a→a.block<wz.heap.size∧a.block≠t4∧W3.heap.size≤a.block)
 (h20:Rd wz 4 Aq nq (q.props.flatMap PropV.cells)) (c20:nq≤cq) (a20:∀a,Aq=some a→a.block<wz.heap.size∧a.block≠t4∧W3.heap.size≤a.block):PA2 w g xb f q (.pointer (some ⟨t4,0,none⟩)) (wz.setRow t4 ((pc0 q).cells (vv0 Ap np cp Aq nq cq))):=by
 subst hn hm
 have kr:=keeps_setRow wz t4 ((pc0 q).cells (vv0 Ap q.payload.length cp Aq q.props.length cq))
 have hgl:=bg.lt
 refine⟨t4,_,rfl,⟨(bg.keep kz (by simp)).keep kr (by simp;omega),(b2.keep kz (by simp)).keep kr (by simp;omega),(b3.keep kz (by simp)).keep kr (by simp;omega),blk_setRow h4 _,by omega,?_,(k3.trans kz (by simp)).trans kr (by simp;omega)⟩,rfl,rfl⟩
 have hS:∀x∈[t4],(x≠t4∧w.heap.size<x)→wz.heap.size≤x:=fun x hx hn=>by simp at hx;exact absurd hx hn.1
 refine⟨SlAt.keep (N:=fun b=>b≠t4∧w.heap.size<b) ⟨Ap,cp,rfl,h7,c7,fun a ha _=>⟨(a7 a ha).1,(a7 a ha).2.1,by have:=(a7 a ha).2.2;omega⟩⟩ kr hS,⟨[],SlAt.none_ _ _ _,by simp[pc0]⟩,⟨[],SlAt.none_ _ _ _,by simp[pc0]⟩,⟨[],SlAt.none_ _ _ _,by simp[pc0]⟩,SlAt.none_ _ _ _,SlAt.none_ _ _ _,?_⟩
 exact SlAt.keep (N:=fun b=>b≠t4∧w.heap.size<b) ⟨Aq,cq,rfl,h20,c20,fun a ha _=>⟨(a20 a ha).1,(a20 a ha).2.1,by have:=(a20 a ha).2.2;omega⟩⟩ kr hS
theorem load76 {S:World→Prop} {d:Tmp} {ty:TypeId} {pos:String} {af:Array Edge} {gd:Option (Nat×Bool)} {a:Act} {g o:Nat} {cs:List Value} {x:Operand} {ds:TypeDesc} (hx:a.eval x=.pointer (some ⟨g,o,none⟩))
 (hS:∀w,S w→w.rangeAt g o cs) (hd:ds.isRow=true) (hu:prog.underlying 76=some ds) (hi:(prog.info? 76).map (·.size)=some cs.length):∀w,S w→(execOp a.eval ⟨some d,.load 76 x,ty,pos,af,gd⟩).run prog w=.ok (.value (.agg cs.toArray)) w:=fun w hw=>by
 have h:=run_loadVar_mid (P:=prog) w g o 76 cs ds (hS w hw) hu hd hi
 unfold execOp
 simp only[hx,Instr.loadAt,Instr.sureAddr,Sem.run_bind,Sem.run_pure,Result.andThen_ok,h]
theorem zX0 {p:Prop} (h:p:=by
 exact⟨ys,y1.mono all,fun i u hi=>by obtain⟨z,z3,z4⟩:=y2 i u hi;exact⟨z,z3,z4.mono all⟩⟩
 ):p:=h
theorem plain_c (w:World) (g B xb:Nat) (q:PkV) (f:Nat→Value) (hb:Blk w g 86 (arr f)) (hq:PkGot B xb w q f) (hp:PkPl q) (hx:xb<w.heap.size):Calls prog 34 #[.pointer (some ⟨g,0,none⟩)] w (PlainOut w q):=by
 have hi78:(prog.info? 78).map (·.size)=some (slc f 0 50).length:=by rw[slc_len];kernel_rfl
 have HI78:=hH hi78
 have hi78b:(prog.info? 78).map (·.size)=some (slc f 0 50).toArray.size:=by rw[List.size_toArray,slc_len];kernel_rfl
 have HI78b:=hH hi78b
 have hi76:(prog.info? 76).map (·.size)=some (slc f 50 37).length:=by rw[slc_len];kernel_rfl
 have HI76:=hH hi76
 have HZ78:Hd (z78.size=(slc f 0 50).toArray.size):=by show _=_;simp only[List.size_toArray,slc_len];rfl
 have h1:=slc_one 0 50 hq.one (by omega)
 have H1:=hH h1
 have HB:=hH hb
 have HQ:=hH hq
 have HP:=hH hp
 have hw2:Blk ((w.alloc (.cells #[.int .i64 0,.int .i64 0,.bool false,.bool false,.int .i64 0,.int .i64 0,.string ⟨#[]⟩,.slice none 0 0,.string ⟨#[]⟩,.int .i64 0,.string ⟨#[]⟩,.bool false,.int .i64 0,.slice none 0 0,.slice none 0 0,.slice none 0 0,.bool false,.int .i64 0,.slice none 0 0,.slice none 0 0,.slice none 0 0] 29)).alloc (.cells #[.slice none 0 0,.slice none 0 0,.slice none 0 0,.slice none 0 0,.string ⟨#[]⟩,.string ⟨#[]⟩,.string ⟨#[]⟩,.string ⟨#[]⟩,.string ⟨#[]⟩,.string ⟨#[]⟩,.string ⟨#[]⟩,.int .u32 0,.int .u32 0,.int .u32 0,.int .u32 0,.int .u16 0,.int .u16 0,.int .u16 0,.int .u16 0,.int .u8 0,.bool false,.bool false,.bool false,.int .u8 0,.bool false,.int .u8 0,.bool false,.int .u8 0,.bool false,.int .u8 0,.bool false,.int .u8 0,.bool false,.int .u8 0,.bool false,.int .u8 0,.bool false,.slice none 0 0,.slice none 0 0,.slice none 0 0,.slice none 0 0,.string ⟨#[]⟩,.string ⟨#[]⟩,.int .u16 0,.bool false,.bool false,.int .u8 0,.bool false,.bool false,.bool false] 78)) (w.heap.size+1) 78 z78:=by have h:=Blk.new (w.alloc (.cells #[.int .i64 0,.int .i64 0,.bool false,.bool false,.int .i64 0,.int .i64 0,.string ⟨#[]⟩,.slice none 0 0,.string ⟨#[]⟩,.int .i64 0,.string ⟨#[]⟩,.bool false,.int .i64 0,.slice none 0 0,.slice none 0 0,.slice none 0 0,.bool false,.int .i64 0,.slice none 0 0,.slice none 0 0,.slice none 0 0] 29)) 78 z78;rwa [World.size_alloc] at h
 have HW2:=hH hw2
 clear hi78 hi78b hi76 h1 hb hq hp hw2
 go_enter func34,ntmps34
 go_upto_region 2 with(first|refine wpList_load_mid rfl 78 (.tmp 11) rfl g 0 rfl (slc f 0 50) _ (range_of (HB.o.keep (Keeps.alloc w _) (by simp)) 0 50 (by omega)) underlying78 rfl HI78.o ?_|(refine wpList_store_row rfl 78 (.tmp 3) (.tmp 12) rfl (w.heap.size+1) (slc f 0 50).toArray ?_ ?_ 78 z78 ?_ ?_ ?_ ?_ ?_;rfl;rfl;exact HW2.o;exact HI78b.o;exact HZ78.o;exact H1.o))
 have HK3:Hd (Keeps [] w (((w.alloc (.cells #[.int .i64 0,.int .i64 0,.bool false,.bool false,.int .i64 0,.int .i64 0,.string ⟨#[]⟩,.slice none 0 0,.string ⟨#[]⟩,.int .i64 0,.string ⟨#[]⟩,.bool false,.int .i64 0,.slice none 0 0,.slice none 0 0,.slice none 0 0,.bool false,.int .i64 0,.slice none 0 0,.slice none 0 0,.slice none 0 0] 29)).alloc (.cells #[.slice none 0 0,.slice none 0 0,.slice none 0 0,.slice none 0 0,.string ⟨#[]⟩,.string ⟨#[]⟩,.string ⟨#[]⟩,.string ⟨#[]⟩,.string ⟨#[]⟩,.string ⟨#[]⟩,.string ⟨#[]⟩,.int .u32 0,.int .u32 0,.int .u32 0,.int .u32 0,.int .u16 0,.int .u16 0,.int .u16 0,.int .u16 0,.int .u8 0,.bool false,.bool false,.bool false,.int .u8 0,.bool false,.int .u8 0,.bool false,.int .u8 0,.bool false,.int .u8 0,.bool false,.int .u8 0,.bool false,.int .u8 0,.bool false,.int .u8 0,.bool false,.slice none 0 0,.slice none 0 0,.slice none 0 0,.slice none 0 0,.string ⟨#[]⟩,.string ⟨#[]⟩,.int .u16 0,.bool false,.bool false,.int .u8 0,.bool false,.bool false,.bool false] 78)).setRow (w.heap.size+1) (slc f 0 50).toArray)):=(((Keeps.alloc w _).trans (Keeps.alloc _ _) (by simp)).trans (keeps_setRow _ _ _) (by simp))
 have HB2:Hd (Blk (((w.alloc (.cells #[.int .i64 0,.int .i64 0,.bool false,.bool false,.int .i64 0,.int .i64 0,.string ⟨#[]⟩,.slice none 0 0,.string ⟨#[]⟩,.int .i64 0,.string ⟨#[]⟩,.bool false,.int .i64 0,.slice none 0 0,.slice none 0 0,.slice none 0 0,.bool false,.int .i64 0,.slice none 0 0,.slice none 0 0,.slice none 0 0] 29)).alloc (.cells #[.slice none 0 0,.slice none 0 0,.slice none 0 0,.slice none 0 0,.string ⟨#[]⟩,.string ⟨#[]⟩,.string ⟨#[]⟩,.string ⟨#[]⟩,.string ⟨#[]⟩,.string ⟨#[]⟩,.string ⟨#[]⟩,.int .u32 0,.int .u32 0,.int .u32 0,.int .u32 0,.int .u16 0,.int .u16 0,.int .u16 0,.int .u16 0,.int .u8 0,.bool false,.bool false,.bool false,.int .u8 0,.bool false,.int .u8 0,.bool false,.int .u8 0,.bool false,.int .u8 0,.bool false,.int .u8 0,.bool false,.int .u8 0,.bool false,.int .u8 0,.bool false,.slice none 0 0,.slice none 0 0,.slice none 0 0,.slice none 0 0,.string ⟨#[]⟩,.string ⟨#[]⟩,.int .u16 0,.bool false,.bool false,.int .u8 0,.bool false,.bool false,.bool false] 78)).setRow (w.heap.size+1) (slc f 0 50).toArray) w.heap.size 29 z29):=(((Blk.new w 29 z29).alloc _).keep (keeps_setRow _ (w.heap.size+1) _) (by simp))
 have HB3:Hd (Blk (((w.alloc (.cells #[.int .i64 0,.int .i64 0,.bool false,.bool false,.int .i64 0,.int .i64 0,.string ⟨#[]⟩,.slice none 0 0,.string ⟨#[]⟩,.int .i64 0,.string ⟨#[]⟩,.bool false,.int .i64 0,.slice none 0 0,.slice none 0 0,.slice none 0 0,.bool false,.int .i64 0,.slice none 0 0,.slice none 0 0,.slice none 0 0] 29)).alloc (.cells #[.slice none 0 0,.slice none 0 0,.slice none 0 0,.slice none 0 0,.string ⟨#[]⟩,.string ⟨#[]⟩,.string ⟨#[]⟩,.string ⟨#[]⟩,.string ⟨#[]⟩,.string ⟨#[]⟩,.string ⟨#[]⟩,.int .u32 0,.int .u32 0,.int .u32 0,.int .u32 0,.int .u16 0,.int .u16 0,.int .u16 0,.int .u16 0,.int .u8 0,.bool false,.bool false,.bool false,.int .u8 0,.bool false,.int .u8 0,.bool false,.int .u8 0,.bool false,.int .u8 0,.bool false,.int .u8 0,.bool false,.int .u8 0,.bool false,.int .u8 0,.bool false,.slice none 0 0,.slice none 0 0,.slice none 0 0,.slice none 0 0,.string ⟨#[]⟩,.string ⟨#[]⟩,.int .u16 0,.bool false,.bool false,.int .u8 0,.bool false,.bool false,.bool false] 78)).setRow (w.heap.size+1) (slc f 0 50).toArray) (w.heap.size+1) 78 (slc f 0 50).toArray):=blk_setRow HW2.o _
 have HS3:Hd (w.heap.size+2≤(((w.alloc (.cells #[.int .i64 0,.int .i64 0,.bool false,.bool false,.int .i64 0,.int .i64 0,.string ⟨#[]⟩,.slice none 0 0,.string ⟨#[]⟩,.int .i64 0,.string ⟨#[]⟩,.bool false,.int .i64 0,.slice none 0 0,.slice none 0 0,.slice none 0 0,.bool false,.int .i64 0,.slice none 0 0,.slice none 0 0,.slice none 0 0] 29)).alloc (.cells #[.slice none 0 0,.slice none 0 0,.slice none 0 0,.slice none 0 0,.string ⟨#[]⟩,.string ⟨#[]⟩,.string ⟨#[]⟩,.string ⟨#[]⟩,.string ⟨#[]⟩,.string ⟨#[]⟩,.string ⟨#[]⟩,.int .u32 0,.int .u32 0,.int .u32 0,.int .u32 0,.int .u16 0,.int .u16 0,.int .u16 0,.int .u16 0,.int .u8 0,.bool false,.bool false,.bool false,.int .u8 0,.bool false,.int .u8 0,.bool false,.int .u8 0,.bool false,.int .u8 0,.bool false,.int .u8 0,.bool false,.int .u8 0,.bool false,.int .u8 0,.bool false,.slice none 0 0,.slice none 0 0,.slice none 0 0,.slice none 0 0,.string ⟨#[]⟩,.string ⟨#[]⟩,.int .u16 0,.bool false,.bool false,.int .u8 0,.bool false,.bool false,.bool false] 78)).setRow (w.heap.size+1) (slc f 0 50).toArray).heap.size):=by show _≤_;simp[World.setRow]
 generalize (((w.alloc (.cells #[.int .i64 0,.int .i64 0,.bool false,.bool false,.int .i64 0,.int .i64 0,.string ⟨#[]⟩,.slice none 0 0,.string ⟨#[]⟩,.int .i64 0,.string ⟨#[]⟩,.bool false,.int .i64 0,.slice none 0 0,.slice none 0 0,.slice none 0 0,.bool false,.int .i64 0,.slice none 0 0,.slice none 0 0,.slice none 0 0] 29)).alloc (.cells #[.slice none 0 0,.slice none 0 0,.slice none 0 0,.slice none 0 0,.string ⟨#[]⟩,.string ⟨#[]⟩,.string ⟨#[]⟩,.string ⟨#[]⟩,.string ⟨#[]⟩,.string ⟨#[]⟩,.string ⟨#[]⟩,.int .u32 0,.int .u32 0,.int .u32 0,.int .u32 0,.int .u16 0,.int .u16 0,.int .u16 0,.int .u16 0,.int .u8 0,.bool false,.bool false,.bool false,.int .u8 0,.bool false,.int .u8 0,.bool false,.int .u8 0,.bool false,.int .u8 0,.bool false,.int .u8 0,.bool false,.int .u8 0,.bool false,.int .u8 0,.bool false,.slice none 0 0,.slice none 0 0,.slice none 0 0,.slice none 0 0,.string ⟨#[]⟩,.string ⟨#[]⟩,.int .u16 0,.bool false,.bool false,.int .u8 0,.bool false,.bool false,.bool false] 78)).setRow (w.heap.size+1) (slc f 0 50).toArray)=W3 at*
 clear HW2
 have HBG:=hH (HB.o.keep HK3.o (by simp))
 have hg:∀(wx:World) (_:Keeps [] W3 wx) (j:Nat) (_:j<108) (v:Value) (_:f j=v),wx.cell? ⟨g,j,none⟩=some v:=fun _ k j hj v hv=>by rw[(HBG.o.keep k (by simp)).cell,arr_get f j hj,hv]
 have hc:∀(wx:World) (_:Keeps [] W3 wx) (j:Nat) (_:j<50) (v:Value) (_:f j=v),wx.cell? ⟨w.heap.size+1,j,none⟩=some v:=fun _ k j hj v hv=>by rw[(HB3.o.keep k (by simp)).cell,List.getElem?_toArray,slc_get f 0 50 j hj,Nat.zero_add,hv]
 have HG:=hH hg
 have HC:=hH hc
 clear hg hc
 have hw_kind:IntKind.i64.wrap q.kind=q.kind:=IntWalk.i64_in _ (by have:=HP.o.kind;omega)
 have hw_version:IntKind.i64.wrap q.version=q.version:=IntWalk.i64_in _ (by have:=HP.o.version;omega)
 have hw_qos:IntKind.i64.wrap q.qos=q.qos:=IntWalk.i64_in _ (by have:=HP.o.qos;omega)
 have hw_code:IntKind.i64.wrap q.code=q.code:=IntWalk.i64_in _ (by have:=HP.o.code;omega)
 have hw_id:IntKind.i64.wrap q.id=q.id:=IntWalk.i64_in _ (by have:=HP.o.id;omega)
 have hw_keep:IntKind.i64.wrap q.keep=q.keep:=IntWalk.i64_in _ (by have:=HP.o.keep;omega)
 obtain⟨A87,c87,e87,r87,_⟩:=HQ.o.e87
 obtain⟨A39,c39,e39,r39,_⟩:=HQ.o.e39
 have hpl:=HP.o.payl
 have R87:=hH r87
 have R39:=hH r39
 clear r87 r39
 have hS:∀w',Keeps [] W3 w'→w'.cell? ⟨g,93,none⟩=some (.int .u8 q.kind)∧w'.cell? ⟨g,103,none⟩=some (.int .u8 q.version)∧w'.cell? ⟨g,95,none⟩=some (.bool q.dup)∧w'.cell? ⟨g,96,none⟩=some (.bool q.retain)∧w'.cell? ⟨g,94,none⟩=some (.int .u8 q.qos)∧w'.cell? ⟨g,102,none⟩=some (.int .u16 q.id)∧w'.cell? ⟨g,90,none⟩=some (.string q.topic)∧w'.cell? ⟨g,87,none⟩=some (.slice A87 q.payload.length c87)∧w'.cell? ⟨g,104,none⟩=some (.bool q.present)∧w'.cell? ⟨g,105,none⟩=some (.int .u8 q.code)∧w'.cell? ⟨w.heap.size+1,39,none⟩=some (.slice A39 q.name.size c39)∧w'.cell? ⟨w.heap.size+1,41,none⟩=some (.string q.client)∧w'.cell? ⟨w.heap.size+1,49,none⟩=some (.bool q.clean)∧w'.cell? ⟨w.heap.size+1,43,none⟩=some (.int .u16 q.keep)∧(convert 22 9 (.slice A39 q.name.size c39)).run prog w'=.ok (.string q.name) w'∧w'.rangeAt g 50 (slc f 50 37)∧Keeps [] W3 w':=fun w' k=>by
  have hcv:=conv_bytes w' A39 c39 q.name.data.toList (R39.o.keep (HK3.o.trans k (by simp)) (by simp))
  rw[ba_eq,tl_len] at hcv
  refine⟨HG.o _ k 93 (by omega) _ HQ.o.e93,HG.o _ k 103 (by omega) _ HQ.o.e103,HG.o _ k 95 (by omega) _ HQ.o.e95,HG.o _ k 96 (by omega) _ HQ.o.e96,HG.o _ k 94 (by omega) _ HQ.o.e94,HG.o _ k 102 (by omega) _ HQ.o.e102,HG.o _ k 90 (by omega) _ HQ.o.e90,HG.o _ k 87 (by omega) _ e87,HG.o _ k 104 (by omega) _ HQ.o.e104,HG.o _ k 105 (by omega) _ HQ.o.e105,by have h:=HC.o _ k 39 (by omega) _ e39;rwa [tl_len] at h,HC.o _ k 41 (by omega) _ HQ.o.e41,HC.o _ k 49 (by omega) _ HQ.o.e49,HC.o _ k 43 (by omega) _ HQ.o.e43,hcv,range_of (HBG.o.keep k (by simp)) 50 37 (by omega),k⟩
 have HSS:=hH hS
 have hCL:∀w',Keeps [] W3 w'→Calls prog 28 #[.slice A87 q.payload.length c87] w' (NewCap w' q.payload):=fun w' k=>clone2_c w' A87 c87 q.payload (R87.o.keep (HK3.o.trans k (by simp)) (by simp)) (by omega)
 have CL:=hH hCL
 obtain⟨kd,hkd⟩:=HP.o.props
 have hPR:∀w',Keeps [] W3 w'→Calls prog 78 #[.agg (slc f 50 37).toArray] w' (PlOut w' q.props):=fun w' k=>plainProps_c w' kd q.props _ hkd (plSt_of (HQ.o.st.keep (HK3.o.trans k (by simp)) (by simp) (by simp)) (by omega) (Nat.lt_of_lt_of_le hx (HK3.o.trans k (by simp)).size))
 have PR:=hH hPR
 clear hS hCL hPR hkd
 have hi29:(prog.info? 29).map (·.size)=some 21:=by kernel_rfl
 have HI29:=hH hi29
 clear hi29
 simp only[Act.put]
 go_cut [4] from 13 to 78 (fun s4 wc=>PA2 w g xb f q s4 wc)
 case first=>
  try simp only[List.append_eq,List.cons_append,List.nil_append]
  refine tkSt HSS.o (Keeps.drew W3) (by kernel_rfl) fun hHeld=>?_
  simp only[s4,s5,Nat.reduceAdd,s6,s7]
  repeat((first|refine tkx ?_|refine tku ?_);simp only[setN,Act.put,s1,s2,s3])
  refine tki 41 54 ?_
  simp only[setN,Act.put,s1,s2,s3]
  refine tki 42 55 ?_
  simp only[setN,Act.put,s1,s2,s3]
  refine tki 43 56 ?_
  simp only[setN,Act.put,s1,s2,s3]
  refine tki 44 57 ?_
  simp only[setN,Act.put,s1,s2,s3]
  refine tki 45 58 ?_
  simp only[setN,Act.put,s1,s2,s3]
  refine tki 46 59 ?_
  simp only[setN,Act.put,s1,s2,s3]
  refine tki 47 60 ?_
  simp only[setN,Act.put,s1,s2,s3]
  refine tki 48 61 ?_
  simp only[setN,Act.put,s1,s2,s3]
  refine tki 49 62 ?_
  simp only[setN,Act.put,s1,s2,s3]
  refine tki 50 63 ?_
  simp only[setN,Act.put,s1,s2,s3]
  refine tki 51 64 ?_
  simp only[setN,Act.put,s1,s2,s3]
  refine tki 52 65 ?_
  simp only[setN,Act.put,s1,s2,s3]
  refine tki 53 66 ?_
  simp only[setN,Act.put,s1,s2,s3]
  refine tki 54 67 ?_
  simp only[setN,Act.put,s1,s2,s3]
  refine tki 55 68 ?_
  simp only[setN,Act.put,s1,s2,s3]
  refine tki 56 69 ?_
  simp only[setN,Act.put,s1,s2,s3]
  refine tki 57 70 ?_
  simp only[setN,Act.put,s1,s2,s3]
  refine tki 58 71 ?_
  simp only[setN,Act.put,s1,s2,s3]
  refine tki 59 72 ?_
  simp only[setN,Act.put,s1,s2,s3]
  refine tki 60 73 ?_
  simp only[setN,Act.put,s1,s2,s3]
  refine tki 61 74 ?_
  simp only[setN,Act.put,s1,s2,s3]
  refine tki 62 75 ?_
  simp only[setN,Act.put,s1,s2,s3]
  refine wpAnyH_take (i:=63) (oi:=⟨(some 76),_,_,_,_,_⟩) (v:=.agg (slc f 50 37).toArray) rfl (by kernel_rfl) (by kernel_rfl) (by kernel_rfl) (fun _ _ _ h=>h) (Or.inl ⟨by rfl,load76 rfl (fun w' h=>h.2.2.2.2.2.2.2.2.2.2.2.2.2.2.2.1) rfl underlying76 HI76.o⟩) (by assumption) ?_
  simp only[setN,Act.put,s1,s2,s3]
  refine wpAnyH_ready (rs:=[40,66]) (by kernel_rfl) (by simp) ?_
  refine AllReadyH.cons (o:=⟨some 53,_,_,_,_,_⟩) rfl (fun K hK=>?_) (AllReadyH.cons (o:=⟨some 4,_,_,_,_,_⟩) rfl (fun K hK=>?_) AllReadyH.nil)
  ·rw[if_pos (by rfl)]
   go_simp
   refine(CL.o _ (Keeps.drew W3)).mono ?_
   rintro e w4 ⟨Ap,cp,rfl,hpr,hk4,hpc,hpb⟩
   have hkA:=Keeps.trans (Keeps.drew W3) hk4 (by simp)
   have hz4:=hk4.size
   have hpz:∀a,Ap=some a→a.block<w4.heap.size∧W3.heap.size≤a.block:=fun a ha=>⟨(hpb a ha).2,Nat.le_trans ((Keeps.drew W3)).size (hpb a ha).1⟩
   clear hHeld
   refine hK.out _ _ (HSS.o _ hkA) (fun hHeld=>?_)
   clear hK K
   simp only[setN,Act.put,s1,s2,s3]
   have hpr3:=hpr
   refine wpAnyH_ready (rs:=[64,66]) (by kernel_rfl) (by simp) ?_
   refine AllReadyH.cons (o:=⟨some 77,_,_,_,_,_⟩) rfl (fun K hK=>?_) (AllReadyH.cons (o:=⟨some 4,_,_,_,_,_⟩) rfl (fun K hK=>?_) AllReadyH.nil)
   ·rw[if_pos (by rfl)]
    go_simp
    refine(PR.o _ hkA).mono ?_
    rintro e w5 ⟨Aq,cq,rfl,hqr,hqc,hk5,hqb⟩
    have hkB:=Keeps.trans hkA hk5 (by simp)
    have hpr2:=hpr3.keep hk5 (by simp)
    have hqz:∀a,Aq=some a→a.block<w5.heap.size∧W3.heap.size≤a.block:=fun a ha=>⟨(hqb a ha).2,Nat.le_trans (hkA).size (hqb a ha).1⟩
    have hz5:=hk5.size
    clear hHeld
    refine hK.out _ _ (HSS.o _ hkB) (fun hHeld=>?_)
    clear hK K
    simp only[setN,Act.put,s1,s2,s3]
    repeat((first|refine tkx ?_|refine tku ?_);simp only[setN,Act.put,s1,s2,s3])
    refine tkc fun K hK=>?_
    go_simp
    have hb4:Blk (w5.alloc (.cells #[.int .i64 0,.int .i64 0,.bool false,.bool false,.int .i64 0,.int .i64 0,.string ⟨#[]⟩,.slice none 0 0,.string ⟨#[]⟩,.int .i64 0,.string ⟨#[]⟩,.bool false,.int .i64 0,.slice none 0 0,.slice none 0 0,.slice none 0 0,.bool false,.int .i64 0,.slice none 0 0,.slice none 0 0,.slice none 0 0] 29)) w5.heap.size 29 z29:=Blk.new w5 29 z29
    have hkC:=Keeps.trans hkB (Keeps.alloc w5 (.cells #[.int .i64 0,.int .i64 0,.bool false,.bool false,.int .i64 0,.int .i64 0,.string ⟨#[]⟩,.slice none 0 0,.string ⟨#[]⟩,.int .i64 0,.string ⟨#[]⟩,.bool false,.int .i64 0,.slice none 0 0,.slice none 0 0,.slice none 0 0,.bool false,.int .i64 0,.slice none 0 0,.slice none 0 0,.slice none 0 0] 29)) (by simp)
    have ht4:=(hkB).size
    have hsz:(w5.alloc (.cells #[.int .i64 0,.int .i64 0,.bool false,.bool false,.int .i64 0,.int .i64 0,.string ⟨#[]⟩,.slice none 0 0,.string ⟨#[]⟩,.int .i64 0,.string ⟨#[]⟩,.bool false,.int .i64 0,.slice none 0 0,.slice none 0 0,.slice none 0 0,.bool false,.int .i64 0,.slice none 0 0,.slice none 0 0,.slice none 0 0] 29)).heap.size=w5.heap.size+1:=by simp
    have hq6:=hqr.keep (Keeps.alloc w5 (.cells #[.int .i64 0,.int .i64 0,.bool false,.bool false,.int .i64 0,.int .i64 0,.string ⟨#[]⟩,.slice none 0 0,.string ⟨#[]⟩,.int .i64 0,.string ⟨#[]⟩,.bool false,.int .i64 0,.slice none 0 0,.slice none 0 0,.slice none 0 0,.bool false,.int .i64 0,.slice none 0 0,.slice none 0 0,.slice none 0 0] 29)) (by simp)
    have hp6:=hpr2.keep (Keeps.alloc w5 (.cells #[.int .i64 0,.int .i64 0,.bool false,.bool false,.int .i64 0,.int .i64 0,.string ⟨#[]⟩,.slice none 0 0,.string ⟨#[]⟩,.int .i64 0,.string ⟨#[]⟩,.bool false,.int .i64 0,.slice none 0 0,.slice none 0 0,.slice none 0 0,.bool false,.int .i64 0,.slice none 0 0,.slice none 0 0,.slice none 0 0] 29)) (by simp)
    clear hHeld
    refine hK.out _ _ (HSS.o _ hkC) (fun hHeld=>?_)
    clear hK K
    simp only[setN,Act.put,s1,s2,s3]
    generalize w5.alloc (.cells #[.int .i64 0,.int .i64 0,.bool false,.bool false,.int .i64 0,.int .i64 0,.string ⟨#[]⟩,.slice none 0 0,.string ⟨#[]⟩,.int .i64 0,.string ⟨#[]⟩,.bool false,.int .i64 0,.slice none 0 0,.slice none 0 0,.slice none 0 0,.bool false,.int .i64 0,.slice none 0 0,.slice none 0 0,.slice none 0 0] 29)=wa at*
    generalize hcs:w5.heap.size=t4 at*
    repeat((first|refine tkx ?_|refine tku ?_);simp only[setN,Act.put,s1,s2,s3])
    refine tkc fun K hK=>?_
    refine wp_store_row 29 (.tmp 4) (.tmp 78) rfl t4 #[.int .i64 q.kind,.int .i64 q.version,.bool q.dup,.bool q.retain,.int .i64 q.qos,.int .i64 q.id,.string q.topic,.slice Ap q.payload.length cp,.string q.name,.int .i64 0,.string q.client,.bool q.clean,.int .i64 q.keep,.slice none 0 0,.slice none 0 0,.slice none 0 0,.bool q.present,.int .i64 q.code,.slice none 0 0,.slice none 0 0,.slice Aq q.props.length cq] (by rfl) (by rfl) 29 z29 hb4 HI29.o rfl (by simp only[List.all_toArray,List.all_cons,List.all_nil];rfl) ?_
    have hkf:=Keeps.trans hkC (keeps_setRow wa t4 #[.int .i64 q.kind,.int .i64 q.version,.bool q.dup,.bool q.retain,.int .i64 q.qos,.int .i64 q.id,.string q.topic,.slice Ap q.payload.length cp,.string q.name,.int .i64 0,.string q.client,.bool q.clean,.int .i64 q.keep,.slice none 0 0,.slice none 0 0,.slice none 0 0,.bool q.present,.int .i64 q.code,.slice none 0 0,.slice none 0 0,.slice Aq q.props.length cq]) (fun x hx=>.inr (by rw[List.mem_singleton] at hx;omega))
    clear hHeld
    refine hK.out _ _ (HSS.o _ hkf) (fun hHeld=>?_)
    clear hK K
    simp only[setN,Act.put,s1,s2,s3]
    refine tkDone (by kernel_rfl) ?_
    go_wp2_with fail
    go_meet
    case rel=>exact pa_of HK3.o HB2.o HB3.o HBG.o HS3.o hkC hb4 (by omega) rfl rfl hp6 hpc (fun a ha=>by have h1:=hpz a ha;have:=h1.1;exact⟨by omega,by omega,h1.2⟩) hq6 hqc (fun a ha=>by have h1:=hqz a ha;have:=h1.1;exact⟨by omega,by omega,h1.2⟩)
   ·rw[if_pos (by rfl)]
    go_simp
    have hb4:Blk (w4.alloc (.cells #[.int .i64 0,.int .i64 0,.bool false,.bool false,.int .i64 0,.int .i64 0,.string ⟨#[]⟩,.slice none 0 0,.string ⟨#[]⟩,.int .i64 0,.string ⟨#[]⟩,.bool false,.int .i64 0,.slice none 0 0,.slice none 0 0,.slice none 0 0,.bool false,.int .i64 0,.slice none 0 0,.slice none 0 0,.slice none 0 0] 29)) w4.heap.size 29 z29:=Blk.new w4 29 z29
    have hkC:=Keeps.trans hkA (Keeps.alloc w4 (.cells #[.int .i64 0,.int .i64 0,.bool false,.bool false,.int .i64 0,.int .i64 0,.string ⟨#[]⟩,.slice none 0 0,.string ⟨#[]⟩,.int .i64 0,.string ⟨#[]⟩,.bool false,.int .i64 0,.slice none 0 0,.slice none 0 0,.slice none 0 0,.bool false,.int .i64 0,.slice none 0 0,.slice none 0 0,.slice none 0 0] 29)) (by simp)
    have ht4:=(hkA).size
    have hsz:(w4.alloc (.cells #[.int .i64 0,.int .i64 0,.bool false,.bool false,.int .i64 0,.int .i64 0,.string ⟨#[]⟩,.slice none 0 0,.string ⟨#[]⟩,.int .i64 0,.string ⟨#[]⟩,.bool false,.int .i64 0,.slice none 0 0,.slice none 0 0,.slice none 0 0,.bool false,.int .i64 0,.slice none 0 0,.slice none 0 0,.slice none 0 0] 29)).heap.size=w4.heap.size+1:=by simp
    have hpr3:=hpr3.keep (Keeps.alloc w4 (.cells #[.int .i64 0,.int .i64 0,.bool false,.bool false,.int .i64 0,.int .i64 0,.string ⟨#[]⟩,.slice none 0 0,.string ⟨#[]⟩,.int .i64 0,.string ⟨#[]⟩,.bool false,.int .i64 0,.slice none 0 0,.slice none 0 0,.slice none 0 0,.bool false,.int .i64 0,.slice none 0 0,.slice none 0 0,.slice none 0 0] 29)) (by simp)
    clear hHeld
    refine hK.out _ _ (HSS.o _ hkC) (fun hHeld=>?_)
    clear hK K
    simp only[setN,Act.put,s1,s2,s3]
    generalize w4.alloc (.cells #[.int .i64 0,.int .i64 0,.bool false,.bool false,.int .i64 0,.int .i64 0,.string ⟨#[]⟩,.slice none 0 0,.string ⟨#[]⟩,.int .i64 0,.string ⟨#[]⟩,.bool false,.int .i64 0,.slice none 0 0,.slice none 0 0,.slice none 0 0,.bool false,.int .i64 0,.slice none 0 0,.slice none 0 0,.slice none 0 0] 29)=wa at*
    generalize hcs:w4.heap.size=t4 at*
    refine tkc fun K hK=>?_
    go_simp
    refine(PR.o _ hkC).mono ?_
    rintro e w5 ⟨Aq,cq,rfl,hqr,hqc,hk5,hqb⟩
    have hkB:=Keeps.trans hkC hk5 (by simp)
    have hpr2:=hpr3.keep hk5 (by simp)
    have hqz:∀a,Aq=some a→a.block<w5.heap.size∧W3.heap.size≤a.block∧a.block≠t4:=fun a ha=>⟨(hqb a ha).2,Nat.le_trans (hkC).size (hqb a ha).1,by have:=(hqb a ha).1;omega⟩
    have hz5:=hk5.size
    have hb6:=hb4.keep hk5 (by simp)
    clear hHeld
    refine hK.out _ _ (HSS.o _ hkB) (fun hHeld=>?_)
    clear hK K
    simp only[setN,Act.put,s1,s2,s3]
    repeat((first|refine tkx ?_|refine tku ?_);simp only[setN,Act.put,s1,s2,s3])
    refine tkc fun K hK=>?_
    refine wp_store_row 29 (.tmp 4) (.tmp 78) rfl t4 #[.int .i64 q.kind,.int .i64 q.version,.bool q.dup,.bool q.retain,.int .i64 q.qos,.int .i64 q.id,.string q.topic,.slice Ap q.payload.length cp,.string q.name,.int .i64 0,.string q.client,.bool q.clean,.int .i64 q.keep,.slice none 0 0,.slice none 0 0,.slice none 0 0,.bool q.present,.int .i64 q.code,.slice none 0 0,.slice none 0 0,.slice Aq q.props.length cq] (by rfl) (by rfl) 29 z29 hb6 HI29.o rfl (by simp only[List.all_toArray,List.all_cons,List.all_nil];rfl) ?_
    have hkf:=Keeps.trans hkB (keeps_setRow w5 t4 #[.int .i64 q.kind,.int .i64 q.version,.bool q.dup,.bool q.retain,.int .i64 q.qos,.int .i64 q.id,.string q.topic,.slice Ap q.payload.length cp,.string q.name,.int .i64 0,.string q.client,.bool q.clean,.int .i64 q.keep,.slice none 0 0,.slice none 0 0,.slice none 0 0,.bool q.present,.int .i64 q.code,.slice none 0 0,.slice none 0 0,.slice Aq q.props.length cq]) (fun x hx=>.inr (by rw[List.mem_singleton] at hx;omega))
    clear hHeld
    refine hK.out _ _ (HSS.o _ hkf) (fun hHeld=>?_)
    clear hK K
    simp only[setN,Act.put,s1,s2,s3]
    refine tkDone (by kernel_rfl) ?_
    go_wp2_with fail
    go_meet
    case rel=>exact pa_of HK3.o HB2.o HB3.o HBG.o HS3.o hkB hb6 (by omega) rfl rfl hpr2 hpc (fun a ha=>by have h1:=hpz a ha;have:=h1.1;exact⟨by omega,by omega,h1.2⟩) hqr hqc (fun a ha=>by have h1:=hqz a ha;exact⟨h1.1,h1.2.2,h1.2.1⟩)
  ·rw[if_pos (by rfl)]
   go_simp
   have hb4:Blk ((W3.alloc (.cells #[.int .i64 0,.int .i64 0,.bool false,.bool false,.int .i64 0,.int .i64 0,.string ⟨#[]⟩,.slice none 0 0,.string ⟨#[]⟩,.int .i64 0,.string ⟨#[]⟩,.bool false,.int .i64 0,.slice none 0 0,.slice none 0 0,.slice none 0 0,.bool false,.int .i64 0,.slice none 0 0,.slice none 0 0,.slice none 0 0] 29)).drew) W3.heap.size 29 z29:=(Blk.new W3 29 z29).drew
   have hkC:Keeps [] W3 ((W3.alloc (.cells #[.int .i64 0,.int .i64 0,.bool false,.bool false,.int .i64 0,.int .i64 0,.string ⟨#[]⟩,.slice none 0 0,.string ⟨#[]⟩,.int .i64 0,.string ⟨#[]⟩,.bool false,.int .i64 0,.slice none 0 0,.slice none 0 0,.slice none 0 0,.bool false,.int .i64 0,.slice none 0 0,.slice none 0 0,.slice none 0 0] 29)).drew):=(Keeps.alloc W3 (.cells #[.int .i64 0,.int .i64 0,.bool false,.bool false,.int .i64 0,.int .i64 0,.string ⟨#[]⟩,.slice none 0 0,.string ⟨#[]⟩,.int .i64 0,.string ⟨#[]⟩,.bool false,.int .i64 0,.slice none 0 0,.slice none 0 0,.slice none 0 0,.bool false,.int .i64 0,.slice none 0 0,.slice none 0 0,.slice none 0 0] 29)).trans (Keeps.drew _) (by simp)
   have ht4:=Nat.le_refl W3.heap.size
   have hsz:((W3.alloc (.cells #[.int .i64 0,.int .i64 0,.bool false,.bool false,.int .i64 0,.int .i64 0,.string ⟨#[]⟩,.slice none 0 0,.string ⟨#[]⟩,.int .i64 0,.string ⟨#[]⟩,.bool false,.int .i64 0,.slice none 0 0,.slice none 0 0,.slice none 0 0,.bool false,.int .i64 0,.slice none 0 0,.slice none 0 0,.slice none 0 0] 29)).drew).heap.size=W3.heap.size+1:=by show(W3.alloc _).heap.size=_;simp
   clear hHeld
   refine hK.out _ _ (HSS.o _ hkC) (fun hHeld=>?_)
   clear hK K
   simp only[setN,Act.put,s1,s2,s3]
   generalize (W3.alloc (.cells #[.int .i64 0,.int .i64 0,.bool false,.bool false,.int .i64 0,.int .i64 0,.string ⟨#[]⟩,.slice none 0 0,.string ⟨#[]⟩,.int .i64 0,.string ⟨#[]⟩,.bool false,.int .i64 0,.slice none 0 0,.slice none 0 0,.slice none 0 0,.bool false,.int .i64 0,.slice none 0 0,.slice none 0 0,.slice none 0 0] 29)).drew=wa at*
   obtain⟨t4,hcs⟩:∃t,W3.heap.size=t:=⟨_,rfl⟩
   rw[hcs] at hb4 hsz ht4 ⊢
   refine tkc fun K hK=>?_
   go_simp
   refine(CL.o _ hkC).mono ?_
   rintro e w4 ⟨Ap,cp,rfl,hpr,hk4,hpc,hpb⟩
   have hkA:=Keeps.trans hkC hk4 (by simp)
   have hz4:=hk4.size
   have hpz:∀a,Ap=some a→a.block<w4.heap.size∧W3.heap.size≤a.block∧a.block≠t4:=fun a ha=>⟨(hpb a ha).2,Nat.le_trans (hkC).size (hpb a ha).1,by have:=(hpb a ha).1;omega⟩
   have hb5:=hb4.keep hk4 (by simp)
   clear hHeld
   refine hK.out _ _ (HSS.o _ hkA) (fun hHeld=>?_)
   clear hK K
   simp only[setN,Act.put,s1,s2,s3]
   have hpr3:=hpr
   refine tkc fun K hK=>?_
   go_simp
   refine(PR.o _ hkA).mono ?_
   rintro e w5 ⟨Aq,cq,rfl,hqr,hqc,hk5,hqb⟩
   have hkB:=Keeps.trans hkA hk5 (by simp)
   have hpr2:=hpr3.keep hk5 (by simp)
   have hqz:∀a,Aq=some a→a.block<w5.heap.size∧W3.heap.size≤a.block∧a.block≠t4:=fun a ha=>⟨(hqb a ha).2,Nat.le_trans (hkA).size (hqb a ha).1,by have:=(hqb a ha).1;omega⟩
   have hz5:=hk5.size
   have hb6:=hb5.keep hk5 (by simp)
   clear hHeld
   refine hK.out _ _ (HSS.o _ hkB) (fun hHeld=>?_)
   clear hK K
   simp only[setN,Act.put,s1,s2,s3]
   repeat((first|refine tkx ?_|refine tku ?_);simp only[setN,Act.put,s1,s2,s3])
   refine tkc fun K hK=>?_
   refine wp_store_row 29 (.tmp 4) (.tmp 78) rfl t4 #[.int .i64 q.kind,.int .i64 q.version,.bool q.dup,.bool q.retain,.int .i64 q.qos,.int .i64 q.id,.string q.topic,.slice Ap q.payload.length cp,.string q.name,.int .i64 0,.string q.client,.bool q.clean,.int .i64 q.keep,.slice none 0 0,.slice none 0 0,.slice none 0 0,.bool q.present,.int .i64 q.code,.slice none 0 0,.slice none 0 0,.slice Aq q.props.length cq] (by rfl) (by rfl) 29 z29 hb6 HI29.o rfl (by simp only[List.all_toArray,List.all_cons,List.all_nil];rfl) ?_
   have hkf:=Keeps.trans hkB (keeps_setRow w5 t4 #[.int .i64 q.kind,.int .i64 q.version,.bool q.dup,.bool q.retain,.int .i64 q.qos,.int .i64 q.id,.string q.topic,.slice Ap q.payload.length cp,.string q.name,.int .i64 0,.string q.client,.bool q.clean,.int .i64 q.keep,.slice none 0 0,.slice none 0 0,.slice none 0 0,.bool q.present,.int .i64 q.code,.slice none 0 0,.slice none 0 0,.slice Aq q.props.length cq]) (fun x hx=>.inr (by rw[List.mem_singleton] at hx;omega))
   clear hHeld
   refine hK.out _ _ (HSS.o _ hkf) (fun hHeld=>?_)
   clear hK K
   simp only[setN,Act.put,s1,s2,s3]
   refine tkDone (by kernel_rfl) ?_
   go_wp2_with fail
   go_meet
   case rel=>exact pa_of HK3.o HB2.o HB3.o HBG.o HS3.o hkB hb6 (by omega) rfl rfl hpr2 hpc (fun a ha=>by have h1:=hpz a ha;have:=h1.1;exact⟨by omega,h1.2.2,h1.2.1⟩) hqr hqc (fun a ha=>by have h1:=hqz a ha;exact⟨h1.1,h1.2.2,h1.2.1⟩)
 case rest=>
 obtain⟨t4,h,rfl,hP,hz⟩:=hcut
 have HPP:=hH hP
 have HZ:=hH hz
 have HGL:Hd (g<w.heap.size):=HB.o.lt
 clear hP hz CL PR HSS R87 R39 e87 e39
 have x93:=HPP.o.g 93 (by omega) _ HQ.o.e93
 go_upto_if 84 with(fail)
 go_cut [] from 84 to 90 (fun wd=>∃h,PP w wd g xb f t4 {pc0 q with level:=q.level} h∧Z18 h)
 case first=>
  have hlv:=HP.o.level
  by_cases hk1:q.kind=1
  ·rw[if_pos hk1] at hlv
   have hb1:(q.kind==1)=true:=by rw[beq_iff_eq];exact hk1
   have HLV:=hH hlv
   have x103:=HPP.o.g 103 (by omega) _ HQ.o.e103
   have y9:wc.cell? ⟨t4,9,none⟩=some (.int .i64 0):=by rw[HPP.o.b4.cell];rfl
   have f9:=HPP.o.b4.frozen 9
   clear hk1 hlv
   go_wp2_with fail
   go_meet
   case rel=>exact⟨h,HPP.o.set HGL.o (by rw[HLV.o];rfl) ⟨HPP.o.mem.m7,HPP.o.mem.m13,HPP.o.mem.m14,HPP.o.mem.m15,HPP.o.mem.m18,HPP.o.mem.m19,HPP.o.mem.m20⟩,HZ.o⟩
  ·rw[if_neg hk1] at hlv
   have hb1:(q.kind==1)=false:=by rw[beq_eq_false_iff_ne];exact hk1
   have HLV:=hH hlv
   clear hk1 hlv
   go_wp2_with fail
   go_meet
   case rel=>exact⟨h,by rw[HLV.o];exact HPP.o,HZ.o⟩
 case rest=>
 obtain⟨h1,hP1,hz1⟩:=hcut
 have HP1:=hH hP1
 have HZ1:=hH hz1
 clear hP1 hz1 HPP HZ x93
 obtain⟨wf,hwf⟩:∃b,f 47=.bool b:=by rcases HQ.o.will with⟨_,h⟩|⟨u,_,h,_⟩<;>exact⟨_,h⟩
 have y47:=HP1.o.c 47 (by omega) _ hwf
 have HWF:=hH hwf
 clear hwf
 go_upto_if 92 with(fail)
 go_cut [] from 92 to 108 (fun wd=>∃h,PP w wd g xb f t4 {pc0 q with level:=q.level,will:=q.will} h∧Z18 h)
 case first=>
  rcases HQ.o.will with⟨hw0,hw1⟩|⟨u,hw0,hw1,hw2,⟨Ay,cy,hw3,hw3r,_⟩,hw4,hw5,hw6⟩
  ·have hwf:wf=false:=by have:=HWF.o.symm.trans hw1;simpa using this
   subst hwf
   have HW0:=hH hw0
   clear hw0 hw1
   go_wp2_with fail
   go_meet
   case rel=>exact⟨h1,by rw[HW0.o];exact HP1.o,HZ1.o⟩
  ·have hwf:wf=true:=by have:=HWF.o.symm.trans hw1;simpa using this
   subst hwf
   have HE42:=hH hw2
   have HE40:=hH hw3
   have HE46:=hH hw4
   have HE48:=hH hw5
   obtain⟨⟨hq0,hq1⟩,hyl,kw,hkw⟩:=HP.o.wills u (by rw[hw0];simp)
   have hwq:IntKind.i64.wrap u.qos=u.qos:=IntWalk.i64_in _ (by omega)
   have HW0:=hH hw0
   have HYR:=hH hw3r
   have HST:=hH hw6
   have HKW:=hH hkw
   have hSW:∀w',Keeps [] wc w'→w'.cell? ⟨w.heap.size+1,42,none⟩=some (.string u.topic)∧w'.cell? ⟨w.heap.size+1,40,none⟩=some (.slice Ay u.payload.length cy)∧w'.cell? ⟨w.heap.size+1,46,none⟩=some (.int .u8 u.qos)∧w'.cell? ⟨w.heap.size+1,48,none⟩=some (.bool u.retain)∧w'.rangeAt (w.heap.size+1) 0 (slc f 0 37):=fun w' k=>by
    have P2:=HP1.o.keep k
    exact⟨P2.c 42 (by omega) _ hw2,P2.c 40 (by omega) _ hw3,P2.c 46 (by omega) _ hw4,P2.c 48 (by omega) _ hw5,P2.range⟩
   have HSW:=hH hSW
   have hCL:∀w',Keeps [] wc w'→Calls prog 28 #[.slice Ay u.payload.length cy] w' (NewCap w' u.payload):=fun w' k=>clone2_c w' Ay cy u.payload (HYR.o.keep (HP1.o.k.trans k (by simp)) (by simp)) (by omega)
   have CLW:=hH hCL
   have hPR:∀w',Keeps [] wc w'→Calls prog 78 #[.agg (slc f 0 37).toArray] w' (PlOut w' u.props):=fun w' k=>plainProps_c w' kw u.props _ HKW.o (plSt_of (HST.o.keep (HP1.o.k.trans k (by simp)) (by simp) (by simp)) (by omega) (Nat.lt_of_lt_of_le hx (HP1.o.k.trans k (by simp)).size))
   have PRW:=hH hPR
   have hi76:(prog.info? 76).map (·.size)=some (slc f 0 37).length:=by rw[slc_len];kernel_rfl
   have HI76b:=hH hi76
   clear hSW hCL hPR hi76 hw0 hw1 hw2 hw3 hw3r hw4 hw5 hw6 hkw y47
   skip
   go_wp2_with fail
   refine tkSt HSW.o (Keeps.drew wc) (by kernel_rfl) fun hHeld=>?_
   simp only[s4,s5,Nat.reduceAdd,s6,s7]
   repeat((first|refine tkx ?_|refine tku ?_);simp only[setN,Act.put,s1,s2,s3])
   refine tki 5 98 ?_
   simp only[setN,Act.put,s1,s2,s3]
   refine tki 6 99 ?_
   simp only[setN,Act.put,s1,s2,s3]
   refine tki 7 100 ?_
   simp only[setN,Act.put,s1,s2,s3]
   refine tki 8 101 ?_
   simp only[setN,Act.put,s1,s2,s3]
   refine tki 9 102 ?_
   simp only[setN,Act.put,s1,s2,s3]
   refine tki 10 103 ?_
   simp only[setN,Act.put,s1,s2,s3]
   refine wpAnyH_take (i:=11) (oi:=⟨(some 104),_,_,_,_,_⟩) (v:=.agg (slc f 0 37).toArray) rfl (by kernel_rfl) (by kernel_rfl) (by kernel_rfl) (fun _ _ _ h=>h) (Or.inl ⟨by rfl,load76 rfl (fun w' h=>h.2.2.2.2) rfl underlying76 HI76b.o⟩) (by assumption) ?_
   simp only[setN,Act.put,s1,s2,s3]
   refine tkc fun K hK=>?_
   go_simp
   refine(CLW.o _ (Keeps.drew wc)).mono ?_
   rintro e w4 ⟨Ap,cp,rfl,hpr,hk4,hpc,hpb⟩
   have hkA:=(Keeps.drew wc).trans hk4 (by simp)
   have hz4:=hk4.size
   clear hHeld
   refine hK.out _ _ (HSW.o _ hkA) (fun hHeld=>?_)
   clear hK K
   simp only[setN,Act.put,s1,s2,s3]
   refine tkc fun K hK=>?_
   go_simp
   refine(PRW.o _ hkA).mono ?_
   rintro e w5 ⟨Aq,cq,rfl,hqr,hqc,hk5,hqb⟩
   have hkB:=hkA.trans hk5 (by simp)
   have hpr2:=hpr.keep hk5 (by simp)
   have hz5:=hk5.size
   clear hHeld
   refine hK.out _ _ (HSW.o _ hkB) (fun hHeld=>?_)
   clear hK K
   simp only[setN,Act.put,s1,s2,s3]
   repeat((first|refine tkx ?_|refine tku ?_);simp only[setN,Act.put,s1,s2,s3])
   refine tkc fun K hK=>?_
   go_simp
   have hkC:=hkB.trans (Keeps.alloc w5 (.cells #[.string u.topic,.slice Ap u.payload.length cp,.int .i64 u.qos,.bool u.retain,.slice Aq u.props.length cq] 51)) (by simp)
   have hbw:=Blk.new w5 51 #[.string u.topic,.slice Ap u.payload.length cp,.int .i64 u.qos,.bool u.retain,.slice Aq u.props.length cq]
   have hp6:=hpr2.keep (Keeps.alloc w5 (.cells #[.string u.topic,.slice Ap u.payload.length cp,.int .i64 u.qos,.bool u.retain,.slice Aq u.props.length cq] 51)) (by simp)
   have hq6:=hqr.keep (Keeps.alloc w5 (.cells #[.string u.topic,.slice Ap u.payload.length cp,.int .i64 u.qos,.bool u.retain,.slice Aq u.props.length cq] 51)) (by simp)
   have hsz:(w5.alloc (.cells #[.string u.topic,.slice Ap u.payload.length cp,.int .i64 u.qos,.bool u.retain,.slice Aq u.props.length cq] 51)).heap.size=w5.heap.size+1:=by simp
   clear hHeld
   refine hK.out _ _ (HSW.o _ hkC) (fun hHeld=>?_)
   clear hK K
   simp only[setN,Act.put,s1,s2,s3]
   generalize w5.alloc (.cells #[.string u.topic,.slice Ap u.payload.length cp,.int .i64 u.qos,.bool u.retain,.slice Aq u.props.length cq] 51)=wa at*
   generalize hcs:w5.heap.size=sb at*
   have P2:=HP1.o.keep hkC
   have hlt:=HP1.o.b4.lt
   have hlw:=HP1.o.b2.lt
   have hzd:wc.heap.size≤w4.heap.size:=hz4
   repeat((first|refine tkx ?_|refine tku ?_);simp only[setN,Act.put,s1,s2,s3])
   refine tkc fun K hK=>?_
   refine wp_one (gg:=t4) (off:=13) (v:=.slice (some ⟨sb,0,none⟩) 1 1) P2.b4 (by show _≤21;omega) 23 (.tmp 108) (.tmp 107) rfl rfl rfl (by kernel_rfl) rfl ?_
   have P3:PP w (wa.setCell ⟨t4,13,none⟩ (.slice (some ⟨sb,0,none⟩) 1 1)) g xb f t4 {pc0 q with level:=q.level,will:=q.will} (upd h1 13 (.slice (some ⟨sb,0,none⟩) 1 1)):=by
    refine P2.set HGL.o rfl ⟨P2.mem.m7,?_,P2.mem.m14,P2.mem.m15,P2.mem.m18,P2.mem.m19,P2.mem.m20⟩
    refine⟨_,⟨some ⟨sb,0,none⟩,1,by rw[HW0.o];rfl,by rw[HW0.o];exact rd_blk hbw 5 1 rfl,by rw[HW0.o];exact Nat.le_refl 1,fun a ha _=>?_⟩,fun i x hi=>?_⟩
    ·injection ha with ha;subst ha;exact⟨hbw.lt,by show sb≠t4;omega,by show w.heap.size<sb;omega⟩
    ·rw[HW0.o] at hi
     have h0:i=0:=by have:=(List.getElem?_eq_some_iff.1 hi).1;simp at this;omega
     subst h0
     simp at hi
     subst hi
     exact⟨rfl,⟨_,rfl,Ap,cp,rfl,hp6,hpc,fun a ha _=>by have h1:=hpb a ha;exact⟨by omega,by have:=h1.1;have:=hkA.size;show _≠_;have:wc.heap.size≤a.block:=h1.1;omega,by have:wc.heap.size≤a.block:=h1.1;omega⟩⟩,rfl,rfl,_,rfl,Aq,cq,rfl,hq6,hqc,fun a ha _=>by have h1:=hqb a ha;exact⟨by omega,by omega,by omega⟩⟩
   have kT:=Keeps.setCell wa ⟨t4,13,none⟩ (.slice (some ⟨sb,0,none⟩) 1 1)
   refine hK.out _ _ ⟨P3.c 42 (by omega) _ HE42.o,P3.c 40 (by omega) _ HE40.o,P3.c 46 (by omega) _ HE46.o,P3.c 48 (by omega) _ HE48.o,P3.range⟩ (fun hHeld=>?_)
   clear hK K
   simp only[setN,Act.put,s1,s2,s3]
   refine tkDone (by kernel_rfl) ?_
   have HP3:=hH P3
   generalize wa.setCell ⟨t4,13,none⟩ (.slice (some ⟨sb,0,none⟩) 1 1)=wy at*
   clear hHeld
   go_wp2_with fail
   go_meet
   case rel=>exact⟨_,HP3.o,HZ1.o.upd _ (by omega)⟩
 case rest=>
 obtain⟨h2,hP2,hz2⟩:=hcut
 have HP2:=hH hP2
 have HZ2:=hH hz2
 clear hP2 hz2 HP1 HZ1 HWF y47
 obtain⟨uf,huf⟩:∃b,f 45=.bool b:=by rcases HQ.o.user with⟨_,h⟩|⟨u,_,h,_⟩<;>exact⟨_,h⟩
 have y45:=HP2.o.c 45 (by omega) _ huf
 have HUF:=hH huf
 clear huf
 go_upto_if 110 with(fail)
 go_cut [] from 110 to 115 (fun wd=>∃h,PP w wd g xb f t4 {pc0 q with level:=q.level,will:=q.will,user:=q.user} h∧Z18 h)
 case first=>
  rcases HQ.o.user with⟨hu0,hu1⟩|⟨ys,hu0,hu1,Ay,cy,hy,hyr,_⟩
  ·have huf:uf=false:=by have:=HUF.o.symm.trans hu1;simpa using this
   subst huf
   have HU0:=hH hu0
   clear hu0 hu1
   go_wp2_with fail
   go_meet
   case rel=>exact⟨h2,by rw[HU0.o];exact HP2.o,HZ2.o⟩
  ·have huf:uf=true:=by have:=HUF.o.symm.trans hu1;simpa using this
   subst huf
   have hyl:=HP.o.users ys (by rw[hu0];simp)
   have y38:=HP2.o.c 38 (by omega) _ hy
   have CLU:=hH (clone2_c wc Ay cy ys (hyr.keep HP2.o.k (by simp)) (by omega))
   have HU0:=hH hu0
   clear hu0 hu1 hy hyr
   go_wp2_with fail
   go_fit (CLU.o)
   rintro e w4 ⟨Ap,cp,rfl,hpr,hk4,hpc,hpb⟩
   have P4:=(HP2.o.keep hk4).keep (Keeps.alloc w4 (.cells #[.slice Ap ys.length cp] 22))
   have z14:(w4.alloc (.cells #[.slice Ap ys.length cp] 22)).cell? ⟨t4,14,none⟩=some (h2 14):=by rw[P4.b4.cell];rfl
   have fz14:=P4.b4.frozen 14
   have hlt:=HP2.o.b4.lt
   have hl4:=HP2.o.lt4
   have hz4:=hk4.size
   have hbs:BytessAt (fun b=>b≠t4∧w.heap.size<b) _ _ _:=bytess_one hpr hpc (fun a ha=>⟨(hpb a ha).2,by have:=(hpb a ha).1;show _≠_;omega,by have:=(hpb a ha).1;show _<_;omega⟩) ⟨by omega,by omega⟩
   have P5:PP w ((w4.alloc (.cells #[.slice Ap ys.length cp] 22)).setCell ⟨t4,14,none⟩ (.slice (some ⟨w4.heap.size,0,none⟩) 1 1)) g xb f t4 {pc0 q with level:=q.level,will:=q.will,user:=q.user} (upd h2 14 (.slice (some ⟨w4.heap.size,0,none⟩) 1 1)):=by
    refine P4.set HGL.o rfl ⟨P4.mem.m7,P4.mem.m13,?_,P4.mem.m15,P4.mem.m18,P4.mem.m19,P4.mem.m20⟩
    rw[HU0.o];exact hbs
   have HP5:=hH P5
   clear P5 hbs hpr hpc hpb hk4 P4
   go_wp2_with fail
   go_meet
   case rel=>exact⟨_,HP5.o,HZ2.o.upd _ (by omega)⟩
 case rest=>
 obtain⟨h3,hP3,hz3⟩:=hcut
 have HP3:=hH hP3
 have HZ3:=hH hz3
 clear hP3 hz3 HP2 HZ2 HUF y45
 obtain⟨uf,huf⟩:∃b,f 44=.bool b:=by rcases HQ.o.pass with⟨_,h⟩|⟨u,_,h,_⟩<;>exact⟨_,h⟩
 have y44:=HP3.o.c 44 (by omega) _ huf
 have HUF:=hH huf
 clear huf
 go_upto_if 117 with(fail)
 go_cut [] from 117 to 122 (fun wd=>∃h,PP w wd g xb f t4 {pc0 q with level:=q.level,will:=q.will,user:=q.user,pass:=q.pass} h∧Z18 h)
 case first=>
  rcases HQ.o.pass with⟨hu0,hu1⟩|⟨ys,hu0,hu1,Ay,cy,hy,hyr,_⟩
  ·have huf:uf=false:=by have:=HUF.o.symm.trans hu1;simpa using this
   subst huf
   have HU0:=hH hu0
   clear hu0 hu1
   go_wp2_with fail
   go_meet
   case rel=>exact⟨h3,by rw[HU0.o];exact HP3.o,HZ3.o⟩
  ·have huf:uf=true:=by have:=HUF.o.symm.trans hu1;simpa using this
   subst huf
   have hyl:=HP.o.passes ys (by rw[hu0];simp)
   have y37:=HP3.o.c 37 (by omega) _ hy
   have CLU:=hH (clone2_c wc Ay cy ys (hyr.keep HP3.o.k (by simp)) (by omega))
   have HU0:=hH hu0
   clear hu0 hu1 hy hyr
   go_wp2_with fail
   go_fit (CLU.o)
   rintro e w4 ⟨Ap,cp,rfl,hpr,hk4,hpc,hpb⟩
   have P4:=(HP3.o.keep hk4).keep (Keeps.alloc w4 (.cells #[.slice Ap ys.length cp] 22))
   have z15:(w4.alloc (.cells #[.slice Ap ys.length cp] 22)).cell? ⟨t4,15,none⟩=some (h3 15):=by rw[P4.b4.cell];rfl
   have fz15:=P4.b4.frozen 15
   have hlt:=HP3.o.b4.lt
   have hl4:=HP3.o.lt4
   have hz4:=hk4.size
   have hbs:BytessAt (fun b=>b≠t4∧w.heap.size<b) _ _ _:=bytess_one hpr hpc (fun a ha=>⟨(hpb a ha).2,by have:=(hpb a ha).1;show _≠_;omega,by have:=(hpb a ha).1;show _<_;omega⟩) ⟨by omega,by omega⟩
   have P5:PP w ((w4.alloc (.cells #[.slice Ap ys.length cp] 22)).setCell ⟨t4,15,none⟩ (.slice (some ⟨w4.heap.size,0,none⟩) 1 1)) g xb f t4 {pc0 q with level:=q.level,will:=q.will,user:=q.user,pass:=q.pass} (upd h3 15 (.slice (some ⟨w4.heap.size,0,none⟩) 1 1)):=by
    refine P4.set HGL.o rfl ⟨P4.mem.m7,P4.mem.m13,P4.mem.m14,?_,P4.mem.m18,P4.mem.m19,P4.mem.m20⟩
    rw[HU0.o];exact hbs
   have HP5:=hH P5
   clear P5 hbs hpr hpc hpb hk4 P4
   go_wp2_with fail
   go_meet
   case rel=>exact⟨_,HP5.o,HZ3.o.upd _ (by omega)⟩
 case rest=>
 obtain⟨h4,hP4,hz4⟩:=hcut
 have HP4:=hH hP4
 have HZ4:=hH hz4
 clear hP4 hz4 HP3 HZ3 HUF y44
 obtain⟨A88,c88,e88,r88,_⟩:=HQ.o.codes
 have hcl:(codeB q.codes).length=q.codes.length:=by simp[codeB]
 rw[hcl] at e88 r88
 have x88:=HP4.o.g 88 (by omega) _ e88
 have R88:=hH (r88.keep HP4.o.k (by simp))
 have hcn:=HP.o.codes.1
 have HT4:Hd (t4<wc.heap.size):=HP4.o.b4.lt
 have hr88:0<q.codes.length→∃b o,A88=some ⟨b,o,none⟩∧(∀j u,(bvs (codeB q.codes))[j]?=some u→wc.cell? ⟨b,o+j,none⟩=some u)∧b≠t4:=fun h0=>by
  obtain⟨b,o,h1,h2⟩:=r88.2 h0
  refine⟨b,o,h1,fun j u hu=>HP4.o.k.some_ (h2 j u hu) (by simp),?_⟩
  have h3:=World.block_lt_of_cell? w _ (h2 0 _ (List.getElem?_eq_getElem (by rw[bvs_length,hcl];exact h0)))
  have h4:=HP4.o.lt4
  have h5:b<w.heap.size:=h3
  omega
 have HR88:=hH hr88
 have HZ18:Hd (Blk wc t4 29 ({pc0 q with level:=q.level,will:=q.will,user:=q.user,pass:=q.pass}.cells (upd h4 18 (.slice none 0 0)))):=by
  have h:=HP4.o.b4
  have e:({pc0 q with level:=q.level,will:=q.will,user:=q.user,pass:=q.pass}.cells h4)=({pc0 q with level:=q.level,will:=q.will,user:=q.user,pass:=q.pass}.cells (upd h4 18 (.slice none 0 0))):=by
   show _=#[_,_,_,_,_,_,_,h4 7,_,_,_,_,_,h4 13,h4 14,h4 15,_,_,.slice none 0 0,h4 19,h4 20]
   rw[←HZ4.o.1];rfl
  rwa [e] at h
 clear r88 e88 hcl hr88
 obtain⟨i3,hi3,z31,z32,z33⟩:=info_parts infoR3
 have HI3:=hH hi3
 have Z31:=hH z31
 have Z32:=hH z32
 have Z33:=hH z33
 clear hi3 z31 z32 z33
 go_wp2_with fail
 go_loopg [128] (q.codes.length+1) (fun gk i wr=>CdRel w wc t4 {pc0 q with level:=q.level,will:=q.will,user:=q.user,pass:=q.pass} h4 q.codes gk i wr)
 case atStart=>exact⟨0,none,0,rfl,by omega,by omega,HZ18.o,by simpa [nvs] using World.ownsRow_nil wc 0 3 1,by simp,Keeps.refl _ _⟩
 case round=>
  obtain⟨k,A1,c1,rfl,hk,hgk,hB,ho,hA,hkw⟩:=hrel
  have HBk:=hH hB
  have HO:=hH ho
  have HA1:=hH hA
  have HKW:=hH hkw
  clear hB ho hA hkw
  by_cases hlt:k<q.codes.length
  ·obtain⟨g',rfl⟩:∃g',gk=g'+1:=⟨gk-1,by omega⟩
   have hltz:(k:Int)<(q.codes.length:Int):=by omega
   obtain⟨u,hu⟩:∃u,q.codes[k]?=some u:=⟨_,List.getElem?_eq_getElem hlt⟩
   have huz:=HP.o.codes.2 u (List.mem_of_getElem? hu)
   have hwu:IntKind.i64.wrap u=u:=IntWalk.i64_in _ (by omega)
   obtain⟨b0,o0,rfl,hcl,hbt⟩:=HR88.o (by omega)
   have xu:wr.cell? ⟨b0,o0+k,none⟩=some (.int .u8 u):=HKW.o.some_ (hcl k (.int .u8 u) (by rw[bvs_get];simp only[codeB,List.getElem?_map,hu,Option.map_some,bv];congr 2;rw[UInt8.toNat_ofNat'];omega)) (by simp;omega)
   have HU:=hH hu
   have y18:(wr.alloc (.cells #[.int .i64 u] 3)).cell? ⟨t4,18,none⟩=some (.slice A1 k c1):=by rw[((HBk.o).alloc _).cell];rfl
   have w18:wr.cell? ⟨t4,18,none⟩=some (.slice A1 k c1):=by rw[HBk.o.cell];rfl
   have HRN:Hd (Rd (wr.alloc (.cells #[.int .i64 u] 3)) 1 (some ⟨wr.heap.size,0,none⟩) 1 [.int .i64 u]):=rd_new wr 3 #[.int .i64 u] 1 1 rfl
   have HON:=hH (HO.o.alloc (.cells #[.int .i64 u] 3))
   clear hu hcl huz hbt
   go_wp2_with (at_builtin;refine wpList_append_rd _ rfl (.tmp 133) (.tmp 136) 25 rfl 3 i3 _ 1 8 underlying25 HI3.o Z31.o Z32.o Z33.o rfl (by decide) (.slice A1 k c1) k _ rfl HON.o _ 1 1 _ rfl HRN.o (by intro x hx;simp at hx;subst hx;rfl) (by omega) (by unfold maxLen;omega) ?_;intro A2 c2 wz ho2 hkz hd2;have HN:=ow_next (i:=18) HT4.o (by omega) (by omega) HBk.o HA1.o HKW.o (Keeps.alloc wr (.cells #[.int .i64 u] 3)) ho2 hkz hd2;have hbz:=((HBk.o).alloc (.cells #[.int .i64 u] 3)).keep hkz (by rw[own_slice];intro hm;have:=HA1.o t4 (Option.mem_toList.1 hm);have:=HT4.o;omega);have z18:wz.cell? ⟨t4,18,none⟩=some (.slice A1 k c1):=(by rw[hbz.cell];rfl);have f18:=hbz.frozen 18;have HNN:=hH HN;clear HN ho2 hkz hd2 hbz)
   go_roundg g'
   case measure=>omega
   case rel=>exact⟨k+1,A2,c2,by go_num,hlt,by omega,HNN.o.1,by rw[List.take_add_one,HU.o];simpa [nvs] using HNN.o.2.1,HNN.o.2.2.1,HNN.o.2.2.2⟩
  ·have hkl:k=q.codes.length:=by omega
   subst hkl
   have ho:=HO.o
   rw[List.take_length] at ho
   have hl4:=HP4.o.lt4
   have P5:PP w wr g xb f t4 {pc0 q with level:=q.level,will:=q.will,user:=q.user,pass:=q.pass,codes:=q.codes} (upd h4 18 (.slice A1 q.codes.length c1)):=by
    have hgl:=HGL.o
    have hm:=HP4.o.mem.keep HKW.o (fun x hx hn=>by simp at hx;exact absurd hx hn.1)
    refine⟨HP4.o.bg.keep HKW.o (by simp;omega),HP4.o.b2.keep HKW.o (by simp;omega),HP4.o.b3.keep HKW.o (by simp;omega),HBk.o,hl4,⟨hm.m7,hm.m13,hm.m14,hm.m15,⟨A1,c1,rfl,own_rd ho,own_cap2 ho,fun a ha _=>⟨own_lt ho a.block (by rw[ha];rfl),?_,?_⟩⟩,hm.m19,hm.m20⟩,HP4.o.k.trans HKW.o (by simp;omega)⟩
    ·have:=HA1.o a.block (by rw[ha];rfl);have:=HT4.o;show _≠_;omega
    ·have:=HA1.o a.block (by rw[ha];rfl);have:=HT4.o;show _<_;omega
   have HP5:=hH P5
   clear P5 ho HO HA1 HKW HBk HP4 x88
   obtain⟨w7,rfl⟩:∃w7,w7=wr:=⟨_,rfl⟩
   obtain⟨A89,c89,idn,e89,r89,_⟩:=HQ.o.subs
   have x89:=HP5.o.g 89 (by omega) _ e89
   have hsn:=HP.o.subs.1
   have HT5:Hd (t4<w7.heap.size):=HP5.o.b4.lt
   have HZ5:Hd (upd h4 18 (.slice A1 q.codes.length c1) 19=.slice none 0 0):=HZ4.o.2
   obtain⟨h5,hh5⟩:∃h5,upd h4 18 (.slice A1 q.codes.length c1)=h5:=⟨_,rfl⟩
   rw[hh5] at HP5 HZ5
   clear hh5
   have hfm:(q.subs.flatMap fun s=>(toV idn s).cells)=(q.subs.map (toV idn)).flatMap SubV.cells:=by rw[List.flatMap_map]
   rw[hfm] at r89
   have hr89:0<q.subs.length→∃b o,A89=some ⟨b,o,none⟩∧(∀(k:Nat) u,q.subs[k]?=some u→∀j,j<9→w7.cell? ⟨b,o+k*9+j,none⟩=some ((toV idn u).cellAt j))∧b≠t4:=fun h0=>by
    obtain⟨b,o,h1,h2⟩:=r89.2 h0
    refine⟨b,o,h1,fun k u hu j hj=>?_,?_⟩
    ·rw[Nat.add_assoc];exact HP5.o.k.some_ (h2 _ _ (flat9_get _ k (toV idn u) (by rw[List.getElem?_map,hu];rfl) j hj)) (by simp)
    ·have h3:=World.block_lt_of_cell? w _ (h2 0 _ (List.getElem?_eq_getElem (by rw[r89.1];omega)))
     have h4:=HP5.o.lt4
     have h5:b<w.heap.size:=h3
     omega
   have HR89:=hH hr89
   have HZ19:Hd (Blk w7 t4 29 ({pc0 q with level:=q.level,will:=q.will,user:=q.user,pass:=q.pass,codes:=q.codes}.cells (upd h5 19 (.slice none 0 0)))):=by
    have h:=HP5.o.b4
    have e:({pc0 q with level:=q.level,will:=q.will,user:=q.user,pass:=q.pass,codes:=q.codes}.cells h5)=({pc0 q with level:=q.level,will:=q.will,user:=q.user,pass:=q.pass,codes:=q.codes}.cells (upd h5 19 (.slice none 0 0))):=by
     show _=#[_,_,_,_,_,_,_,h5 7,_,_,_,_,_,h5 13,h5 14,h5 15,_,_,h5 18,.slice none 0 0,h5 20]
     rw[←HZ5.o];rfl
    rwa [e] at h
   clear r89 e89 hr89 hfm
   obtain⟨i5,hi5,z51,z52,z53⟩:=info_parts info55
   have HI5:=hH hi5
   have Z51:=hH z51
   have Z52:=hH z52
   have Z53:=hH z53
   clear hi5 z51 z52 z53
   go_wp2_with fail
   go_loopg [145] (q.subs.length+1) (fun gk i wr=>SuRel w w7 t4 {pc0 q with level:=q.level,will:=q.will,user:=q.user,pass:=q.pass,codes:=q.codes} h5 q.subs gk i wr)
   case atStart=>exact⟨0,none,0,rfl,by omega,by omega,HZ19.o,by simpa using World.ownsRow_nil w7 0 55 5,by simp,Keeps.refl _ _⟩
   case round=>
    obtain⟨k,A2,c2,rfl,hk,hgk,hB,ho,hA,hkw⟩:=hrel
    have HBk:=hH hB
    have HO:=hH ho
    have HA2:=hH hA
    have HKW:=hH hkw
    clear hB ho hA hkw
    by_cases hlt:k<q.subs.length
    ·obtain⟨g',rfl⟩:∃g',gk=g'+1:=⟨gk-1,by omega⟩
     have hltz:(k:Int)<(q.subs.length:Int):=by omega
     obtain⟨u,hu⟩:∃u,q.subs[k]?=some u:=⟨_,List.getElem?_eq_getElem hlt⟩
     have huz:=HP.o.subs.2 u (List.mem_of_getElem? hu)
     have hwu:IntKind.i64.wrap u.qos=u.qos:=IntWalk.i64_in _ (by omega)
     have hwv:IntKind.i64.wrap u.handling=u.handling:=IntWalk.i64_in _ (by omega)
     have hqn:((u.qos.toNat:Nat):Int)=u.qos:=by omega
     have hhn:((u.handling.toNat:Nat):Int)=u.handling:=by omega
     obtain⟨b0,o0,rfl,hcl,hbt⟩:=HR89.o (by omega)
     have HU:=hH hu
     have x0:wr.cell? ⟨b0,o0+k*9,none⟩=some (.slice none 0 0):=HKW.o.some_ (by have h:=hcl k u hu 0 (by omega);simpa [toV,SubV.cellAt,hqn,hhn] using h) (by simp;omega)
     have x1:wr.cell? ⟨b0,o0+k*9+1,none⟩=some (.string u.filter):=HKW.o.some_ (by have h:=hcl k u hu 1 (by omega);simpa [toV,SubV.cellAt,hqn,hhn] using h) (by simp;omega)
     have x2:wr.cell? ⟨b0,o0+k*9+2,none⟩=some (.int .i64 idn):=HKW.o.some_ (by have h:=hcl k u hu 2 (by omega);simpa [toV,SubV.cellAt,hqn,hhn] using h) (by simp;omega)
     have x3:wr.cell? ⟨b0,o0+k*9+3,none⟩=some (.map none):=HKW.o.some_ (by have h:=hcl k u hu 3 (by omega);simpa [toV,SubV.cellAt,hqn,hhn] using h) (by simp;omega)
     have x4:wr.cell? ⟨b0,o0+k*9+4,none⟩=some (.int .u8 u.handling):=HKW.o.some_ (by have h:=hcl k u hu 4 (by omega);simpa [toV,SubV.cellAt,hqn,hhn] using h) (by simp;omega)
     have x5:wr.cell? ⟨b0,o0+k*9+5,none⟩=some (.int .u8 u.qos):=HKW.o.some_ (by have h:=hcl k u hu 5 (by omega);simpa [toV,SubV.cellAt,hqn,hhn] using h) (by simp;omega)
     have x6:wr.cell? ⟨b0,o0+k*9+6,none⟩=some (.bool u.ap):=HKW.o.some_ (by have h:=hcl k u hu 6 (by omega);simpa [toV,SubV.cellAt,hqn,hhn] using h) (by simp;omega)
     have x7:wr.cell? ⟨b0,o0+k*9+7,none⟩=some (.bool u.nl):=HKW.o.some_ (by have h:=hcl k u hu 7 (by omega);simpa [toV,SubV.cellAt,hqn,hhn] using h) (by simp;omega)
     have x8:wr.cell? ⟨b0,o0+k*9+8,none⟩=some (.bool false):=HKW.o.some_ (by have h:=hcl k u hu 8 (by omega);simpa [toV,SubV.cellAt,hqn,hhn] using h) (by simp;omega)
     clear hcl hu huz hqn hhn hbt
     go_upto_region 19 with fail
     try simp only[Act.put]
     have HNB:=hH (Blk.new wr 108 #[.slice none 0 0,.string u.filter,.int .i64 idn,.map none,.int .u8 u.handling,.int .u8 u.qos,.bool u.ap,.bool u.nl,.bool false])
     have HKV:=hH (Keeps.alloc wr (.cells #[.slice none 0 0,.string u.filter,.int .i64 idn,.map none,.int .u8 u.handling,.int .u8 u.qos,.bool u.ap,.bool u.nl,.bool false] 108))
     have HO6:=hH (HO.o.alloc (.cells #[.slice none 0 0,.string u.filter,.int .i64 idn,.map none,.int .u8 u.handling,.int .u8 u.qos,.bool u.ap,.bool u.nl,.bool false] 108))
     have HB6:=hH (HBk.o.alloc (.cells #[.slice none 0 0,.string u.filter,.int .i64 idn,.map none,.int .u8 u.handling,.int .u8 u.qos,.bool u.ap,.bool u.nl,.bool false] 108))
     generalize wr.alloc (.cells #[.slice none 0 0,.string u.filter,.int .i64 idn,.map none,.int .u8 u.handling,.int .u8 u.qos,.bool u.ap,.bool u.nl,.bool false] 108)=W5 at*
     generalize wr.heap.size=nb at*
     clear x0 x1 x2 x3 x4 x5 x6 x7 x8
     have y1:W5.cell? ⟨nb,1,none⟩=some (.string u.filter):=by rw[HNB.o.cell];rfl
     have y4:W5.cell? ⟨nb,4,none⟩=some (.int .u8 u.handling):=by rw[HNB.o.cell];rfl
     have y5:W5.cell? ⟨nb,5,none⟩=some (.int .u8 u.qos):=by rw[HNB.o.cell];rfl
     have y6:W5.cell? ⟨nb,6,none⟩=some (.bool u.ap):=by rw[HNB.o.cell];rfl
     have y7:W5.cell? ⟨nb,7,none⟩=some (.bool u.nl):=by rw[HNB.o.cell];rfl
     have y19:W5.cell? ⟨t4,19,none⟩=some (.slice A2 k c2):=by rw[HB6.o.cell];rfl
     have HRN:Hd (Rd (W5.alloc (.cells #[.string u.filter,.int .i64 u.qos,.bool u.nl,.bool u.ap,.int .i64 u.handling] 55)) 5 (some ⟨W5.heap.size,0,none⟩) 1 u.cells):=rd_new W5 55 #[.string u.filter,.int .i64 u.qos,.bool u.nl,.bool u.ap,.int .i64 u.handling] 5 1 rfl
     have HON:=hH (HO6.o.alloc (.cells #[.string u.filter,.int .i64 u.qos,.bool u.nl,.bool u.ap,.int .i64 u.handling] 55))
     have HBN:=hH (HB6.o.alloc (.cells #[.string u.filter,.int .i64 u.qos,.bool u.nl,.bool u.ap,.int .i64 u.handling] 55))
     go_wp2_with (at_builtin;refine wpList_append_rd _ rfl (.tmp 150) (.tmp 164) 26 rfl 55 i5 _ 5 40 underlying26 HI5.o Z51.o Z52.o Z53.o rfl (by decide) (.slice A2 k c2) k _ rfl HON.o _ 1 1 _ rfl HRN.o (by intro x hx;simp[SubP.cells] at hx;rcases hx with rfl|rfl|rfl|rfl|rfl<;>rfl) (by omega) (by unfold maxLen;omega) ?_;intro A3 c3 wy ho2 hkz hd2;have HN:=ow_next (i:=19) HT5.o (by omega) (by omega) HBk.o HA2.o HKW.o (HKV.o.trans (Keeps.alloc W5 (.cells #[.string u.filter,.int .i64 u.qos,.bool u.nl,.bool u.ap,.int .i64 u.handling] 55)) (by simp)) ho2 hkz hd2;have hbz:=HBN.o.keep hkz (by rw[own_slice];intro hm;have:=HA2.o t4 (Option.mem_toList.1 hm);have:=HT5.o;omega);have z19:wy.cell? ⟨t4,19,none⟩=some (.slice A2 k c2):=(by rw[hbz.cell];rfl);have f19:=hbz.frozen 19;have HNN:=hH HN;clear HN ho2 hkz hd2 hbz)
     go_roundg g'
     case measure=>omega
     case rel=>exact⟨k+1,A3,c3,by go_num,hlt,by omega,HNN.o.1,by rw[List.take_add_one,HU.o];simpa using HNN.o.2.1,HNN.o.2.2.1,HNN.o.2.2.2⟩
    ·have hkl:k=q.subs.length:=by omega
     subst hkl
     have ho:=HO.o
     rw[List.take_length] at ho
     have hl5:=HP5.o.lt4
     have P6:PP w wr g xb f t4 {pc0 q with level:=q.level,will:=q.will,user:=q.user,pass:=q.pass,codes:=q.codes,subs:=q.subs} (upd h5 19 (.slice A2 q.subs.length c2)):=by
      have hgl:=HGL.o
      have hm:=HP5.o.mem.keep HKW.o (fun x hx hn=>by simp at hx;exact absurd hx hn.1)
      refine⟨HP5.o.bg.keep HKW.o (by simp;omega),HP5.o.b2.keep HKW.o (by simp;omega),HP5.o.b3.keep HKW.o (by simp;omega),HBk.o,hl5,⟨hm.m7,hm.m13,hm.m14,hm.m15,hm.m18,⟨A2,c2,rfl,own_rd ho,own_cap2 ho,fun a ha _=>⟨own_lt ho a.block (by rw[ha];rfl),?_,?_⟩⟩,hm.m20⟩,HP5.o.k.trans HKW.o (by simp;omega)⟩
      ·have:=HA2.o a.block (by rw[ha];rfl);have:=HT5.o;show _≠_;omega
      ·have:=HA2.o a.block (by rw[ha];rfl);have:=HT5.o;show _<_;omega
     obtain⟨h6,hh6⟩:∃h6,upd h5 19 (.slice A2 q.subs.length c2)=h6:=⟨_,rfl⟩
     rw[hh6] at P6
     obtain⟨tg,htg⟩:∃tg,({pc0 q with level:=q.level,will:=q.will,user:=q.user,pass:=q.pass,codes:=q.codes,subs:=q.subs}:PkV).cells h6=tg:=⟨_,rfl⟩
     have hb4:=P6.b4
     rw[htg] at hb4
     have hsz:tg.size=21:=by rw[←htg];rfl
     have h1:tg.all (·.oneCell')=true:=by
      have hs:=P6.mem.sl
      rw[←htg]
      show(#[.int .i64 q.kind,.int .i64 q.version,.bool q.dup,.bool q.retain,.int .i64 q.qos,.int .i64 q.id,.string q.topic,h6 7,.string q.name,.int .i64 q.level,.string q.client,.bool q.clean,.int .i64 q.keep,h6 13,h6 14,h6 15,.bool q.present,.int .i64 q.code,h6 18,h6 19,h6 20]:Array Value).all _=true
      simp only[List.all_toArray,List.all_cons,List.all_nil,hs.1,hs.2.1,hs.2.2.1,hs.2.2.2.1,hs.2.2.2.2.1,hs.2.2.2.2.2.1,hs.2.2.2.2.2.2];rfl
     have hi:(prog.info? 29).map (·.size)=some tg.size:=by rw[hsz];exact HI29.o
     have HP6:=hH P6
     have HF:=hH hb4
     have H1t:=hH h1
     have HIt:=hH hi
     have HSZ:=hH hsz
     have HTG:=hH htg
     clear P6 hb4 h1 hi hsz htg hh6 ho HO HA2 HKW HBk HP5 x89
     go_wp2_with (first|refine wpList_load_row rfl 29 (.tmp 4) rfl t4 rfl 29 tg (0,0) _ HF.o underlying29 rfl HIt.o ?_|refine wpList_store_row rfl 29 (.tmp 2) (.tmp 168) rfl w.heap.size tg rfl rfl 29 z29 HP6.o.b2 HIt.o HSZ.o.symm H1t.o ?_)
     (try simp only[Exit.inBlock,Exit.then])
     refine bodyPost_ret (v:=.agg tg) ?_ rfl ?_
     ·exact results_cell_row rfl _ _ w.heap.size 29 tg (0,0) _ rfl (blk_setRow HP6.o.b2 tg) underlying29 rfl HIt.o
     ·have hset:=keeps_setRow wr w.heap.size tg
      have hm:=(HP6.o.mem.keep hset (fun x hx hn=>by simp at hx;have:=hn.2;omega))
      have hkk:=HP6.o.k.trans hset (by simp)
      have all:∀(b:Nat),b<(wr.setRow w.heap.size tg).heap.size→(b≠t4∧w.heap.size<b)→w.heap.size<b:=fun _ _ h=>h.2
      refine⟨h6,by rw[←HTG.o];rfl,⟨hm.m7.mono all,?_,?_,?_,SlAt.mono hm.m18 all,SlAt.mono hm.m19 all,SlAt.mono hm.m20 all⟩,hkk⟩
      ·obtain⟨ys,y1,y2⟩:=hm.m13
       exact⟨ys,y1.mono all,fun i u hi=>(y2 i u hi).mono all⟩
      ·obtain⟨ys,y1,y2⟩:=hm.m14
       exact zX0
      ·obtain⟨ys,y1,y2⟩:=hm.m15
       exact zX0
end Go.Proofs.YtkglmacaecmhdaaGreatDoor
