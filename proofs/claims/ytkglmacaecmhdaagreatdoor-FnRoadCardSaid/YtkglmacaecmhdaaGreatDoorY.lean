/- FnRoad, part Y: the walks of Y0, Y1. -/
import Derived.Test.YtkglmacaecmhdaaGreatDoorUa
import Derived.Test.YtkglmacaecmhdaaGreatDoorX
set_option linter.unusedVariables false
set_option linter.unusedSimpArgs false
set_option maxHeartbeats 16000000
set_option maxRecDepth 100000
namespace Go.Proofs.YtkglmacaecmhdaaGreatDoor
open Go Go.RowKit Tryz
structure PkNums (p:PkV):Prop where
 kind:0≤p.kind∧p.kind≤255
 version:0≤p.version∧p.version≤255
 qos:0≤p.qos∧p.qos≤255
 level:0≤p.level∧p.level≤255
 code:0≤p.code∧p.code≤255
 id:0≤p.id∧p.id≤65535
 keep:0≤p.keep∧p.keep≤65535
 lv:p.kind=1→p.level=p.version
 codes:(∀x∈p.codes,0≤x∧x≤255)∧p.codes.length≤1000
 payl:p.payload.length≤100000
 wills:p.will.length≤1∧∀u∈p.will,(0≤u.qos∧u.qos≤255)∧u.payload.length≤100000∧∃k,ProperL k u.props
 users:p.user.length≤1∧∀u∈p.user,u.length≤100000
 passes:p.pass.length≤1∧∀u∈p.pass,u.length≤100000
 subs:p.subs.length≤1000∧∀s∈p.subs,(0≤s.qos∧s.qos≤255)∧0≤s.handling∧s.handling≤255
 props:∃k,ProperL k p.props
def DatNew (lo G:Nat) (w:World) (v:Value) (ys:List UInt8):Prop:=∃A c,v=.slice A ys.length c∧Rd w 1 A ys.length (bvs ys)∧∀a,A=some a→lo≤a.block∧a.block≠G∧a.block<w.heap.size
theorem DatNew.keep {lo G:Nat} {w w':World} {v:Value} {ys:List UInt8} {S:List Nat} (h:DatNew lo G w v ys) (k:Keeps S w w') (hS:∀x∈S,x=G∨x<lo∨w.heap.size≤x):DatNew lo G w' v ys:=by
 obtain⟨A,c,rfl,h2,h3⟩:=h
 refine⟨A,c,rfl,h2.keep k (fun a ha hm=>?_),fun a ha=>⟨(h3 a ha).1,(h3 a ha).2.1,Nat.lt_of_lt_of_le (h3 a ha).2.2 k.size⟩⟩
 have h4:=h3 a ha
 rcases hS _ hm with h|h|h
 ·exact h4.2.1 h
 ·omega
 ·omega
theorem DatNew.nil (lo G:Nat) (w:World):DatNew lo G w (.slice none 0 0) []:=⟨none,0,rfl,Rd.none_ _ _,by simp⟩
theorem PSt.keep2 {B:Nat} {w w':World} {b:Nat→Option Nat} {l:List PropV} {cs:Array Value} {S:List Nat} (h:PSt B w b l cs) (k:Keeps S w w') (hS:∀x∈S,x≤B∨w.heap.size≤x):PSt B w' b l cs:=by
 have hn:∀i,i<4→∀k,b i=some k→k∉S:=fun i hi k hk hm=>by
  have h1:=h.lt i k hi hk
  rcases hS _ hm with h2|h2<;>omega
 obtain⟨A1,c1,x1,x2,x3⟩:=h.nm
 obtain⟨A3,c3,y1,y2,y3⟩:=h.us
 exact {h with
  d0:=h.d0.keep k (hn 0 (by omega)),d2:=h.d2.keep k (hn 2 (by omega))
  nm:=⟨A1,c1,x1,ownsRow_keep x2 k (by rw[own_slice,x3];exact hn 1 (by omega)),x3⟩
  us:=⟨A3,c3,y1,ownsRow_keep y2 k (by rw[own_slice,y3];exact hn 3 (by omega)),y3⟩
  lt:=fun i j hi hj=>⟨(h.lt i j hi hj).1,Nat.lt_of_lt_of_le (h.lt i j hi hj).2 k.size⟩}
def PStF (G:Nat) (w:World) (F:Nat→Value) (o:Nat) (l:List PropV):Prop:=∃B b,G≤B∧PSt B w b l (slc F o 37).toArray
theorem PStF.keep {G:Nat} {w w':World} {F:Nat→Value} {o:Nat} {l:List PropV} {S:List Nat} (h:PStF G w F o l) (k:Keeps S w w') (hS:∀x∈S,x≤G∨w.heap.size≤x):PStF G w' F o l:=by
 obtain⟨B,b,h1,h2⟩:=h
 exact⟨B,b,h1,h2.keep2 k (fun x hx=>by rcases hS x hx with h|h;exact .inl (by omega);exact .inr h)⟩
theorem PStF.congr {G:Nat} {w:World} {F F':Nat→Value} {o:Nat} {l:List PropV} (h:PStF G w F o l) (he:∀j,o≤j→j<o+37→F' j=F j):PStF G w F' o l:=by
 obtain⟨B,b,h1,h2⟩:=h
 refine⟨B,b,h1,?_⟩
 have e:slc F' o 37=slc F o 37:=by
  unfold slc
  apply List.map_congr_left
  intro j hj
  have:=List.mem_range.1 hj
  exact he (o+j) (by omega) (by omega)
 rw[e];exact h2
def OptEnc (lo G:Nat) (w:World) (F:Nat→Value) (fl d:Nat) (l:List (List UInt8)):Prop:=(l=[]∧F fl=.bool false∧F d=.slice none 0 0)∨∃ys,l=[ys]∧F fl=.bool true∧DatNew lo G w (F d) ys
def WillEnc (lo G:Nat) (w:World) (F:Nat→Value) (l:List WillV):Prop:=
 (l=[]∧F 47=.bool false∧F 46=.int .u8 0∧F 48=.bool false∧F 42=.string ⟨#[]⟩∧F 40=.slice none 0 0∧PStF G w F 0 [])∨
 ∃u,l=[u]∧F 47=.bool true∧F 46=.int .u8 u.qos∧F 48=.bool u.retain∧F 42=.string u.topic∧DatNew lo G w (F 40) u.payload∧PStF G w F 0 u.props
def scal (p:PkV):List (Nat×Value):=[(92,.int .i64 0),(93,.int .u8 p.kind),(94,.int .u8 p.qos),(95,.bool p.dup),(96,.bool p.retain),(99,.int .u32 0),(100,.bool false),(101,.bool true),(103,.int .u8 p.version),(102,.int .u16 p.id),(90,.string p.topic),(104,.bool p.present),(105,.int .u8 p.code),(41,.string p.client),(49,.bool p.clean),(43,.int .u16 p.keep)]
def ScF (p:PkV) (F:Nat→Value):Prop:=∀x∈scal p,F x.1=x.2
theorem ScF.upd {p:PkV} {F:Nat→Value} (h:ScF p F) (i:Nat) (v:Value) (hi:∀x∈scal p,x.1≠i):ScF p (upd F i v):=fun x hx=>by
 unfold YtkglmacaecmhdaaGreatDoor.upd
 rw[if_neg (hi x hx)];exact h x hx
structure GvSt (w wc:World) (bp G:Nat) (p:PkV) (v F:Nat→Value) (wl:List WillV) (us ps:List (List UInt8)) (cds:List Int) (sbs:List SubP) (pr:List PropV):Prop where
 box:Blk wc bp 29 (p.cells v)
 bg:Blk wc G 86 (arr F)
 lt:bp<G
 lo:w.heap.size≤bp
 sc:ScF p F
 d87:DatNew w.heap.size G wc (F 87) p.payload
 d39:DatNew w.heap.size G wc (F 39) p.name.data.toList
 will:WillEnc w.heap.size G wc F wl
 user:OptEnc w.heap.size G wc F 45 38 us
 pass:OptEnc w.heap.size G wc F 44 37 ps
 codes:DatNew w.heap.size G wc (F 88) (codeB cds)
 subs:∃A c,F 89=.slice A sbs.length c∧Rd wc 9 A sbs.length (sbs.flatMap fun s=>(toV 0 s).cells)∧∀a,A=some a→G<a.block∧a.block<wc.heap.size
 props:PStF G wc F 50 pr
 k:Keeps [] w wc
theorem DatNew.keep0 {lo G:Nat} {w w':World} {v:Value} {ys:List UInt8} (h:DatNew lo G w v ys) (k:Keeps [] w w'):DatNew lo G w' v ys:=h.keep k (by simp)
section
variable {w wc w':World} {bp G:Nat} {p:PkV} {v F:Nat→Value} {wl:List WillV} {us ps:List (List UInt8)} {cds:List Int} {sbs:List SubP} {pr:List PropV} {S:List Nat}
theorem GvSt.keep (h:GvSt w wc bp G p v F wl us ps cds sbs pr) (k:Keeps S wc w') (hS:∀x∈S,wc.heap.size≤x):GvSt w w' bp G p v F wl us ps cds sbs pr:=by
 have hb:=h.box.lt
 have hg:=h.bg.lt
 have hd:∀{u ys},DatNew w.heap.size G wc u ys→DatNew w.heap.size G w' u ys:=fun h=>h.keep k (fun x hx=>.inr (.inr (hS x hx)))
 have hs:∀{o l},PStF G wc F o l→PStF G w' F o l:=fun h=>h.keep k (fun x hx=>.inr (hS x hx))
 have ho:∀{a b l},OptEnc w.heap.size G wc F a b l→OptEnc w.heap.size G w' F a b l:=fun h=>by
  rcases h with h|⟨ys,h1,h2,h3⟩
  ·exact .inl h
  ·exact .inr ⟨ys,h1,h2,hd h3⟩
 obtain⟨A,c,h1,h2,h3⟩:=h.subs
 refine⟨h.box.keep k (fun hm=>by have:=hS _ hm;omega),h.bg.keep k (fun hm=>by have:=hS _ hm;omega),h.lt,h.lo,h.sc,hd h.d87,hd h.d39,?_,ho h.user,ho h.pass,hd h.codes,⟨A,c,h1,h2.keep k (fun a ha hm=>by have:=hS _ hm;have:=(h3 a ha).2;omega),fun a ha=>⟨(h3 a ha).1,Nat.lt_of_lt_of_le (h3 a ha).2 k.size⟩⟩,hs h.props,h.k.trans k (fun x hx=>.inr (Nat.le_trans h.k.size (hS x hx)))⟩
 rcases h.will with⟨a1,a2,a3,a4,a5,a6,a7⟩|⟨u,a1,a2,a3,a4,a5,a6,a7⟩
 ·exact .inl ⟨a1,a2,a3,a4,a5,a6,hs a7⟩
 ·exact .inr ⟨u,a1,a2,a3,a4,a5,hd a6,hs a7⟩
end
def Z88 (F:Nat→Value):Prop:=F 88=.slice none 0 0∧F 89=.slice none 0 0
theorem Z88.upd {F:Nat→Value} (z:Z88 F) {i:Nat} (v:Value) (hi:i≠88∧i≠89):Z88 (YtkglmacaecmhdaaGreatDoor.upd F i v):=by
 unfold Z88 YtkglmacaecmhdaaGreatDoor.upd
 rw[if_neg (by omega),if_neg (by omega)];exact z
section
variable {w wc w':World} {bp G:Nat} {p:PkV} {v F F':Nat→Value} {wl:List WillV} {us ps:List (List UInt8)} {cds:List Int} {sbs:List SubP} {pr:List PropV} {lo:Nat}
theorem DatNew.keepG {u:Value} {ys:List UInt8} (h:DatNew lo G wc u ys) (k:Keeps [G] wc w'):DatNew lo G w' u ys:=h.keep k (fun x hx=>.inl (by simpa using hx))
theorem PStF.keepG {o:Nat} {l:List PropV} (h:PStF G wc F o l) (k:Keeps [G] wc w'):PStF G w' F o l:=h.keep k (fun x hx=>.inl (by simp at hx;omega))
theorem OptEnc.keepG {a d:Nat} {l:List (List UInt8)} (h:OptEnc lo G wc F a d l) (k:Keeps [G] wc w') (h1:F' a=F a) (h2:F' d=F d):OptEnc lo G w' F' a d l:=by
 rcases h with⟨a1,a2,a3⟩|⟨ys,a1,a2,a3⟩
 ·exact .inl ⟨a1,by rw[h1,a2],by rw[h2,a3]⟩
 ·exact .inr ⟨ys,a1,by rw[h1,a2],by rw[h2];exact a3.keepG k⟩
theorem WillEnc.keepG (h:WillEnc lo G wc F wl) (k:Keeps [G] wc w') (he:∀j,j<49→j≠37→j≠38→j≠39→j≠41→j≠43→j≠44→j≠45→F' j=F j):WillEnc lo G w' F' wl:=by
 have hp:∀{l},PStF G wc F 0 l→PStF G w' F' 0 l:=fun h=>(h.keepG k).congr (fun j _ hj=>he j (by omega) (by omega) (by omega) (by omega) (by omega) (by omega) (by omega) (by omega))
 have e:=fun j h1 h2 h3 h4 h5 h6 h7 h8=>he j h1 h2 h3 h4 h5 h6 h7 h8
 have e47:=he 47 (by omega) (by omega) (by omega) (by omega) (by omega) (by omega) (by omega) (by omega)
 have e46:=he 46 (by omega) (by omega) (by omega) (by omega) (by omega) (by omega) (by omega) (by omega)
 have e48:=he 48 (by omega) (by omega) (by omega) (by omega) (by omega) (by omega) (by omega) (by omega)
 have e42:=he 42 (by omega) (by omega) (by omega) (by omega) (by omega) (by omega) (by omega) (by omega)
 have e40:=he 40 (by omega) (by omega) (by omega) (by omega) (by omega) (by omega) (by omega) (by omega)
 rcases h with⟨a1,a2,a3,a4,a5,a6,a7⟩|⟨u,a1,a2,a3,a4,a5,a6,a7⟩
 ·exact .inl ⟨a1,by rw[e47,a2],by rw[e46,a3],by rw[e48,a4],by rw[e42,a5],by rw[e40,a6],hp a7⟩
 ·exact .inr ⟨u,a1,by rw[e47,a2],by rw[e46,a3],by rw[e48,a4],by rw[e42,a5],by rw[e40];exact a6.keepG k,hp a7⟩
theorem subsG {cs:List SubP} (h:∃A c,F 89=.slice A cs.length c∧Rd wc 9 A cs.length (cs.flatMap fun s=>(toV 0 s).cells)∧∀a,A=some a→G<a.block∧a.block<wc.heap.size) (k:Keeps [G] wc w') (h9:F' 89=F 89):
 ∃A c,F' 89=.slice A cs.length c∧Rd w' 9 A cs.length (cs.flatMap fun s=>(toV 0 s).cells)∧∀a,A=some a→G<a.block∧a.block<w'.heap.size:=by
 obtain⟨A,c,h1,h2,h3⟩:=h
 exact⟨A,c,by rw[h9,h1],h2.keep k (fun a ha hm=>by have:=(h3 a ha).1;simp at hm;omega),fun a ha=>⟨(h3 a ha).1,Nat.lt_of_lt_of_le (h3 a ha).2 k.size⟩⟩
theorem GvSt.mk2 {wl2:List WillV} {us2 ps2:List (List UInt8)} {cds2:List Int} {sbs2:List SubP} {pr2:List PropV} (h:GvSt w wc bp G p v F wl us ps cds sbs pr) (k:Keeps [G] wc w') (hb:Blk w' G 86 (arr F')) (sc:ScF p F') (e87:F' 87=F 87) (e39:F' 39=F 39)
 (h1:WillEnc w.heap.size G w' F' wl2) (h2:OptEnc w.heap.size G w' F' 45 38 us2) (h3:OptEnc w.heap.size G w' F' 44 37 ps2) (h4:DatNew w.heap.size G w' (F' 88) (codeB cds2))
 (h5:∃A c,F' 89=.slice A sbs2.length c∧Rd w' 9 A sbs2.length (sbs2.flatMap fun s=>(toV 0 s).cells)∧∀a,A=some a→G<a.block∧a.block<w'.heap.size) (h6:PStF G w' F' 50 pr2):GvSt w w' bp G p v F' wl2 us2 ps2 cds2 sbs2 pr2:=
 ⟨h.box.keep k (by have:=h.lt;simp;omega),hb,h.lt,h.lo,sc,by rw[e87];exact h.d87.keepG k,by rw[e39];exact h.d39.keepG k,h1,h2,h3,h4,h5,h6,h.k.trans k (by have:=h.lt;have:=h.lo;simp;omega)⟩
theorem GvSt.cell (h:GvSt w wc bp G p v F wl us ps cds sbs pr) (j:Nat) (hj:j<108):wc.cell? ⟨G,j,none⟩=some (F j):=by rw[h.bg.cell,arr_get F j hj]
theorem GvSt.frozen (h:GvSt w wc bp G p v F wl us ps cds sbs pr) (j:Nat):wc.frozen? ⟨G,j,none⟩=false:=h.bg.frozen j
theorem GvSt.bx (h:GvSt w wc bp G p v F wl us ps cds sbs pr) (j:Nat) (u:Value) (hj:(p.cells v)[j]?=some u):wc.cell? ⟨bp,j,none⟩=some u:=by rw[h.box.cell,hj]
end
theorem proper_known {kind:Int} {l:List PropV} (h:ProperL kind l):∀x∈l,known x.id∧okN x.id x.n∧x.text.size≤65535∧x.other.size≤65535:=fun x hx=>by
 have ok:=h.ok x hx
 have hk:=kindOf_known ok.k0
 refine⟨hk,?_,?_,?_⟩
 ·unfold okN
  by_cases h1:x.id=1∨x.id=23∨x.id=25∨x.id=36∨x.id=37∨x.id=40∨x.id=41∨x.id=42
  ·rw[if_pos h1]
   have:=(ok.k1 (by unfold kindOf;rw[if_pos h1])).1
   omega
  ·rw[if_neg h1]
   by_cases h2:x.id=19∨x.id=33∨x.id=34∨x.id=35
   ·rw[if_pos h2]
    exact(ok.k2 (by unfold kindOf;rw[if_neg h1,if_pos h2])).1
   ·rw[if_neg h2]
    by_cases h4:x.id=2∨x.id=17∨x.id=24∨x.id=39
    ·exact(ok.k4 (by unfold kindOf;rw[if_neg h1,if_neg h2,if_pos h4])).1
    ·by_cases h5:x.id=11
     ·have:=(ok.k5 (by unfold kindOf;rw[if_neg h1,if_neg h2,if_neg h4,if_pos h5])).2
      omega
     ·have h6:6≤kindOf x.id:=by
       unfold kindOf
       rw[if_neg h1,if_neg h2,if_neg h4,if_neg h5]
       repeat' split
       all_goals omega
      have:=ok.n0 h6
      omega
 ·rcases Nat.lt_or_ge (kindOf x.id) 6 with h|h
  ·rw[ok.t0 (by omega)];exact Nat.zero_le _
  ·have h8:kindOf x.id≤8:=by
    unfold kindOf
    repeat' split
    all_goals omega
   rcases(show kindOf x.id=6∨kindOf x.id=7∨kindOf x.id=8 by omega) with h|h|h
   ·exact(ok.k6 h).1.1
   ·exact(ok.k7 h).2
   ·exact(ok.k8 h).1.1
 ·rcases Nat.lt_or_ge (kindOf x.id) 8 with h|h
  ·rw[ok.o0 (by omega)];exact Nat.zero_le _
  ·have h8:kindOf x.id≤8:=by
    unfold kindOf
    repeat' split
    all_goals omega
   exact(ok.k8 (by omega)).2.1
theorem pst_one {B:Nat} {w:World} {b:Nat→Option Nat} {l:List PropV} {cs:Array Value} (h:PSt B w b l cs):cs.all (·.oneCell')=true:=by
 rw[Array.all_eq_true]
 intro j hj
 have hz:=h.sz
 have hg:=Array.getElem?_eq_getElem hj
 have hd:∀p u bb,PDat w p u bb→∀x,u=some x→x.oneCell'=true:=fun p u bb hr x hx=>by
  cases p with
  |none=>rw[hx] at hr;rw[Option.some.inj hr.1];rfl
  |some y=>obtain⟨A,c,h1,_⟩:=hr;rw[hx] at h1;rw[Option.some.inj h1];rfl
 rcases Nat.lt_or_ge j 4 with h4|h4
 ·obtain rfl|rfl|rfl|rfl:j=0∨j=1∨j=2∨j=3:=by omega
  ·exact hd _ _ _ h.d0 _ hg
  ·obtain⟨A,c,h1,_⟩:=h.nm
   rw[hg] at h1;rw[Option.some.inj h1];rfl
  ·exact hd _ _ _ h.d2 _ hg
  ·obtain⟨A,c,h1,_⟩:=h.us
   rw[hg] at h1;rw[Option.some.inj h1];rfl
 ·have h1:=h.sc j h4 (by omega)
  rw[hg] at h1;rw[Option.some.inj h1];exact cellV_one l j
theorem load76r {S:World→Prop} {d:Tmp} {ty:TypeId} {pos:String} {af:Array Edge} {gd:Option (Nat×Bool)} {a:Act} {g o:Nat} {cs:Array Value} {x:Operand} (hx:a.eval x=.pointer (some ⟨g,o,none⟩))
 (hS:∀w,S w→w.rangeAt g o cs.toList) (hi:(prog.info? 76).map (·.size)=some cs.size):∀w,S w→(execOp a.eval ⟨some d,.load 76 x,ty,pos,af,gd⟩).run prog w=.ok (.value (.agg cs)) w:=fun w hw=>by
 have h:=run_loadVar_mid (P:=prog) w g o 76 cs.toList _ (hS w hw) underlying76 rfl (by simpa using hi)
 rw[Array.toArray_toList] at h
 unfold execOp
 simp only[hx,Instr.loadAt,Instr.sureAddr,Sem.run_bind,Sem.run_pure,Result.andThen_ok,h]
theorem zY4 {p:Prop} (h:p:=by
 rw[List.getElem?_toArray,List.getElem?_eq_none (by rw[slc_len];omega),Array.getElem?_eq_none (by omega)]
 ):p:=h
theorem slc_cs {F:Nat→Value} {o:Nat} {cs:Array Value} (hz:cs.size=37) (h:∀j,j<37→cs[j]?=some (F (o+j))):(slc F o 37).toArray=cs:=by
 apply Array.ext_getElem?
 intro j
 rcases Nat.lt_or_ge j 37 with hj|hj
 ·rw[List.getElem?_toArray,slc_get F o 37 j hj,h j hj]
 ·exact zY4
section
variable {w wc wr wz w':World} {bp G:Nat} {p:PkV} {v F F':Nat→Value} {wl:List WillV} {us ps:List (List UInt8)} {cds:List Int} {sbs:List SubP} {pr:List PropV} {lo:Nat}
theorem zY3 {p:Prop} (h:p:=by
 have:=b5 j (by rw[Array.length_toList];omega)
 rw[arr_get _ _ (by omega),Array.getElem?_toList] at this
 rw[←this]
 ):p:=h
theorem will_fin {u:WillV} {B cp:Nat} {b:Nat→Option Nat} {cs:Array Value} {Ap:Option Addr} (h:GvSt w wr bp G p v F [] us ps cds sbs pr) (hz:Z88 F) (k:Keeps [] wr wz) (hp:PSt B wz b u.props cs) (hB:G≤B) (hr:Rd wz 1 Ap u.payload.length (bvs u.payload)) (ha:∀a,Ap=some a→w.heap.size≤a.block∧a.block≠G∧a.block<wz.heap.size):
 ∃F4,Z88 F4∧GvSt w ((((((wz.setCell ⟨G,47,none⟩ (.bool true)).setCell ⟨G,42,none⟩ (.string u.topic)).setCell ⟨G,40,none⟩ (.slice Ap u.payload.length cp)).setCell ⟨G,46,none⟩ (.int .u8 u.qos)).setCell ⟨G,48,none⟩ (.bool u.retain)).setCells G 0 cs.toList) bp G p v F4 [u] us ps cds sbs pr:=by
 have g:=h.keep k (by simp)
 have hb:=((((g.bg.set_ 47 (.bool true)).set_ 42 (.string u.topic)).set_ 40 (.slice Ap u.payload.length cp)).set_ 46 (.int .u8 u.qos)).set_ 48 (.bool u.retain)
 rw[arr_set,arr_set,arr_set,arr_set,arr_set] at hb
 have k5:Keeps [G] wz (((((wz.setCell ⟨G,47,none⟩ (.bool true)).setCell ⟨G,42,none⟩ (.string u.topic)).setCell ⟨G,40,none⟩ (.slice Ap u.payload.length cp)).setCell ⟨G,46,none⟩ (.int .u8 u.qos)).setCell ⟨G,48,none⟩ (.bool u.retain)):=
  ((((Keeps.setCell wz ⟨G,47,none⟩ _).trans (Keeps.setCell _ ⟨G,42,none⟩ _) (by simp)).trans (Keeps.setCell _ ⟨G,40,none⟩ _) (by simp)).trans (Keeps.setCell _ ⟨G,46,none⟩ _) (by simp)).trans (Keeps.setCell _ ⟨G,48,none⟩ _) (by simp)
 have hcz:cs.size=37:=hp.sz
 obtain⟨cs',b1,b2,b3,b4,b5⟩:=blk_setCells (w:=wz) (g:=G) (t:=86) cs.toList _ 0 _ hb (by rw[arr_size,Array.length_toList];omega)
 obtain⟨F4,rfl,hF4⟩:=arr_of cs' (by rw[b2,arr_size])
 have k6:=k5.trans b3 (by simp)
 have e:∀j,37≤j→j<108→F4 j=upd (upd (upd (upd (upd F 47 (.bool true)) 42 (.string u.topic)) 40 (.slice Ap u.payload.length cp)) 46 (.int .u8 u.qos)) 48 (.bool u.retain) j:=fun j h1 h2=>by
  have:=b4 j (.inr (by rw[Array.length_toList];omega))
  rw[arr_get _ _ h2,arr_get _ _ h2] at this
  exact Option.some.inj this
 have e0:∀j,j<37→cs[j]?=some (F4 (0+j)):=fun j hj=>by
  exact zY3
 refine⟨F4,⟨(e 88 (by omega) (by omega)).trans hz.1,(e 89 (by omega) (by omega)).trans hz.2⟩,g.mk2 k6 b1 ?_ (e 87 (by omega) (by omega)) (e 39 (by omega) (by omega)) (.inr ⟨u,rfl,e 47 (by omega) (by omega),e 46 (by omega) (by omega),e 48 (by omega) (by omega),e 42 (by omega) (by omega),?_,B,b,hB,?_⟩) (g.user.keepG k6 (e 45 (by omega) (by omega)) (e 38 (by omega) (by omega))) (g.pass.keepG k6 (e 44 (by omega) (by omega)) (e 37 (by omega) (by omega))) ?_ (subsG g.subs k6 (e 89 (by omega) (by omega))) ((g.props.keepG k6).congr (fun j h1 h2=>?_))⟩
 ·intro x hx
  have hx2:=hx
  simp only[scal,List.mem_cons,List.mem_nil_iff,or_false] at hx
  rcases hx with rfl|rfl|rfl|rfl|rfl|rfl|rfl|rfl|rfl|rfl|rfl|rfl|rfl|rfl|rfl|rfl
  all_goals exact(e _ (by simp) (by simp)).trans (g.sc _ hx2)
 ·rw[e 40 (by omega) (by omega)]
  exact DatNew.keepG ⟨Ap,cp,rfl,hr,ha⟩ k6
 ·rw[slc_cs hcz e0]
  exact hp.keep2 k6 (fun x hx=>.inl (by simp at hx;omega))
 ·rw[e 88 (by omega) (by omega)];exact g.codes.keepG k6
 ·rw[e j (by omega) (by omega)]
  unfold upd
  rw[if_neg (by omega),if_neg (by omega),if_neg (by omega),if_neg (by omega),if_neg (by omega)]
theorem zY1 {p:Prop} (h:p:=by
 intro x hx
 simp only[scal,List.mem_cons,List.mem_nil_iff,or_false] at hx
 rcases hx with rfl|rfl|rfl|rfl|rfl|rfl|rfl|rfl|rfl|rfl|rfl|rfl|rfl|rfl|rfl|rfl
 all_goals (simp only[];omega)
 ):p:=h
theorem opt_fin {ys:List UInt8} {fl d cp:Nat} {Ap:Option Addr} (h:GvSt w wr bp G p v F wl us ps cds sbs pr) (hz:Z88 F) (k:Keeps [] wr wz) (hr:Rd wz 1 Ap ys.length (bvs ys)) (ha:∀a,Ap=some a→w.heap.size≤a.block∧a.block≠G∧a.block<wz.heap.size) (hfd:(fl=45∧d=38∧us=[])∨(fl=44∧d=37∧ps=[])):
 ∃F4,Z88 F4∧GvSt w ((wz.setCell ⟨G,fl,none⟩ (.bool true)).setCell ⟨G,d,none⟩ (.slice Ap ys.length cp)) bp G p v F4 wl (if fl=45 then[ys] else us) (if fl=45 then ps else[ys]) cds sbs pr:=by
 have g:=h.keep k (by simp)
 have hb:=(g.bg.set_ fl (.bool true)).set_ d (.slice Ap ys.length cp)
 rw[arr_set,arr_set] at hb
 have k5:=(Keeps.setCell wz ⟨G,fl,none⟩ (.bool true)).trans (Keeps.setCell _ ⟨G,d,none⟩ (.slice Ap ys.length cp)) (by simp)
 have hk5:Keeps [G] wz ((wz.setCell ⟨G,fl,none⟩ (.bool true)).setCell ⟨G,d,none⟩ (.slice Ap ys.length cp)):=k5
 have e:∀j,j≠fl→j≠d→upd (upd F fl (.bool true)) d (.slice Ap ys.length cp) j=F j:=fun j h1 h2=>by unfold upd;rw[if_neg h2,if_neg h1]
 have hdn:DatNew w.heap.size G ((wz.setCell ⟨G,fl,none⟩ (.bool true)).setCell ⟨G,d,none⟩ (.slice Ap ys.length cp)) (.slice Ap ys.length cp) ys:=DatNew.keepG ⟨Ap,cp,rfl,hr,ha⟩ hk5
 have hlt:fl<49∧d<49∧36<fl∧36<d:=by omega
 refine⟨_,(hz.upd _ (by omega)).upd _ (by omega),g.mk2 hk5 hb ((g.sc.upd fl _ ?_).upd d _ ?_) (e 87 (by omega) (by omega)) (e 39 (by omega) (by omega)) (g.will.keepG hk5 (fun j h1 h2 h3 h4 h5 h6 h7 h8=>e j (by omega) (by omega))) ?_ ?_ (by rw[e 88 (by omega) (by omega)];exact g.codes.keepG hk5) (subsG g.subs hk5 (e 89 (by omega) (by omega))) ((g.props.keepG hk5).congr (fun j h1 h2=>e j (by omega) (by omega)))⟩
 ·exact zY1
 ·exact zY1
 ·rcases hfd with⟨rfl,rfl,_⟩|⟨rfl,rfl,_⟩
  ·rw[if_pos rfl];exact .inr ⟨ys,rfl,rfl,hdn⟩
  ·rw[if_neg (by omega)];exact g.user.keepG hk5 rfl rfl
 ·rcases hfd with⟨rfl,rfl,_⟩|⟨rfl,rfl,_⟩
  ·rw[if_pos rfl];exact g.pass.keepG hk5 rfl rfl
  ·rw[if_neg (by omega)];exact .inr ⟨ys,rfl,rfl,hdn⟩
end
theorem upd_self (f:Nat→Value) (i:Nat):upd f i (f i)=f:=by
 funext j
 unfold upd
 by_cases h:j=i
 ·rw[if_pos h,h]
 ·rw[if_neg h]
theorem upd2 (f:Nat→Value) (i:Nat) (v u:Value):upd (upd f i v) i u=upd f i u:=by
 funext j;unfold upd;by_cases h:j=i<;>simp[h]
theorem row_next {W1 wr wq wz:World} {G k i:Nat} {e:TypeId} {size:Nat} {A A2:Option Addr} {c1 c2:Nat} {xs ys:List Value} {F:Nat→Value} (ht:G<W1.heap.size) (hB:Blk wr G 86 (arr (upd F i (.slice A k c1)))) (hA:∀x,A.map (·.block)=some x→W1.heap.size≤x) (hkw:Keeps [G] W1 wr) (hkq:Keeps [] wr wq)
 (ho:wz.ownsRow 0 e size (.slice A2 (k+1) c2) (k+1) (xs++ys)) (hkz:Keeps (Value.slice A k c1).ownBlock.toList wq wz) (hd:A2.map (·.block)=(Value.slice A k c1).ownBlock∨A2.map (·.block)=some wq.heap.size):
 Blk (wz.setCell ⟨G,i,none⟩ (.slice A2 (k+1) c2)) G 86 (arr (upd F i (.slice A2 (k+1) c2)))∧(wz.setCell ⟨G,i,none⟩ (.slice A2 (k+1) c2)).ownsRow 0 e size (.slice A2 (k+1) c2) (k+1) (xs++ys)∧(∀x,A2.map (·.block)=some x→W1.heap.size≤x)∧Keeps [G] W1 (wz.setCell ⟨G,i,none⟩ (.slice A2 (k+1) c2)):=by
 rw[own_slice] at hkz hd
 have hsq:W1.heap.size≤wq.heap.size:=Nat.le_trans hkw.size hkq.size
 have hA2:∀x,A2.map (·.block)=some x→W1.heap.size≤x:=fun x hx=>by
  rcases hd with h|h
  ·exact hA x (by rw[←h];exact hx)
  ·rw[h] at hx;injection hx with hx;omega
 have hset:=Keeps.setCell wz ⟨G,i,none⟩ (.slice A2 (k+1) c2)
 have hb2:=((hB.keep hkq (by simp)).keep hkz (fun hm=>by have:=hA G (Option.mem_toList.1 hm);omega)).set_ i (.slice A2 (k+1) c2)
 rw[arr_set,upd2] at hb2
 exact⟨hb2,ownsRow_keep ho hset (fun x hx hm=>by rw[own_slice] at hx;have:=hA2 x hx;simp at hm;omega),hA2,((hkw.trans hkq (by simp)).trans hkz (fun x hx=>.inr (hA x (Option.mem_toList.1 hx)))).trans hset (by simp)⟩
def RwRel (W1:World) (G i:Nat) (F:Nat→Value) (e:TypeId) (size n:Nat) (row:Nat→List Value) (gk:Nat) (j:Value) (wr:World):Prop:=
 ∃(k:Nat) (A:Option Addr) (c:Nat),j=.int .i64 (k:Int)∧k≤n∧n<gk+k∧Blk wr G 86 (arr (upd F i (.slice A k c)))∧wr.ownsRow 0 e size (.slice A k c) k (row k)∧(∀x,A.map (·.block)=some x→W1.heap.size≤x)∧Keeps [G] W1 wr
section
variable {w wc wr:World} {bp G:Nat} {p:PkV} {v F:Nat→Value} {wl:List WillV} {us ps:List (List UInt8)} {cds:List Int} {sbs:List SubP} {pr:List PropV}
theorem codes_fin {A:Option Addr} {c:Nat} {cs:List Int} (h:GvSt w wc bp G p v F wl us ps [] sbs pr) (hF:F 89=.slice none 0 0) (hb:Blk wr G 86 (arr (upd F 88 (.slice A cs.length c)))) (ho:wr.ownsRow 0 5 1 (.slice A cs.length c) cs.length (bvs (codeB cs))) (hA:∀x,A.map (·.block)=some x→wc.heap.size≤x) (k:Keeps [G] wc wr):
 GvSt w wr bp G p v (upd F 88 (.slice A cs.length c)) wl us ps cs sbs pr∧upd F 88 (.slice A cs.length c) 89=.slice none 0 0:=by
 have hl:(codeB cs).length=cs.length:=by simp[codeB]
 have hlt:=h.lt
 have hlo:=h.lo
 have hg:=h.bg.lt
 refine⟨h.mk2 k hb (h.sc.upd 88 _ ?_) rfl rfl (h.will.keepG k (fun j h1 _ _ _ _ _ _ _=>by unfold upd;rw[if_neg (by omega)])) (h.user.keepG k rfl rfl) (h.pass.keepG k rfl rfl) ⟨A,c,by rw[hl];rfl,by rw[hl];exact own_rd ho,fun a ha=>?_⟩ (subsG h.subs k rfl) ((h.props.keepG k).congr (fun j h1 h2=>by unfold upd;rw[if_neg (by omega)])),hF⟩
 ·exact zY1
 ·have h1:=hA a.block (by rw[ha];rfl)
  exact⟨by have:=h.k.size;omega,by omega,own_lt ho a.block (by rw[ha];rfl)⟩
theorem subs_fin {A:Option Addr} {c:Nat} {ss:List SubP} (h:GvSt w wc bp G p v F wl us ps cds [] pr) (hb:Blk wr G 86 (arr (upd F 89 (.slice A ss.length c)))) (ho:wr.ownsRow 0 108 9 (.slice A ss.length c) ss.length (ss.flatMap fun s=>(toV 0 s).cells)) (hA:∀x,A.map (·.block)=some x→wc.heap.size≤x) (k:Keeps [G] wc wr):
 GvSt w wr bp G p v (upd F 89 (.slice A ss.length c)) wl us ps cds ss pr:=by
 have hg:=h.bg.lt
 refine h.mk2 k hb (h.sc.upd 89 _ ?_) rfl rfl (h.will.keepG k (fun j h1 _ _ _ _ _ _ _=>by unfold upd;rw[if_neg (by omega)])) (h.user.keepG k rfl rfl) (h.pass.keepG k rfl rfl) (h.codes.keepG k) ⟨A,c,rfl,own_rd ho,fun a ha=>?_⟩ ((h.props.keepG k).congr (fun j h1 h2=>by unfold upd;rw[if_neg (by omega)]))
 ·exact zY1
 ·have h1:=hA a.block (by rw[ha];rfl)
  exact⟨by omega,own_lt ho a.block (by rw[ha];rfl)⟩
theorem props_fin {B:Nat} {b:Nat→Option Nat} {cs:Array Value} {l:List PropV} (h:GvSt w wc bp G p v F wl us ps cds sbs []) (hp:PSt B wc b l cs) (hB:G≤B):
 ∃F4,GvSt w (wc.setCells G 50 cs.toList) bp G p v F4 wl us ps cds sbs l:=by
 have hcz:cs.size=37:=hp.sz
 obtain⟨cs',b1,b2,b3,b4,b5⟩:=blk_setCells (w:=wc) (g:=G) (t:=86) cs.toList _ 50 _ h.bg (by rw[arr_size,Array.length_toList];omega)
 obtain⟨F4,rfl,hF4⟩:=arr_of cs' (by rw[b2,arr_size])
 have e:∀j,(j<50∨87≤j)→j<108→F4 j=F j:=fun j h1 h2=>by
  have:=b4 j (by rw[Array.length_toList];omega)
  rw[arr_get _ _ h2,arr_get _ _ h2] at this
  exact Option.some.inj this
 have e0:∀j,j<37→cs[j]?=some (F4 (50+j)):=fun j hj=>by
  exact zY3
 refine⟨F4,h.mk2 b3 b1 ?_ (e 87 (by omega) (by omega)) (e 39 (by omega) (by omega)) (h.will.keepG b3 (fun j h1 _ _ _ _ _ _ _=>e j (by omega) (by omega))) (h.user.keepG b3 (e 45 (by omega) (by omega)) (e 38 (by omega) (by omega))) (h.pass.keepG b3 (e 44 (by omega) (by omega)) (e 37 (by omega) (by omega))) (by rw[e 88 (by omega) (by omega)];exact h.codes.keepG b3) (subsG h.subs b3 (e 89 (by omega) (by omega))) ⟨B,b,hB,?_⟩⟩
 ·intro x hx
  have hx2:=hx
  simp only[scal,List.mem_cons,List.mem_nil_iff,or_false] at hx
  rcases hx with rfl|rfl|rfl|rfl|rfl|rfl|rfl|rfl|rfl|rfl|rfl|rfl|rfl|rfl|rfl|rfl
  all_goals exact(e _ (by simp) (by simp)).trans (h.sc _ hx2)
 ·rw[slc_cs hcz e0]
  exact hp.keep2 b3 (fun x hx=>.inl (by simp at hx;omega))
end
def G0 (p:PkV) (w4:World) (s4:Value) (wc:World):Prop:=∃G A1 c1 A2 c2,s4=.pointer (some ⟨G,0,none⟩)∧Blk wc G 86 (pk0 p A1 c1 A2 c2)∧w4.heap.size≤G∧Rd wc 1 A1 p.payload.length (bvs p.payload)∧Rd wc 1 A2 p.name.size (bvs p.name.data.toList)∧Keeps [] w4 wc∧
 (∀a,A1=some a→w4.heap.size≤a.block∧a.block<G)∧(∀a,A2=some a→w4.heap.size≤a.block∧a.block<G)
theorem g0_of {p:PkV} {w4 W:World} {A1 A2:Option Addr} {c1 c2:Nat} {cs:Array Value} (k:Keeps [] w4 W) (h1:Rd W 1 A1 p.payload.length (bvs p.payload)) (h2:Rd W 1 A2 p.name.size (bvs p.name.data.toList))
 (n1:∀a,A1=some a→w4.heap.size≤a.block∧a.block<W.heap.size) (n2:∀a,A2=some a→w4.heap.size≤a.block∧a.block<W.heap.size) (hcs:cs=pk0 p A1 c1 A2 c2):G0 p w4 (.pointer (some ⟨W.heap.size,0,none⟩)) (W.alloc (.cells cs 86)):=by
 subst hcs
 exact⟨W.heap.size,A1,c1,A2,c2,rfl,Blk.new _ _ _,k.size,h1.keep (Keeps.alloc _ _) (by simp),h2.keep (Keeps.alloc _ _) (by simp),k.trans (Keeps.alloc _ _) (by simp),n1,n2⟩
theorem zero37_F (G:Nat) (w:World) (p:PkV) (A1 A2:Option Addr) (c1 c2:Nat) (F:Nat→Value) (hF:∀j,j<108→(pk0 p A1 c1 A2 c2)[j]?=some (F j)):PStF G w F 0 []∧PStF G w F 50 []:=by
 have h:(∀j,j<37→(pk0 p A1 c1 A2 c2)[j]?=zero37[j]?)∧∀j,j<37→(pk0 p A1 c1 A2 c2)[50+j]?=zero37[j]?:=by
  refine⟨fun j hj=>?_,fun j hj=>?_⟩
  all_goals
   obtain rfl|rfl|rfl|rfl|rfl|rfl|rfl|rfl|rfl|rfl|rfl|rfl|rfl|rfl|rfl|rfl|rfl|rfl|rfl|rfl|rfl|rfl|rfl|rfl|rfl|rfl|rfl|rfl|rfl|rfl|rfl|rfl|rfl|rfl|rfl|rfl|rfl:j=0∨j=1∨j=2∨j=3∨j=4∨j=5∨j=6∨j=7∨j=8∨j=9∨j=10∨j=11∨j=12∨j=13∨j=14∨j=15∨j=16∨j=17∨j=18∨j=19∨j=20∨j=21∨j=22∨j=23∨j=24∨j=25∨j=26∨j=27∨j=28∨j=29∨j=30∨j=31∨j=32∨j=33∨j=34∨j=35∨j=36:=by omega
   all_goals rfl
 have hz:zero37.size=37:=rfl
 have e:∀o,(o=0∨o=50)→(slc F o 37).toArray=zero37:=fun o ho=>by
  apply Array.ext_getElem?
  intro j
  rcases Nat.lt_or_ge j 37 with hj|hj
  ·rw[List.getElem?_toArray,slc_get F o 37 j hj,←hF _ (by omega)]
   rcases ho with rfl|rfl
   ·rw[Nat.zero_add];exact h.1 j hj
   ·exact h.2 j hj
  ·exact zY4
 exact⟨⟨G,fun _=>none,Nat.le_refl _,by rw[e 0 (.inl rfl)];exact zero37_st _ _⟩,⟨G,fun _=>none,Nat.le_refl _,by rw[e 50 (.inr rfl)];exact zero37_st _ _⟩⟩
theorem gv_of {w w4 wc:World} {bp:Nat} {p:PkV} {v:Nat→Value} {s4:Value} (h:G0 p w4 s4 wc) (hk:Keeps [] w w4) (hb:Blk w4 bp 29 (p.cells v)) (hlo:w.heap.size≤bp):∃G F,s4=.pointer (some ⟨G,0,none⟩)∧F 103=.int .u8 p.version∧F 88=.slice none 0 0∧F 89=.slice none 0 0∧GvSt w wc bp G p v F [] [] [] [] [] []:=by
 obtain⟨G,A1,c1,A2,c2,rfl,hG,hlt,h1,h2,hkc,n1,n2⟩:=h
 have hsz:(pk0 p A1 c1 A2 c2).size=108:=rfl
 obtain⟨F,e,hF⟩:=arr_of _ hsz
 have hbl:=hb.lt
 have hz:=hk.size
 have f:∀j u,j<108→(pk0 p A1 c1 A2 c2)[j]?=some u→F j=u:=fun j u hj hu=>by rw[hF j hj] at hu;exact Option.some.inj hu
 have hzz:=zero37_F G wc p A1 A2 c1 c2 F hF
 refine⟨G,F,rfl,f 103 _ (by omega) rfl,f 88 _ (by omega) rfl,f 89 _ (by omega) rfl,hb.keep hkc (by simp),by rw[←e];exact hG,by omega,hlo,?_,⟨A1,c1,f 87 _ (by omega) rfl,h1,fun a ha=>?_⟩,⟨A2,c2,?_,?_,fun a ha=>?_⟩,?_,.inl ⟨rfl,f 45 _ (by omega) rfl,f 38 _ (by omega) rfl⟩,.inl ⟨rfl,f 44 _ (by omega) rfl,f 37 _ (by omega) rfl⟩,?_,?_,hzz.2,hk.trans hkc (by simp)⟩
 ·intro x hx
  simp only[scal,List.mem_cons,List.mem_nil_iff,or_false] at hx
  rcases hx with rfl|rfl|rfl|rfl|rfl|rfl|rfl|rfl|rfl|rfl|rfl|rfl|rfl|rfl|rfl|rfl
  all_goals exact f _ _ (by simp) rfl
 ·have:=n1 a ha;have:=hG.lt;exact⟨by omega,by omega,by omega⟩
 ·rw[tl_len];exact f 39 _ (by omega) rfl
 ·rw[tl_len];exact h2
 ·have:=n2 a ha;have:=hG.lt;exact⟨by omega,by omega,by omega⟩
 ·exact .inl ⟨rfl,f 47 _ (by omega) rfl,f 46 _ (by omega) rfl,f 48 _ (by omega) rfl,f 42 _ (by omega) rfl,f 40 _ (by omega) rfl,hzz.1⟩
 ·rw[f 88 (.slice none 0 0) (by omega) rfl];exact DatNew.nil _ _ _
 ·exact⟨none,0,f 89 _ (by omega) rfl,Rd.none_ _ _,by simp⟩
def GvOut (w:World) (p:PkV) (e:Ending) (w':World):Prop:=∃bp G v F,e=.returned (.tuple #[.pointer (some ⟨G,0,none⟩),.bool true])∧GvSt w w' bp G p v F p.will p.user p.pass p.codes p.subs p.props
theorem zY0 {p:Prop} (h:p:=by
 refine tkc fun K hK=>?_
 refine wp_append_rd ws (.tmp 237) (.tmp 251) 80 rfl 108 i0 _ 9 64 underlying80 HI0.o HZ0.o HZ1.o HZ2.o rfl (by decide) (.slice A1 k c1) k _ rfl (ownsRow_keep HO.o HKs.o (by simp)) (some ⟨nn,0,none⟩) 1 1 _ rfl HRN.o (by intro x hx;simp[SubV.cells] at hx;rcases hx with rfl|rfl|rfl|rfl|rfl|rfl|rfl|rfl|rfl<;>rfl) (by omega) (by unfold maxLen;omega) (fun A2 c2 wz ho2 hkz hd2=>?_)
 have hnbo:nb∉(Value.slice A1 k c1).ownBlock.toList:=fun hm=>by rw[own_slice] at hm;have:=own_lt HO.o nb (Option.mem_toList.1 hm);omega
 have hGo:G∉(Value.slice A1 k c1).ownBlock.toList:=fun hm=>by rw[own_slice] at hm;have:=HA1.o G (Option.mem_toList.1 hm);have:=HGB.o;omega
 have hbz:=hbs.keep hkz hnbo
 have hgz:=HBs.o.keep hkz hGo
 clear hHeld
 refine hK.out _ _ (hS _ hbz) (fun hHeld=>?_)
 clear hK K
 simp only[setN,Act.put,s1,s2,s3]
 repeat((first|refine tkx ?_|refine tku ?_);simp only[setN,Act.put,s1,s2,s3])
 refine tkc fun K hK=>?_
 refine wp_one (gg:=G) (off:=89) (v:=.slice A2 (k+1) c2) hgz (by rw[arr_size];omega) 80 (.tmp 254) (.tmp 252) rfl rfl rfl (by kernel_rfl) rfl ?_
 refine hK.out _ _ (hS _ (hbz.far (p:=⟨G,89,none⟩) (by have:=HSB.o;simp;omega) _)) (fun hHeld=>?_)
 clear hK K
 simp only[setN,Act.put,s1,s2,s3]
 refine tkDone (by kernel_rfl) ?_
 have HNN:=hH (row_next (i:=89) (F:=FC) HGB.o.1 HBk.o HA1.o HKW.o HKs.o ho2 hkz hd2)
 generalize wz.setCell ⟨G,89,none⟩ (.slice A2 (k+1) c2)=wy at*
 clear hHeld hbz hgz ho2 hkz hd2 hbs hnbo hGo hcs hS hcw hb0
 go_wp2_with fail
 go_roundg g'
 case measure=>omega
 case rel=>exact⟨k+1,A2,c2,by go_num,hlt,by omega,HNN.o.1,by have h:=HNN.o.2.1;show World.ownsRow _ 0 108 9 _ (k+1) ((p.subs.take (k+1)).flatMap fun s=>(toV 0 s).cells);rw[List.take_add_one,HU.o,List.flatMap_append];simpa using h,HNN.o.2.2.1,HNN.o.2.2.2⟩
 ):p:=h
theorem zY2 {p:Prop} (h:p:=by
 have HFIN:=hH hfin
 clear hfin hg9 hk9 hpr hpb x0 CLU
 go_wp2_with fail
 obtain⟨F4,hz4,hg4⟩:=HFIN.o
 go_roundg g'
 case measure=>omega
 case rel=>exact⟨k+1,F4,by go_num,hlt,by omega,hz4,by rw[HW1.o.2];exact hg4⟩
 ):p:=h
theorem given_c (N:Nat→Prop) (w:World) (p:PkV) (v:Nat→Value) (hm:PkMem N w p v) (hn:PkNums p):Calls prog 24 #[.agg (p.cells v)] w (GvOut w p):=by
 have h255:inside 255 [p.kind,p.version,p.qos,p.level,p.code]=true:=by
  simp[inside,hn.kind,hn.version,hn.qos,hn.level,hn.code]
 have h65:inside 65535 [p.id,p.keep]=true:=by simp[inside,hn.id,hn.keep]
 have hco:inside 255 p.codes=true:=by simp only[inside,List.all_eq_true,decide_eq_true_eq];exact hn.codes.1
 have hcl:=hn.codes.2
 have HM:=hH hm
 have HN:=hH hn
 obtain⟨A18,c18,e18,r18,n18,d18⟩:=hm.m18
 obtain⟨A7,c7,e7,r7,n7,d7⟩:=hm.m7
 obtain⟨W1,hW1⟩:∃W,w.alloc (.cells (p.cells v) 29)=W:=⟨_,rfl⟩
 have HBOX:Hd (Blk W1 w.heap.size 29 (p.cells v)):=by rw[←hW1];exact Blk.new _ _ _
 have HK1:Hd (Keeps [] w W1):=by rw[←hW1];exact Keeps.alloc _ _
 have hbc:∀(w':World) (_:Keeps [] W1 w') (j:Nat) (u:Value),(p.cells v)[j]?=some u→w'.cell? ⟨w.heap.size,j,none⟩=some u:=fun w' k j u h=>by rw[(HBOX.o.keep k (by simp)).cell,h]
 have HBC:=hH hbc
 have R18:=hH r18
 have R7:=hH r7
 have E7:=hH e7
 have E18:=hH e18
 have HW1:=hH hW1
 have hr1:=rd_new W1 3 #[.int .i64 p.kind,.int .i64 p.version,.int .i64 p.qos,.int .i64 p.level,.int .i64 p.code] 1 5 rfl
 have HRD1:=hH hr1
 have x0:=HBC.o W1 (Keeps.refl _ _) 0 (.int .i64 p.kind) rfl
 have x1:=HBC.o W1 (Keeps.refl _ _) 1 (.int .i64 p.version) rfl
 have x4:=HBC.o W1 (Keeps.refl _ _) 4 (.int .i64 p.qos) rfl
 have x9:=HBC.o W1 (Keeps.refl _ _) 9 (.int .i64 p.level) rfl
 have x17:=HBC.o W1 (Keeps.refl _ _) 17 (.int .i64 p.code) rfl
 clear hm hn r18 d18 r7 d7 hbc hW1 e7 e18 hr1
 go_enter func24,ntmps24
 go_upto_region 1 with fail
 rw[HW1.o]
 clear HW1
 go_wp2_with fail
 go_fit (within_c _ 255 _ 5 [p.kind,p.version,p.qos,p.level,p.code] HRD1.o (by simp))
 rintro e w2 ⟨rfl,hk2⟩
 rw[h255]
 have HK2:=hH ((Keeps.alloc W1 _).trans hk2 (by simp))
 clear hk2 x0 x1 x4 x9 x17
 have y5:=HBC.o w2 HK2.o 5 (.int .i64 p.id) rfl
 have y12:=HBC.o w2 HK2.o 12 (.int .i64 p.keep) rfl
 have HRD2:=hH (rd_new w2 3 #[.int .i64 p.id,.int .i64 p.keep] 1 2 rfl)
 go_wp2_with fail
 go_fit (within_c _ 65535 _ 2 [p.id,p.keep] HRD2.o (by simp))
 rintro e w3 ⟨rfl,hk3⟩
 rw[h65]
 have HK3:=hH (HK2.o.trans ((Keeps.alloc w2 _).trans hk3 (by simp)) (by simp))
 clear hk3 y5 y12
 have z18:=HBC.o w3 HK3.o 18 (.slice A18 p.codes.length c18) (by rw[←E18.o];rfl)
 go_wp2_with fail
 go_fit (within_c _ 255 A18 c18 p.codes (R18.o.keep (HK1.o.trans HK3.o (by simp)) (by simp)) (by omega))
 rintro e w4 ⟨rfl,hk4⟩
 rw[hco]
 have HK4:=hH (HK3.o.trans hk4 (by simp))
 clear hk4 z18
 have hS:∀w',Keeps [] w4 w'→w'.cell? ⟨w.heap.size,0,none⟩=some (.int .i64 p.kind)∧w'.cell? ⟨w.heap.size,1,none⟩=some (.int .i64 p.version)∧w'.cell? ⟨w.heap.size,2,none⟩=some (.bool p.dup)∧w'.cell? ⟨w.heap.size,3,none⟩=some (.bool p.retain)∧w'.cell? ⟨w.heap.size,4,none⟩=some (.int .i64 p.qos)∧w'.cell? ⟨w.heap.size,5,none⟩=some (.int .i64 p.id)∧w'.cell? ⟨w.heap.size,6,none⟩=some (.string p.topic)∧w'.cell? ⟨w.heap.size,7,none⟩=some (.slice A7 p.payload.length c7)∧w'.cell? ⟨w.heap.size,8,none⟩=some (.string p.name)∧w'.cell? ⟨w.heap.size,10,none⟩=some (.string p.client)∧w'.cell? ⟨w.heap.size,11,none⟩=some (.bool p.clean)∧w'.cell? ⟨w.heap.size,12,none⟩=some (.int .i64 p.keep)∧w'.cell? ⟨w.heap.size,16,none⟩=some (.bool p.present)∧w'.cell? ⟨w.heap.size,17,none⟩=some (.int .i64 p.code)∧Keeps [] w4 w':=fun w' k=>by
  have hk:=HK4.o.trans k (by simp)
  exact⟨HBC.o w' hk 0 _ rfl,HBC.o w' hk 1 _ rfl,HBC.o w' hk 2 _ rfl,HBC.o w' hk 3 _ rfl,HBC.o w' hk 4 _ rfl,HBC.o w' hk 5 _ rfl,HBC.o w' hk 6 _ rfl,HBC.o w' hk 7 _ (by rw[←E7.o];rfl),HBC.o w' hk 8 _ rfl,HBC.o w' hk 10 _ rfl,HBC.o w' hk 11 _ rfl,HBC.o w' hk 12 _ rfl,HBC.o w' hk 16 _ rfl,HBC.o w' hk 17 _ rfl,k⟩
 have HSS:=hH hS
 have hCL:∀w',Keeps [] w4 w'→Calls prog 28 #[.slice A7 p.payload.length c7] w' (NewBytes w' p.payload):=fun w' k=>clone_c w' A7 c7 p.payload (R7.o.keep (HK1.o.trans (HK4.o.trans k (by simp)) (by simp)) (by simp)) (by have:=HN.o.payl;omega)
 have CL:=hH hCL
 clear hS hCL
 have hcv:=fun w=>Lib.run_convert_string_bytes (P:=prog) w 9 22 5 p.name underlying9 underlying22 underlying5
 have hw_kind:IntKind.u8.wrap p.kind=p.kind:=IntWalk.u8_in _ (by have:=HN.o.kind;omega)
 have hw_version:IntKind.u8.wrap p.version=p.version:=IntWalk.u8_in _ (by have:=HN.o.version;omega)
 have hw_qos:IntKind.u8.wrap p.qos=p.qos:=IntWalk.u8_in _ (by have:=HN.o.qos;omega)
 have hw_code:IntKind.u8.wrap p.code=p.code:=IntWalk.u8_in _ (by have:=HN.o.code;omega)
 have hw_level:IntKind.u8.wrap p.level=p.level:=IntWalk.u8_in _ (by have:=HN.o.level;omega)
 have hw_id:IntKind.u16.wrap p.id=p.id:=IntWalk.u16_in _ (by have:=HN.o.id;omega)
 have hw_keep:IntKind.u16.wrap p.keep=p.keep:=IntWalk.u16_in _ (by have:=HN.o.keep;omega)
 go_upto_region 3 with(fail)
 try simp only[Act.put]
 go_cut [4] from 48 to 88 (fun s4 wc=>G0 p w4 s4 wc)
 case first=>
  refine tkSt HSS.o (Keeps.drew w4) (by kernel_rfl) fun hHeld=>?_
  simp only[s4,s5,Nat.reduceAdd,s6,s7]
  repeat((first|refine tkx ?_|refine tku ?_);simp only[setN,Act.put,s1,s2,s3])
  refine tki 22 70 ?_
  simp only[setN,Act.put,s1,s2,s3]
  refine tki 23 71 ?_
  simp only[setN,Act.put,s1,s2,s3]
  refine tki 25 73 ?_
  simp only[setN,Act.put,s1,s2,s3]
  refine tki 26 74 ?_
  simp only[setN,Act.put,s1,s2,s3]
  refine tki 27 75 ?_
  simp only[setN,Act.put,s1,s2,s3]
  refine tki 28 76 ?_
  simp only[setN,Act.put,s1,s2,s3]
  refine tki 29 77 ?_
  simp only[setN,Act.put,s1,s2,s3]
  refine tki 30 78 ?_
  simp only[setN,Act.put,s1,s2,s3]
  refine tki 31 79 ?_
  simp only[setN,Act.put,s1,s2,s3]
  refine tki 33 81 ?_
  simp only[setN,Act.put,s1,s2,s3]
  refine tki 34 82 ?_
  simp only[setN,Act.put,s1,s2,s3]
  refine tki 35 83 ?_
  simp only[setN,Act.put,s1,s2,s3]
  refine tki 36 84 ?_
  simp only[setN,Act.put,s1,s2,s3]
  refine tki 37 85 ?_
  simp only[setN,Act.put,s1,s2,s3]
  refine tki 38 86 ?_
  simp only[setN,Act.put,s1,s2,s3]
  skip
  refine wpAnyH_ready (rs:=[21,24]) (by kernel_rfl) (by simp) ?_
  refine AllReadyH.cons (o:=⟨some 69,_,_,_,_,_⟩) rfl (fun K hK=>?_) (AllReadyH.cons (o:=⟨some 72,_,_,_,_,_⟩) rfl (fun K hK=>?_) AllReadyH.nil)
  ·rw[if_pos (by rfl)]
   go_simp
   refine(CL.o _ (Keeps.drew w4)).mono ?_
   rintro e w5 ⟨A1,c1,rfl,hpr,hk5,hpb⟩
   have hkA:=(Keeps.drew w4).trans hk5 (by simp)
   have hz5:=hk5.size
   clear hHeld
   refine hK.out _ _ (HSS.o _ hkA) (fun hHeld=>?_)
   clear hK K
   simp only[setN,Act.put,s1,s2,s3]
   refine tkc fun K hK=>?_
   go_simp
   skip
   have hkB:=hkA.trans (keeps_bytesWorld w5 5 p.name) (by simp)
   have hr2:=rd_bytesWorld w5 p.name
   have hr1:=hpr.keep (keeps_bytesWorld w5 5 p.name) (by simp)
   have HZB:=hH (Lib.bytesWorld_size w5 5 p.name)
   clear hHeld
   refine hK.out _ _ (HSS.o _ hkB) (fun hHeld=>?_)
   clear hK K
   simp only[setN,Act.put,s1,s2,s3]
   repeat((first|refine tkx ?_|refine tku ?_);simp only[setN,Act.put,s1,s2,s3])
   refine tkc fun K hK=>?_
   go_simp
   clear hHeld
   refine hK.out _ _ (HSS.o _ (Keeps.trans hkB (Keeps.alloc _ _) (by simp))) (fun hHeld=>?_)
   clear hK K
   simp only[setN,Act.put,s1,s2,s3]
   repeat((first|refine tkx ?_|refine tku ?_);simp only[setN,Act.put,s1,s2,s3])
   refine tkDone (by kernel_rfl) ?_
   go_wp2_with fail
   go_meet
   case rel=>exact g0_of (c1:=c1) (c2:=grownCap w5 p.name.size 0 5) hkB hr1 hr2 (fun a ha=>by have h1:=hpb a ha;have hzb:=HZB.o;simp at h1;omega) (fun a ha=>by injection ha with ha;subst ha;have hzb:=HZB.o;simp;simp at hz5;omega) (pk0_eq p _ _ _ _)
  ·rw[if_pos (by rfl)]
   go_simp
   skip
   have hkA:=(Keeps.drew w4).trans (keeps_bytesWorld w4.drew 5 p.name) (by simp)
   have hr2:=rd_bytesWorld w4.drew p.name
   have hzb:=Lib.bytesWorld_size w4.drew 5 p.name
   clear hHeld
   refine hK.out _ _ (HSS.o _ hkA) (fun hHeld=>?_)
   clear hK K
   simp only[setN,Act.put,s1,s2,s3]
   refine tki 32 80 ?_
   simp only[setN,Act.put,s1,s2,s3]
   refine tkc fun K hK=>?_
   go_simp
   refine(CL.o _ hkA).mono ?_
   rintro e w5 ⟨A1,c1,rfl,hpr,hk5,hpb⟩
   have hkB:=hkA.trans hk5 (by simp)
   have hr2:=hr2.keep hk5 (by simp)
   have hz5:=hk5.size
   clear hHeld
   refine hK.out _ _ (HSS.o _ hkB) (fun hHeld=>?_)
   clear hK K
   simp only[setN,Act.put,s1,s2,s3]
   repeat((first|refine tkx ?_|refine tku ?_);simp only[setN,Act.put,s1,s2,s3])
   refine tkc fun K hK=>?_
   go_simp
   clear hHeld
   refine hK.out _ _ (HSS.o _ (Keeps.trans hkB (Keeps.alloc _ _) (by simp))) (fun hHeld=>?_)
   clear hK K
   simp only[setN,Act.put,s1,s2,s3]
   repeat((first|refine tkx ?_|refine tku ?_);simp only[setN,Act.put,s1,s2,s3])
   refine tkDone (by kernel_rfl) ?_
   go_wp2_with fail
   go_meet
   case rel=>exact g0_of (c1:=c1) (c2:=grownCap w4.drew p.name.size 0 5) hkB hpr hr2 (fun a ha=>by have h1:=hpb a ha;simp at h1 hzb;omega) (fun a ha=>by injection ha with ha;subst ha;simp at hzb ⊢;omega) (pk0_eq p _ _ _ _)
 case rest=>
 obtain⟨G,F,rfl,z103,z88,z89,hgv⟩:=gv_of hcut (HK1.o.trans HK4.o (by simp)) (HBOX.o.keep HK4.o (by simp)) (Nat.le_refl _)
 have HGV:=hH hgv
 have HZ:Hd (Z88 F):=⟨z88,z89⟩
 clear hcut hgv z88 z89 z103 HSS CL hcv
 have b0:=HGV.o.bx 0 (.int .i64 p.kind) rfl
 go_upto_if 91 with(fail)
 go_cut [] from 91 to 97 (fun wd=>∃F,Z88 F∧GvSt w wd w.heap.size G p v F [] [] [] [] [] [])
 case first=>
  by_cases hk1:p.kind=1
  ·have hb1:(p.kind==1)=true:=by rw[beq_iff_eq];exact hk1
   have hlv:=HN.o.lv hk1
   have b9:=HGV.o.bx 9 (.int .i64 p.level) rfl
   have c103:=HGV.o.cell 103 (by omega)
   have f103:=HGV.o.frozen 103
   have HLV:=hH hlv
   clear hk1 hlv
   go_wp2_with fail
   go_meet
   case rel=>
    have k:=Keeps.setCell wc ⟨G,103,none⟩ (.int .u8 p.level)
    have g:=HGV.o
    refine⟨upd F 103 (.int .u8 p.level),HZ.o.upd (i:=103) (.int .u8 p.level) (by omega),g.mk2 k (by rw[←arr_set];exact g.bg.set_ 103 _) ?_ rfl rfl (g.will.keepG k (fun j hj _ _ _ _ _ _ _=>by unfold upd;rw[if_neg (by omega)])) (g.user.keepG k rfl rfl) (g.pass.keepG k rfl rfl) (g.codes.keepG k) (subsG g.subs k rfl) ((g.props.keepG k).congr (fun j _ hj=>by unfold upd;rw[if_neg (by omega)]))⟩
    intro x hx
    unfold upd
    by_cases e:x.1=103
    ·rw[if_pos e]
     simp only[scal,List.mem_cons,List.mem_nil_iff,or_false] at hx
     rcases hx with rfl|rfl|rfl|rfl|rfl|rfl|rfl|rfl|rfl|rfl|rfl|rfl|rfl|rfl|rfl|rfl
     all_goals first|(simp at e;done)|(rw[HLV.o])
    ·rw[if_neg e];exact g.sc x hx
  ·have hb1:(p.kind==1)=false:=by rw[beq_eq_false_iff_ne];exact hk1
   clear hk1
   go_wp2_with fail
   go_meet
   case rel=>exact⟨F,HZ.o,HGV.o⟩
 case rest=>
 obtain⟨F1,hz1,hg1⟩:=hcut
 have HZ1:=hH hz1
 have HG1:=hH hg1
 clear hz1 hg1 HGV HZ b0
 obtain⟨xw,⟨Aw,cw,ew,rw_,nw,dw⟩,mw⟩:=HM.o.m13
 have hwl:=HN.o.wills.1
 have b13:=HG1.o.bx 13 (.slice Aw p.will.length cw) (by rw[←ew];rfl)
 have hm1:min (p.will.length:Int) 1=(p.will.length:Int):=by omega
 have hm2:max (p.will.length:Int) 0=(p.will.length:Int):=by omega
 have RW:=hH rw_
 have MW:=hH mw
 clear rw_ mw dw ew
 go_wp2_with fail
 go_loopg [109] (p.will.length+1) (fun gk i wr=>∃(k:Nat) (F:Nat→Value),i=.int .i64 (k:Int)∧k≤p.will.length∧p.will.length<gk+k∧Z88 F∧GvSt w wr w.heap.size G p v F (p.will.take k) [] [] [] [] [])
 case atStart=>exact⟨0,F1,rfl,by omega,by omega,HZ1.o,by rw[List.take_zero];exact HG1.o⟩
 case round=>
  obtain⟨k,F2,rfl,hk,hgk,hz2,hg2⟩:=hrel
  have HZ2:=hH hz2
  have HG2:=hH hg2
  clear hz2 hg2 HG1 HZ1 b13
  by_cases hlt:k<p.will.length
  ·obtain⟨g',rfl⟩:∃g',gk=g'+1:=⟨gk-1,by omega⟩
   have hltz:(k:Int)<(p.will.length:Int):=by omega
   obtain⟨u,hu⟩:∃u,p.will[k]?=some u:=⟨_,List.getElem?_eq_getElem hlt⟩
   have hk0:k=0:=by omega
   have hum:=List.mem_of_getElem? hu
   obtain⟨⟨hq0,hq1⟩,hyl,kw,hkw⟩:=HN.o.wills.2 u hum
   have hw1:p.will.take k=[]∧p.will.take (k+1)=[u]:=by
    subst hk0
    refine⟨List.take_zero,?_⟩
    rw[List.take_of_length_le (by omega)]
    rcases e:p.will with _|⟨y,_|_⟩
    ·rw[e] at hlt;simp at hlt
    ·rw[e] at hu;simp at hu;rw[hu]
    ·rw[e] at hwl;simp at hwl
   have HW1:=hH hw1
   rw[hw1.1] at HG2
   obtain⟨f0,⟨y1,f1,B1,k1,rfl,r1,n1,h1⟩,f2,f3,y4,f4,B4,k4,rfl,r4,n4,h4⟩:=MW.o k u hu
   obtain⟨b0,o0,rfl,hcl⟩:=RW.o.2 (by omega)
   have x0:wr.cell? ⟨b0,o0+k*5,none⟩=some (.string u.topic):=HG2.o.k.some_ (hcl _ _ f0) (by simp)
   have x1:wr.cell? ⟨b0,o0+k*5+1,none⟩=some (.slice B1 u.payload.length k1):=HG2.o.k.some_ (by rw[Nat.add_assoc];exact hcl _ _ f1) (by simp)
   have x2:wr.cell? ⟨b0,o0+k*5+2,none⟩=some (.int .i64 u.qos):=HG2.o.k.some_ (by rw[Nat.add_assoc];exact hcl _ _ f2) (by simp)
   have x3:wr.cell? ⟨b0,o0+k*5+3,none⟩=some (.bool u.retain):=HG2.o.k.some_ (by rw[Nat.add_assoc];exact hcl _ _ f3) (by simp)
   have x4:wr.cell? ⟨b0,o0+k*5+4,none⟩=some (.slice B4 u.props.length k4):=HG2.o.k.some_ (by rw[Nat.add_assoc];exact hcl _ _ f4) (by simp)
   have R1:=hH r1
   have R4:=hH r4
   have h4b:Hd (0<u.props.length→∀a,B4=some a→a.block<w.heap.size):=fun h0 a ha=>(h4 a ha h0).1
   have HKW:=hH hkw
   have hq8:IntKind.u8.wrap u.qos=u.qos:=IntWalk.u8_in _ (by omega)
   clear hcl f0 f1 f2 f3 f4 r1 h1 r4 h4 hu hum hw1 hk0 hkw
   go_upto_region 10 with fail
   try simp only[Act.put]
   have HNB:=hH (Blk.new wr 51 #[.string u.topic,.slice B1 u.payload.length k1,.int .i64 u.qos,.bool u.retain,.slice B4 u.props.length k4])
   have HKV:=hH (Keeps.alloc wr (.cells #[.string u.topic,.slice B1 u.payload.length k1,.int .i64 u.qos,.bool u.retain,.slice B4 u.props.length k4] 51))
   generalize wr.alloc (.cells #[.string u.topic,.slice B1 u.payload.length k1,.int .i64 u.qos,.bool u.retain,.slice B4 u.props.length k4] 51)=W5 at*
   generalize hnb:wr.heap.size=nb at*
   clear x0 x1 x2 x3 x4
   have hbn:∀(w':World) (_:Keeps [] W5 w') (j:Nat) (t:Value),(#[.string u.topic,.slice B1 u.payload.length k1,.int .i64 u.qos,.bool u.retain,.slice B4 u.props.length k4]:Array Value)[j]?=some t→w'.cell? ⟨nb,j,none⟩=some t:=fun w' k j t h=>by rw[(HNB.o.keep k (by simp)).cell,h]
   have HBN:=hH hbn
   have y4:=hbn W5 (Keeps.refl _ _) 4 _ rfl
   clear hbn
   have PRC:=hH (properties_c W5 B4 k4 u.props (R4.o.keep (HG2.o.k.trans HKV.o (by simp)) (by simp)) (fun h0 a ha=>Nat.lt_of_lt_of_le (h4b.o h0 a ha) (HG2.o.k.trans HKV.o (by simp)).size) HKW.o.len (proper_known HKW.o))
   go_wp2_with fail
   go_fit (PRC.o)
   rintro e w6 ⟨cs,b,rfl,hps,hk6⟩
   have hcz:=hps.sz
   have hi76c:(prog.info? 76).map (·.size)=some cs.size:=by rw[hcz];kernel_rfl
   have hc1:cs.all (·.oneCell')=true:=pst_one hps
   have HPS:=hH hps
   have HK6:=hH hk6
   have HI76:=hH hi76c
   have HC1:=hH hc1
   have HCZ:=hH hcz
   clear hps hk6 hi76c hc1 hcz y4
   skip
   go_upto_region 11 with(refine wpList_store_row rfl 76 (.tmp 8) (.tmp 117) rfl w6.heap.size cs rfl rfl 76 zero37 (Blk.new w6 76 zero37) HI76.o HCZ.o.symm HC1.o ?_)
   try simp only[Act.put]
   have hk67:Keeps [] w6 ((w6.alloc (.cells #[.slice none 0 0,.slice none 0 0,.slice none 0 0,.slice none 0 0,.string ⟨#[]⟩,.string ⟨#[]⟩,.string ⟨#[]⟩,.string ⟨#[]⟩,.string ⟨#[]⟩,.string ⟨#[]⟩,.string ⟨#[]⟩,.int .u32 0,.int .u32 0,.int .u32 0,.int .u32 0,.int .u16 0,.int .u16 0,.int .u16 0,.int .u16 0,.int .u8 0,.bool false,.bool false,.bool false,.int .u8 0,.bool false,.int .u8 0,.bool false,.int .u8 0,.bool false,.int .u8 0,.bool false,.int .u8 0,.bool false,.int .u8 0,.bool false,.int .u8 0,.bool false] 76)).setRow w6.heap.size cs):=(Keeps.alloc w6 (.cells zero37 76)).trans (keeps_setRow _ w6.heap.size cs) (by simp)
   have hb7:Blk ((w6.alloc (.cells #[.slice none 0 0,.slice none 0 0,.slice none 0 0,.slice none 0 0,.string ⟨#[]⟩,.string ⟨#[]⟩,.string ⟨#[]⟩,.string ⟨#[]⟩,.string ⟨#[]⟩,.string ⟨#[]⟩,.string ⟨#[]⟩,.int .u32 0,.int .u32 0,.int .u32 0,.int .u32 0,.int .u16 0,.int .u16 0,.int .u16 0,.int .u16 0,.int .u8 0,.bool false,.bool false,.bool false,.int .u8 0,.bool false,.int .u8 0,.bool false,.int .u8 0,.bool false,.int .u8 0,.bool false,.int .u8 0,.bool false,.int .u8 0,.bool false,.int .u8 0,.bool false] 76)).setRow w6.heap.size cs) w6.heap.size 76 cs:=blk_setRow (Blk.new w6 76 zero37) cs
   generalize (w6.alloc (.cells #[.slice none 0 0,.slice none 0 0,.slice none 0 0,.slice none 0 0,.string ⟨#[]⟩,.string ⟨#[]⟩,.string ⟨#[]⟩,.string ⟨#[]⟩,.string ⟨#[]⟩,.string ⟨#[]⟩,.string ⟨#[]⟩,.int .u32 0,.int .u32 0,.int .u32 0,.int .u32 0,.int .u16 0,.int .u16 0,.int .u16 0,.int .u16 0,.int .u8 0,.bool false,.bool false,.bool false,.int .u8 0,.bool false,.int .u8 0,.bool false,.int .u8 0,.bool false,.int .u8 0,.bool false,.int .u8 0,.bool false,.int .u8 0,.bool false,.int .u8 0,.bool false] 76)).setRow w6.heap.size cs=W7 at*
   have HB7:=hH hb7
   have HK7:=hH (HK6.o.trans hk67 (by simp))
   have HPS7:=hH (HPS.o.keep2 hk67 (by simp))
   have h67:=HK6.o.size
   clear hk67 hb7 HPS
   generalize hsb:w6.heap.size=sb at*
   have y2:=HBN.o W7 HK7.o 2 _ rfl
   have HRQ:=hH (rd_new W7 3 #[.int .i64 u.qos] 1 1 rfl)
   have hin:inside 255 [u.qos]=true:=by simp[inside];omega
   go_wp2_with fail
   go_fit (within_c _ 255 _ 1 [u.qos] HRQ.o (by simp))
   rintro e w8 ⟨rfl,hk8⟩
   rw[hin]
   have HK8:=hH (HK7.o.trans ((Keeps.alloc W7 _).trans hk8 (by simp)) (by simp))
   have HB8:=hH ((HB7.o.alloc _).keep hk8 (by simp))
   have HPS8:=hH (HPS7.o.keep2 ((Keeps.alloc W7 (.cells #[.int .i64 u.qos] 3)).trans hk8 (by simp)) (by simp))
   clear hk8 y2
   go_wp2_with fail
   have hGnb:G<nb:=by have:=HG2.o.bg.lt;omega
   have hGsb:G<sb:=by have:=HNB.o.lt;omega
   have hS:∀w',Keeps [G] w8 w'→w'.cell? ⟨nb,0,none⟩=some (.string u.topic)∧w'.cell? ⟨nb,1,none⟩=some (.slice B1 u.payload.length k1)∧w'.cell? ⟨nb,2,none⟩=some (.int .i64 u.qos)∧w'.cell? ⟨nb,3,none⟩=some (.bool u.retain)∧w'.rangeAt sb 0 cs.toList:=fun w' k=>by
    have hn:=(HNB.o.keep HK8.o (by simp)).keep k (by simp;omega)
    exact⟨by rw[hn.cell];rfl,by rw[hn.cell];rfl,by rw[hn.cell];rfl,by rw[hn.cell];rfl,fun j t ht=>by rw[Nat.zero_add,(HB8.o.keep k (by simp;omega)).cell];simpa using ht⟩
   have HSS:=hH hS
   have CL:=hH (fun (w':World) (k:Keeps [] w8 w')=>clone_c w' B1 k1 u.payload (R1.o.keep (HG2.o.k.trans (HKV.o.trans (HK8.o.trans k (by simp)) (by simp)) (by simp)) (by simp)) (by omega))
   clear hS
   refine tkSt HSS.o ((Keeps.drew w8).mono (by simp)) (by kernel_rfl) fun hHeld=>?_
   simp only[s4,s5,Nat.reduceAdd,s6,s7]
   repeat((first|refine tkx ?_|refine tku ?_);simp only[setN,Act.put,s1,s2,s3])
   skip
   refine tki 11 139 ?_
   simp only[setN,Act.put,s1,s2,s3]
   refine tki 12 140 ?_
   simp only[setN,Act.put,s1,s2,s3]
   refine tki 13 141 ?_
   simp only[setN,Act.put,s1,s2,s3]
   refine tki 14 142 ?_
   simp only[setN,Act.put,s1,s2,s3]
   refine tki 15 143 ?_
   simp only[setN,Act.put,s1,s2,s3]
   refine wpAnyH_take (i:=16) (oi:=⟨(some 144),_,_,_,_,_⟩) (v:=.agg cs) rfl (by kernel_rfl) (by kernel_rfl) (by kernel_rfl) (fun _ _ _ h=>h) (Or.inl ⟨by rfl,load76r rfl (fun w' h=>h.2.2.2.2) HI76.o⟩) (by assumption) ?_
   simp only[setN,Act.put,s1,s2,s3]
   refine tkc fun K hK=>?_
   go_simp
   refine(CL.o _ (Keeps.drew w8)).mono ?_
   rintro e w9 ⟨Ap,cp,rfl,hpr,hk9,hpb⟩
   have hkA:=(Keeps.drew w8).trans hk9 (by simp)
   clear hHeld
   refine hK.out _ _ (HSS.o _ (hkA.mono (by simp))) (fun hHeld=>?_)
   clear hK K
   simp only[setN,Act.put,s1,s2,s3]
   repeat((first|refine tkx ?_|refine tku ?_);simp only[setN,Act.put,s1,s2,s3])
   have hk29:=(HKV.o.trans HK8.o (by simp)).trans hkA (by simp)
   have hg9:=HG2.o.keep hk29 (by simp)
   have hps9:=HPS8.o.keep2 hkA (by simp)
   have hz8:=HK8.o.size
   have hzn:=HNB.o.lt
   have hlo:=HG2.o.lo
   have hlt9:=HG2.o.lt
   have hfin:=will_fin (cp:=cp) HG2.o HZ2.o hk29 hps9 (by omega) hpr (fun a ha=>by have h1:=hpb a ha;have h2:=h1.1;simp at h2;exact⟨by omega,by omega,h1.2⟩)
   have HFIN:=hH hfin
   have hb0:=hg9.bg
   have hkg:=(hkA.mono (S':=[G]) (by simp))
   clear hfin hg9 hps9
   skip
   refine tkc fun K hK=>?_
   refine wp_one (gg:=G) (off:=47) (v:=.bool true) hb0 (by simp[arr_size]) 4 (.tmp 146) (.const (.bool true)) rfl rfl rfl (by kernel_rfl) rfl ?_
   have hb1:=hb0.set_ 47 (.bool true)
   have hkg:=hkg.trans (Keeps.setCell (w9) ⟨G,47,none⟩ (.bool true)) (by simp)
   clear hHeld
   refine hK.out _ _ (HSS.o _ hkg) (fun hHeld=>?_)
   clear hK K
   simp only[setN,Act.put,s1,s2,s3]
   repeat((first|refine tkx ?_|refine tku ?_);simp only[setN,Act.put,s1,s2,s3])
   refine tkc fun K hK=>?_
   refine wp_one (gg:=G) (off:=42) (v:=.string u.topic) hb1 (by simp[arr_size]) 9 (.tmp 148) (.tmp 135) rfl rfl rfl (by kernel_rfl) rfl ?_
   have hb2:=hb1.set_ 42 (.string u.topic)
   have hkg:=hkg.trans (Keeps.setCell ((w9).setCell ⟨G,47,none⟩ (.bool true)) ⟨G,42,none⟩ (.string u.topic)) (by simp)
   clear hHeld
   refine hK.out _ _ (HSS.o _ hkg) (fun hHeld=>?_)
   clear hK K
   simp only[setN,Act.put,s1,s2,s3]
   repeat((first|refine tkx ?_|refine tku ?_);simp only[setN,Act.put,s1,s2,s3])
   refine tkc fun K hK=>?_
   refine wp_one (gg:=G) (off:=40) (v:=.slice Ap u.payload.length cp) hb2 (by simp[arr_size]) 22 (.tmp 150) (.tmp 138) rfl rfl rfl (by kernel_rfl) rfl ?_
   have hb3:=hb2.set_ 40 (.slice Ap u.payload.length cp)
   have hkg:=hkg.trans (Keeps.setCell (((w9).setCell ⟨G,47,none⟩ (.bool true)).setCell ⟨G,42,none⟩ (.string u.topic)) ⟨G,40,none⟩ (.slice Ap u.payload.length cp)) (by simp)
   clear hHeld
   refine hK.out _ _ (HSS.o _ hkg) (fun hHeld=>?_)
   clear hK K
   simp only[setN,Act.put,s1,s2,s3]
   repeat((first|refine tkx ?_|refine tku ?_);simp only[setN,Act.put,s1,s2,s3])
   refine tkc fun K hK=>?_
   refine wp_one (gg:=G) (off:=46) (v:=.int .u8 u.qos) hb3 (by simp[arr_size]) 5 (.tmp 152) (.tmp 141) rfl rfl rfl (by kernel_rfl) rfl ?_
   have hb4:=hb3.set_ 46 (.int .u8 u.qos)
   have hkg:=hkg.trans (Keeps.setCell ((((w9).setCell ⟨G,47,none⟩ (.bool true)).setCell ⟨G,42,none⟩ (.string u.topic)).setCell ⟨G,40,none⟩ (.slice Ap u.payload.length cp)) ⟨G,46,none⟩ (.int .u8 u.qos)) (by simp)
   clear hHeld
   refine hK.out _ _ (HSS.o _ hkg) (fun hHeld=>?_)
   clear hK K
   simp only[setN,Act.put,s1,s2,s3]
   repeat((first|refine tkx ?_|refine tku ?_);simp only[setN,Act.put,s1,s2,s3])
   refine tkc fun K hK=>?_
   refine wp_one (gg:=G) (off:=48) (v:=.bool u.retain) hb4 (by simp[arr_size]) 4 (.tmp 154) (.tmp 143) rfl rfl rfl (by kernel_rfl) rfl ?_
   have hb5:=hb4.set_ 48 (.bool u.retain)
   have hkg:=hkg.trans (Keeps.setCell (((((w9).setCell ⟨G,47,none⟩ (.bool true)).setCell ⟨G,42,none⟩ (.string u.topic)).setCell ⟨G,40,none⟩ (.slice Ap u.payload.length cp)).setCell ⟨G,46,none⟩ (.int .u8 u.qos)) ⟨G,48,none⟩ (.bool u.retain)) (by simp)
   clear hHeld
   refine hK.out _ _ (HSS.o _ hkg) (fun hHeld=>?_)
   clear hK K
   simp only[setN,Act.put,s1,s2,s3]
   repeat((first|refine tkx ?_|refine tku ?_);simp only[setN,Act.put,s1,s2,s3])
   refine tkc fun K hK=>?_
   refine wp_store_mid 76 (.tmp 156) (.tmp 144) rfl G 0 cs rfl rfl (there_of hb5 0 cs.size (by have:=HCZ.o;simp[arr_size];omega)) HI76.o HC1.o ?_
   obtain⟨cs6,_,_,hk6s,_⟩:=blk_setCells (w:=w9) (g:=G) (t:=86) cs.toList _ 0 _ hb5 (by have:=HCZ.o;simp[arr_size];omega)
   have hkg:=hkg.trans hk6s (by simp)
   clear hHeld
   refine hK.out _ _ (HSS.o _ hkg) (fun hHeld=>?_)
   clear hK K
   simp only[setN,Act.put,s1,s2,s3]
   repeat((first|refine tkx ?_|refine tku ?_);simp only[setN,Act.put,s1,s2,s3])
   refine tkDone (by kernel_rfl) ?_
   obtain⟨F4,hz4,hg4⟩:=HFIN.o
   have HZ4:=hH hz4
   have HG4:=hH hg4
   clear hz4 hg4 HFIN hHeld hb0 hb1 hb2 hb3 hb4 hb5 hk6s hkg hk29 hkA hpr hk9 hpb
   generalize ((((((w9).setCell ⟨G,47,none⟩ (.bool true)).setCell ⟨G,42,none⟩ (.string u.topic)).setCell ⟨G,40,none⟩ (.slice Ap u.payload.length cp)).setCell ⟨G,46,none⟩ (.int .u8 u.qos)).setCell ⟨G,48,none⟩ (.bool u.retain)).setCells G 0 cs.toList=wy at*
   go_wp2_with fail
   go_roundg g'
   case measure=>omega
   case rel=>exact⟨k+1,F4,by go_num,hlt,by omega,HZ4.o,by rw[HW1.o.2];exact HG4.o⟩
  ·have hkl:k=p.will.length:=by omega
   subst hkl
   rw[List.take_length] at HG2
   clear hm1 hm2 RW MW
   have HGU:=hH HG2.o
   clear HG2
   obtain⟨wa1,rfl⟩:∃x,x=wr:=⟨_,rfl⟩
   obtain⟨xu,⟨Au,cu,eu,ru,nu,du⟩,mu⟩:=HM.o.m14
   have hul:=HN.o.users.1
   have bu:=HGU.o.bx 14 (.slice Au p.user.length cu) (by rw[←eu];rfl)
   have hm1:min (p.user.length:Int) 1=(p.user.length:Int):=by omega
   have hm2:max (p.user.length:Int) 0=(p.user.length:Int):=by omega
   have RU:=hH ru
   have MU:=hH mu
   clear ru mu du eu
   go_wp2_with fail
   go_loopg [166] (p.user.length+1) (fun gk i wr=>∃(k:Nat) (F:Nat→Value),i=.int .i64 (k:Int)∧k≤p.user.length∧p.user.length<gk+k∧Z88 F∧GvSt w wr w.heap.size G p v F p.will (p.user.take k) [] [] [] [])
   case atStart=>exact⟨0,_,rfl,by omega,by omega,HZ2.o,by rw[List.take_zero];exact HGU.o⟩
   case round=>
    skip
    obtain⟨k,F3,rfl,hk,hgk,hz3,hg3⟩:=hrel
    have HZ3:=hH hz3
    have HG3:=hH hg3
    clear hz3 hg3 HGU HZ2 bu
    by_cases hlt:k<p.user.length
    ·obtain⟨g',rfl⟩:∃g',gk=g'+1:=⟨gk-1,by omega⟩
     have hltz:(k:Int)<(p.user.length:Int):=by omega
     obtain⟨u,hu⟩:∃u,p.user[k]?=some u:=⟨_,List.getElem?_eq_getElem hlt⟩
     have hk0:k=0:=by omega
     have hyl:=HN.o.users.2 u (List.mem_of_getElem? hu)
     have hw1:p.user.take k=[]∧p.user.take (k+1)=[u]:=by
      subst hk0
      refine⟨List.take_zero,?_⟩
      rw[List.take_of_length_le (by omega)]
      rcases e:p.user with _|⟨y,_|_⟩
      ·rw[e] at hlt;simp at hlt
      ·rw[e] at hu;simp at hu;rw[hu]
      ·rw[e] at hul;simp at hul
     have HW1:=hH hw1
     rw[hw1.1] at HG3
     obtain⟨y1,f1,B1,k1,rfl,r1,n1,h1⟩:=MU.o k u hu
     obtain⟨b0,o0,rfl,hcl⟩:=RU.o.2 (by omega)
     have x0:wr.cell? ⟨b0,o0+k,none⟩=some (.slice B1 u.length k1):=HG3.o.k.some_ (hcl _ _ f1) (by simp)
     have CLU:=hH (clone_c wr B1 k1 u (r1.keep HG3.o.k (by simp)) (by omega))
     clear hcl f1 r1 h1 hu hw1 hk0
     go_wp2_with fail
     go_fit (CLU.o)
     rintro e w9 ⟨Ap,cp,rfl,hpr,hk9,hpb⟩
     have hg9:=HG3.o.keep hk9 (by simp)
     have c1:=hg9.cell 45 (by omega)
     have c2:=hg9.cell 38 (by omega)
     have f1:=hg9.frozen 45
     have f2:=hg9.frozen 38
     have hlo:=HG3.o.lo
     have hlt9:=HG3.o.lt
     have hgl:=HG3.o.bg.lt
     have hfin:=opt_fin (fl:=45) (d:=38) (cp:=cp) HG3.o HZ3.o hk9 hpr (fun a ha=>by have h1:=hpb a ha;exact⟨by omega,by omega,h1.2⟩) (by simp)
     exact zY2
    ·have hkl:k=p.user.length:=by omega
     subst hkl
     rw[List.take_length] at HG3
     clear hm1 hm2 RU MU
     have HZ2:=hH HZ3.o
     clear HZ3
     have HGU:=hH HG3.o
     clear HG3
     obtain⟨wa2,rfl⟩:∃x,x=wr:=⟨_,rfl⟩
     obtain⟨xu,⟨Au,cu,eu,ru,nu,du⟩,mu⟩:=HM.o.m15
     have hul:=HN.o.passes.1
     have bu:=HGU.o.bx 15 (.slice Au p.pass.length cu) (by rw[←eu];rfl)
     have hm1:min (p.pass.length:Int) 1=(p.pass.length:Int):=by omega
     have hm2:max (p.pass.length:Int) 0=(p.pass.length:Int):=by omega
     have RU:=hH ru
     have MU:=hH mu
     clear ru mu du eu
     go_wp2_with fail
     go_loopg [187] (p.pass.length+1) (fun gk i wr=>∃(k:Nat) (F:Nat→Value),i=.int .i64 (k:Int)∧k≤p.pass.length∧p.pass.length<gk+k∧Z88 F∧GvSt w wr w.heap.size G p v F p.will p.user (p.pass.take k) [] [] [])
     case atStart=>exact⟨0,_,rfl,by omega,by omega,HZ2.o,by rw[List.take_zero];exact HGU.o⟩
     case round=>
      skip
      obtain⟨k,F3,rfl,hk,hgk,hz3,hg3⟩:=hrel
      have HZ3:=hH hz3
      have HG3:=hH hg3
      clear hz3 hg3 HGU HZ2 bu
      by_cases hlt:k<p.pass.length
      ·obtain⟨g',rfl⟩:∃g',gk=g'+1:=⟨gk-1,by omega⟩
       have hltz:(k:Int)<(p.pass.length:Int):=by omega
       obtain⟨u,hu⟩:∃u,p.pass[k]?=some u:=⟨_,List.getElem?_eq_getElem hlt⟩
       have hk0:k=0:=by omega
       have hyl:=HN.o.passes.2 u (List.mem_of_getElem? hu)
       have hw1:p.pass.take k=[]∧p.pass.take (k+1)=[u]:=by
        subst hk0
        refine⟨List.take_zero,?_⟩
        rw[List.take_of_length_le (by omega)]
        rcases e:p.pass with _|⟨y,_|_⟩
        ·rw[e] at hlt;simp at hlt
        ·rw[e] at hu;simp at hu;rw[hu]
        ·rw[e] at hul;simp at hul
       have HW1:=hH hw1
       rw[hw1.1] at HG3
       obtain⟨y1,f1,B1,k1,rfl,r1,n1,h1⟩:=MU.o k u hu
       obtain⟨b0,o0,rfl,hcl⟩:=RU.o.2 (by omega)
       have x0:wr.cell? ⟨b0,o0+k,none⟩=some (.slice B1 u.length k1):=HG3.o.k.some_ (hcl _ _ f1) (by simp)
       have CLU:=hH (clone_c wr B1 k1 u (r1.keep HG3.o.k (by simp)) (by omega))
       clear hcl f1 r1 h1 hu hw1 hk0
       go_wp2_with fail
       go_fit (CLU.o)
       rintro e w9 ⟨Ap,cp,rfl,hpr,hk9,hpb⟩
       have hg9:=HG3.o.keep hk9 (by simp)
       have c1:=hg9.cell 44 (by omega)
       have c2:=hg9.cell 37 (by omega)
       have f1:=hg9.frozen 44
       have f2:=hg9.frozen 37
       have hlo:=HG3.o.lo
       have hlt9:=HG3.o.lt
       have hgl:=HG3.o.bg.lt
       have hfin:=opt_fin (fl:=44) (d:=37) (cp:=cp) HG3.o HZ3.o hk9 hpr (fun a ha=>by have h1:=hpb a ha;exact⟨by omega,by omega,h1.2⟩) (by simp)
       exact zY2
      ·have hkl:k=p.pass.length:=by omega
       subst hkl
       rw[List.take_length] at HG3
       clear hm1 hm2 RU MU
       have HZ2:=hH HZ3.o
       clear HZ3
       obtain⟨wa3,rfl⟩:∃x,x=wr:=⟨_,rfl⟩
       have HGU:=hH HG3.o
       clear HG3
       have hb0:=HGU.o.bg
       rw[show arr F3=arr (upd F3 88 (.slice none 0 0)) by rw[←HZ2.o.1,upd_self]] at hb0
       have HB0:=hH hb0
       clear hb0
       have b18:=HGU.o.bx 18 (.slice A18 p.codes.length c18) (by rw[←E18.o];rfl)
       obtain⟨i0,hi0,hz0,hz1,hz2⟩:=info_parts info5
       have I50:=hH hi0
       have I51:=hH hz0
       have I52:=hH hz1
       have I53:=hH hz2
       clear hi0 hz0 hz1 hz2
       have hgb:=HGU.o.bg.lt
       have hlo:=HGU.o.lo
       have hlt9:=HGU.o.lt
       have HGB:Hd (G<wa3.heap.size∧w.heap.size≤G):=⟨hgb,by omega⟩
       clear hgb hlo hlt9
       go_wp2_with fail
       go_loopg [203] (p.codes.length+1) (fun gk i wr=>RwRel wa3 G 88 F3 5 1 p.codes.length (fun k=>bvs (codeB (p.codes.take k))) gk i wr)
       case atStart=>exact⟨0,none,0,rfl,by omega,by omega,HB0.o,by simpa [codeB,bvs] using World.ownsRow_nil wa3 0 5 1,by simp,Keeps.refl _ _⟩
       case round=>
        obtain⟨k,A1,c1,rfl,hk,hgk,hB,ho,hA,hkw⟩:=hrel
        have HBk:=hH hB
        have HO:=hH ho
        have HA1:=hH hA
        have HKW:=hH hkw
        clear hB ho hA hkw HB0
        by_cases hlt:k<p.codes.length
        ·obtain⟨g',rfl⟩:∃g',gk=g'+1:=⟨gk-1,by omega⟩
         have hltz:(k:Int)<(p.codes.length:Int):=by omega
         obtain⟨u,hu⟩:∃u,p.codes[k]?=some u:=⟨_,List.getElem?_eq_getElem hlt⟩
         obtain⟨hu0,hu1⟩:=HN.o.codes.1 u (List.mem_of_getElem? hu)
         have hwu:IntKind.u8.wrap u=u:=IntWalk.u8_in _ (by omega)
         obtain⟨b0,o0,hAe,hcl1⟩:=R18.o.2 (by omega)
         have xu:wr.cell? ⟨b0,o0+k,none⟩=some (.int .i64 u):=(HGU.o.k.trans HKW.o (by simp;exact HGB.o.2)).some_ (hcl1 k (.int .i64 u) (by simp[nvs,hu])) (by simp)
         have HU:=hH hu
         have y88:(wr.alloc (.cells #[.int .u8 u] 5)).cell? ⟨G,88,none⟩=some (.slice A1 k c1):=by rw[((HBk.o).alloc _).cell,arr_get _ _ (by omega)];rfl
         have w88:wr.cell? ⟨G,88,none⟩=some (.slice A1 k c1):=by rw[HBk.o.cell,arr_get _ _ (by omega)];rfl
         have HRN:Hd (Rd (wr.alloc (.cells #[.int .u8 u] 5)) 1 (some ⟨wr.heap.size,0,none⟩) 1 [.int .u8 u]):=rd_new wr 5 #[.int .u8 u] 1 1 rfl
         have HON:=hH (HO.o.alloc (.cells #[.int .u8 u] 5))
         subst hAe
         clear hu hcl1
         go_wp2_with (at_builtin;refine wpList_append_rd _ rfl (.tmp 211) (.tmp 214) 22 rfl 5 i0 _ 1 1 underlying22 I50.o I51.o I52.o I53.o rfl (by decide) (.slice A1 k c1) k _ rfl HON.o _ 1 1 _ rfl HRN.o (by intro x hx;simp at hx;subst hx;rfl) (by omega) (by unfold maxLen;omega) ?_;intro A2 c2 wz ho2 hkz hd2;have HN9:=row_next (i:=88) (F:=F3) HGB.o.1 HBk.o HA1.o HKW.o (Keeps.alloc wr (.cells #[.int .u8 u] 5)) ho2 hkz hd2;have hbz:=((HBk.o).alloc (.cells #[.int .u8 u] 5)).keep hkz (by rw[own_slice];intro hm;have:=HA1.o G (Option.mem_toList.1 hm);have:=HGB.o;omega);have z88:wz.cell? ⟨G,88,none⟩=some (.slice A1 k c1):=(by rw[hbz.cell,arr_get _ _ (by omega)];rfl);have f88:=hbz.frozen 88;have HNN:=hH HN9;clear HN9 ho2 hkz hd2 hbz)
         go_roundg g'
         case measure=>omega
         case rel=>exact⟨k+1,A2,c2,by go_num,hlt,by omega,HNN.o.1,by have h:=HNN.o.2.1;show World.ownsRow _ 0 5 1 _ (k+1) (bvs (codeB (p.codes.take (k+1))));rw[show bvs (codeB (p.codes.take (k+1)))=bvs (codeB (p.codes.take k))++[.int .u8 u] by rw[List.take_add_one,HU.o];simp[codeB,bvs,bv];omega];exact h,HNN.o.2.2.1,HNN.o.2.2.2⟩
        ·have hkl:k=p.codes.length:=by omega
         subst hkl
         have ho:World.ownsRow wr 0 5 1 (.slice A1 p.codes.length c1) p.codes.length (bvs (codeB (p.codes.take p.codes.length))):=HO.o
         rw[List.take_length] at ho
         obtain⟨hgc,hzc⟩:=codes_fin HGU.o HZ2.o.2 HBk.o ho HA1.o HKW.o
         obtain⟨FC,hFC⟩:∃FC,upd F3 88 (.slice A1 p.codes.length c1)=FC:=⟨_,rfl⟩
         rw[hFC] at hgc hzc
         have HG4:=hH hgc
         have HZ9:=hH hzc
         clear ho hgc hzc hFC HO HA1 HKW HBk HGU HZ2 HGB b18 I50 I51 I52 I53
         obtain⟨wa4,rfl⟩:∃x,x=wr:=⟨_,rfl⟩
         have HGU:=hH HG4.o
         clear HG4
         have hb0:=HGU.o.bg
         rw[show arr FC=arr (upd FC 89 (.slice none 0 0)) by rw[←HZ9.o,upd_self]] at hb0
         have HB0:=hH hb0
         clear hb0
         obtain⟨A19,c19,E19,R19,n19,d19⟩:=HM.o.m19
         have b19:=HGU.o.bx 19 (.slice A19 p.subs.length c19) (by rw[←E19];rfl)
         obtain⟨i0,hi0,hz0,hz1,hz2⟩:=info_parts info108
         have HI0:=hH hi0
         have HZ0:=hH hz0
         have HZ1:=hH hz1
         have HZ2:=hH hz2
         clear hi0 hz0 hz1 hz2 n19 d19 E19
         have RR:=hH R19
         clear R19
         have hgb:=HGU.o.bg.lt
         have hlo:=HGU.o.lo
         have hlt9:=HGU.o.lt
         have HGB:Hd (G<wa4.heap.size∧w.heap.size≤G):=⟨hgb,by omega⟩
         clear hgb hlo hlt9
         have hsl:=HN.o.subs.1
         go_wp2_with fail
         go_loopg [222] (p.subs.length+1) (fun gk i wr=>RwRel wa4 G 89 FC 108 9 p.subs.length (fun k=>(p.subs.take k).flatMap fun s=>(toV 0 s).cells) gk i wr)
         case atStart=>exact⟨0,none,0,rfl,by omega,by omega,HB0.o,by simpa using World.ownsRow_nil wa4 0 108 9,by simp,Keeps.refl _ _⟩
         case round=>
          obtain⟨k,A1,c1,rfl,hk,hgk,hB,ho,hA,hkw⟩:=hrel
          have HBk:=hH hB
          have HO:=hH ho
          have HA1:=hH hA
          have HKW:=hH hkw
          clear hB ho hA hkw HB0
          by_cases hlt:k<p.subs.length
          ·obtain⟨g',rfl⟩:∃g',gk=g'+1:=⟨gk-1,by omega⟩
           have hltz:(k:Int)<(p.subs.length:Int):=by omega
           obtain⟨u,hu⟩:∃u,p.subs[k]?=some u:=⟨_,List.getElem?_eq_getElem hlt⟩
           obtain⟨⟨hq0,hq1⟩,hh0,hh1⟩:=HN.o.subs.2 u (List.mem_of_getElem? hu)
           have hwq:IntKind.u8.wrap u.qos=u.qos:=IntWalk.u8_in _ (by omega)
           have hwh:IntKind.u8.wrap u.handling=u.handling:=IntWalk.u8_in _ (by omega)
           obtain⟨b0,o0,hAe,hcl1⟩:=RR.o.2 (by omega)
           have x0:wr.cell? ⟨b0,o0+k*5,none⟩=some (.string u.filter):=(HGU.o.k.trans HKW.o (by simp;exact HGB.o.2)).some_ (hcl1 _ _ (flat5_get _ k u hu 0 (by omega))) (by simp)
           have x1:wr.cell? ⟨b0,o0+k*5+1,none⟩=some (.int .i64 u.qos):=(HGU.o.k.trans HKW.o (by simp;exact HGB.o.2)).some_ (by rw[Nat.add_assoc];exact hcl1 _ _ (flat5_get _ k u hu 1 (by omega))) (by simp)
           have x2:wr.cell? ⟨b0,o0+k*5+2,none⟩=some (.bool u.nl):=(HGU.o.k.trans HKW.o (by simp;exact HGB.o.2)).some_ (by rw[Nat.add_assoc];exact hcl1 _ _ (flat5_get _ k u hu 2 (by omega))) (by simp)
           have x3:wr.cell? ⟨b0,o0+k*5+3,none⟩=some (.bool u.ap):=(HGU.o.k.trans HKW.o (by simp;exact HGB.o.2)).some_ (by rw[Nat.add_assoc];exact hcl1 _ _ (flat5_get _ k u hu 3 (by omega))) (by simp)
           have x4:wr.cell? ⟨b0,o0+k*5+4,none⟩=some (.int .i64 u.handling):=(HGU.o.k.trans HKW.o (by simp;exact HGB.o.2)).some_ (by rw[Nat.add_assoc];exact hcl1 _ _ (flat5_get _ k u hu 4 (by omega))) (by simp)
           have HTV:Hd ((#[.slice none 0 0,.string u.filter,.int .i64 0,.map none,.int .u8 u.handling,.int .u8 u.qos,.bool u.ap,.bool u.nl,.bool false]:Array Value).toList=(toV 0 u).cells):=by show _=_;simp[toV,SubV.cells,Int.toNat_of_nonneg hh0,Int.toNat_of_nonneg hq0]
           have HU:=hH hu
           subst hAe
           clear hu hcl1
           go_upto_region 33 with fail
           try simp only[Act.put]
           have HNB:=hH (Blk.new wr 55 #[.string u.filter,.int .i64 u.qos,.bool u.nl,.bool u.ap,.int .i64 u.handling])
           have HKV:=hH (Keeps.alloc wr (.cells #[.string u.filter,.int .i64 u.qos,.bool u.nl,.bool u.ap,.int .i64 u.handling] 55))
           generalize wr.alloc (.cells #[.string u.filter,.int .i64 u.qos,.bool u.nl,.bool u.ap,.int .i64 u.handling] 55)=W5 at*
           have HSB:Hd (G<wr.heap.size):=HBk.o.lt
           generalize hnb:wr.heap.size=nb at*
           clear x0 x1 x2 x3 x4
           have hbn:∀(w':World) (_:Keeps [] W5 w') (j:Nat) (t:Value),(#[.string u.filter,.int .i64 u.qos,.bool u.nl,.bool u.ap,.int .i64 u.handling]:Array Value)[j]?=some t→w'.cell? ⟨nb,j,none⟩=some t:=fun w' k j t h=>by rw[(HNB.o.keep k (by simp)).cell,h]
           have y1:=hbn W5 (Keeps.refl _ _) 1 _ rfl
           have y4:=hbn W5 (Keeps.refl _ _) 4 _ rfl
           clear hbn
           have HRQ:=hH (rd_new W5 3 #[.int .i64 u.qos,.int .i64 u.handling] 1 2 rfl)
           have hin:inside 255 [u.qos,u.handling]=true:=by simp[inside];omega
           go_wp2_with fail
           go_fit (within_c _ 255 _ 2 [u.qos,u.handling] HRQ.o (by simp))
           rintro e w8 ⟨rfl,hk8⟩
           rw[hin]
           have HK8:=hH ((Keeps.alloc W5 (.cells #[.int .i64 u.qos,.int .i64 u.handling] 3)).trans hk8 (by simp))
           clear hk8 y1 y4
           go_wp2_with fail
           have HBn:=hH (HNB.o.keep HK8.o (by simp))
           have HKa:=hH (HKV.o.trans HK8.o (by simp))
           have hS:∀w',Blk w' nb 55 #[.string u.filter,.int .i64 u.qos,.bool u.nl,.bool u.ap,.int .i64 u.handling]→(w'.cell? ⟨nb,0,none⟩=some (.string u.filter)∧w'.cell? ⟨nb,1,none⟩=some (.int .i64 u.qos)∧w'.cell? ⟨nb,2,none⟩=some (.bool u.nl)∧w'.cell? ⟨nb,3,none⟩=some (.bool u.ap)∧w'.cell? ⟨nb,4,none⟩=some (.int .i64 u.handling)):=fun w' b=>⟨by rw[b.cell];rfl,by rw[b.cell];rfl,by rw[b.cell];rfl,by rw[b.cell];rfl,by rw[b.cell];rfl⟩
           have hb0:=HBn.o.drew
           have hkw0:=HKa.o.trans (Keeps.drew w8) (by simp)
           have HKW0:=hH hkw0
           clear hkw0
           refine tkSt hS hb0 (by kernel_rfl) fun hHeld=>?_
           simp only[s4,s5,Nat.reduceAdd,s6,s7]
           generalize w8.drew=wb at*
           repeat((first|refine tkx ?_|refine tku ?_);simp only[setN,Act.put,s1,s2,s3])
           skip
           refine tki 5 238 ?_
           simp only[setN,Act.put,s1,s2,s3]
           refine tki 6 239 ?_
           simp only[setN,Act.put,s1,s2,s3]
           refine tki 7 240 ?_
           simp only[setN,Act.put,s1,s2,s3]
           refine tki 8 241 ?_
           simp only[setN,Act.put,s1,s2,s3]
           refine tki 9 242 ?_
           simp only[setN,Act.put,s1,s2,s3]
           refine tki 10 243 ?_
           simp only[setN,Act.put,s1,s2,s3]
           refine tki 11 244 ?_
           simp only[setN,Act.put,s1,s2,s3]
           refine tki 12 245 ?_
           simp only[setN,Act.put,s1,s2,s3]
           refine tki 13 246 ?_
           simp only[setN,Act.put,s1,s2,s3]
           refine tki 14 247 ?_
           simp only[setN,Act.put,s1,s2,s3]
           refine tki 15 248 ?_
           simp only[setN,Act.put,s1,s2,s3]
           refine tki 16 249 ?_
           simp only[setN,Act.put,s1,s2,s3]
           refine tki 17 250 ?_
           simp only[setN,Act.put,s1,s2,s3]
           have HBw:=hH (HBk.o.keep HKW0.o (by simp))
           have hcw:wb.cell? ⟨G,89,none⟩=some (.slice A1 k c1):=by rw[HBw.o.cell,arr_get _ _ (by omega)];rfl
           refine wpAnyH_ready (rs:=[4,18]) (by kernel_rfl) (by simp) ?_
           refine AllReadyH.cons (o:=⟨some 237,_,_,_,_,_⟩) rfl (fun K hK=>?_) (AllReadyH.cons (o:=⟨some 251,_,_,_,_,_⟩) rfl (fun K hK=>?_) AllReadyH.nil)
           ·rw[if_pos (by rfl)]
            go_simp
            refine hK.out _ _ hHeld (fun hHeld=>?_)
            clear hK K
            simp only[setN,Act.put,s1,s2,s3]
            refine tkc fun K hK=>?_
            go_simp
            have HRN:=hH (show Rd (wb.alloc (.cells #[.slice none 0 0,.string u.filter,.int .i64 0,.map none,.int .u8 u.handling,.int .u8 u.qos,.bool u.ap,.bool u.nl,.bool false] 108)) 9 (some ⟨wb.heap.size,0,none⟩) 1 (toV 0 u).cells from by rw[←HTV.o];exact rd_new wb 108 #[.slice none 0 0,.string u.filter,.int .i64 0,.map none,.int .u8 u.handling,.int .u8 u.qos,.bool u.ap,.bool u.nl,.bool false] 9 1 rfl)
            have hbs:=hb0.alloc (.cells #[.slice none 0 0,.string u.filter,.int .i64 0,.map none,.int .u8 u.handling,.int .u8 u.qos,.bool u.ap,.bool u.nl,.bool false] 108)
            have HBs:=hH (HBw.o.alloc (.cells #[.slice none 0 0,.string u.filter,.int .i64 0,.map none,.int .u8 u.handling,.int .u8 u.qos,.bool u.ap,.bool u.nl,.bool false] 108))
            have HKs:=hH (HKW0.o.trans (Keeps.alloc wb (.cells #[.slice none 0 0,.string u.filter,.int .i64 0,.map none,.int .u8 u.handling,.int .u8 u.qos,.bool u.ap,.bool u.nl,.bool false] 108)) (by simp))
            have hcs:(wb.alloc (.cells #[.slice none 0 0,.string u.filter,.int .i64 0,.map none,.int .u8 u.handling,.int .u8 u.qos,.bool u.ap,.bool u.nl,.bool false] 108)).cell? ⟨G,89,none⟩=some (.slice A1 k c1):=by rw[HBs.o.cell,arr_get _ _ (by omega)];rfl
            clear hHeld
            refine hK.out _ _ (hS _ hbs) (fun hHeld=>?_)
            clear hK K
            simp only[setN,Act.put,s1,s2,s3]
            generalize wb.alloc (.cells #[.slice none 0 0,.string u.filter,.int .i64 0,.map none,.int .u8 u.handling,.int .u8 u.qos,.bool u.ap,.bool u.nl,.bool false] 108)=ws at*
            generalize wb.heap.size=nn at*
            exact zY0
           ·rw[if_pos (by rfl)]
            go_simp
            have HRN:=hH (show Rd (wb.alloc (.cells #[.slice none 0 0,.string u.filter,.int .i64 0,.map none,.int .u8 u.handling,.int .u8 u.qos,.bool u.ap,.bool u.nl,.bool false] 108)) 9 (some ⟨wb.heap.size,0,none⟩) 1 (toV 0 u).cells from by rw[←HTV.o];exact rd_new wb 108 #[.slice none 0 0,.string u.filter,.int .i64 0,.map none,.int .u8 u.handling,.int .u8 u.qos,.bool u.ap,.bool u.nl,.bool false] 9 1 rfl)
            have hbs:=hb0.alloc (.cells #[.slice none 0 0,.string u.filter,.int .i64 0,.map none,.int .u8 u.handling,.int .u8 u.qos,.bool u.ap,.bool u.nl,.bool false] 108)
            have HBs:=hH (HBw.o.alloc (.cells #[.slice none 0 0,.string u.filter,.int .i64 0,.map none,.int .u8 u.handling,.int .u8 u.qos,.bool u.ap,.bool u.nl,.bool false] 108))
            have HKs:=hH (HKW0.o.trans (Keeps.alloc wb (.cells #[.slice none 0 0,.string u.filter,.int .i64 0,.map none,.int .u8 u.handling,.int .u8 u.qos,.bool u.ap,.bool u.nl,.bool false] 108)) (by simp))
            have hcs:(wb.alloc (.cells #[.slice none 0 0,.string u.filter,.int .i64 0,.map none,.int .u8 u.handling,.int .u8 u.qos,.bool u.ap,.bool u.nl,.bool false] 108)).cell? ⟨G,89,none⟩=some (.slice A1 k c1):=by rw[HBs.o.cell,arr_get _ _ (by omega)];rfl
            clear hHeld
            refine hK.out _ _ (hS _ hbs) (fun hHeld=>?_)
            clear hK K
            simp only[setN,Act.put,s1,s2,s3]
            generalize wb.alloc (.cells #[.slice none 0 0,.string u.filter,.int .i64 0,.map none,.int .u8 u.handling,.int .u8 u.qos,.bool u.ap,.bool u.nl,.bool false] 108)=ws at*
            generalize wb.heap.size=nn at*
            refine tkc fun K hK=>?_
            go_simp
            refine hK.out _ _ hHeld (fun hHeld=>?_)
            clear hK K
            simp only[setN,Act.put,s1,s2,s3]
            exact zY0
          ·have hkl:k=p.subs.length:=by omega
           subst hkl
           have ho:World.ownsRow wr 0 108 9 (.slice A1 p.subs.length c1) p.subs.length ((p.subs.take p.subs.length).flatMap fun s=>(toV 0 s).cells):=HO.o
           rw[List.take_length] at ho
           have HG5:=hH (subs_fin HGU.o HBk.o ho HA1.o HKW.o)
           clear ho HO HA1 HKW HBk HGU HGB b19 HI0 HZ0 HZ1 HZ2
           obtain⟨wa5,rfl⟩:∃x,x=wr:=⟨_,rfl⟩
           obtain⟨A20,c20,E20,R20,n20,d20⟩:=HM.o.m20
           obtain⟨kp,hkp⟩:=HN.o.props
           have b20:=HG5.o.bx 20 (.slice A20 p.props.length c20) (by rw[←E20];rfl)
           have PRC:=hH (properties_c wa5 A20 c20 p.props (R20.keep HG5.o.k (by simp)) (fun h0 a ha=>Nat.lt_of_lt_of_le (d20 a ha h0).1 HG5.o.k.size) hkp.len (proper_known hkp))
           clear E20 R20 n20 d20 hkp
           go_wp2_with fail
           go_fit (PRC.o)
           rintro e w6 ⟨cs,b,rfl,hps,hk6⟩
           have hcz:=hps.sz
           have hi76c:(prog.info? 76).map (·.size)=some cs.size:=by rw[hcz];kernel_rfl
           have hc1:cs.all (·.oneCell')=true:=pst_one hps
           have HPS:=hH hps
           have HK6:=hH hk6
           have HI76:=hH hi76c
           have HC1:=hH hc1
           have HCZ:=hH hcz
           clear hps hk6 hi76c hc1 hcz b20
           go_upto_region 38 with(refine wpList_store_row rfl 76 (.tmp 18) (.tmp 260) rfl w6.heap.size cs rfl rfl 76 zero37 (Blk.new w6 76 zero37) HI76.o HCZ.o.symm HC1.o ?_)
           try simp only[Act.put]
           have hk67:Keeps [] w6 ((w6.alloc (.cells #[.slice none 0 0,.slice none 0 0,.slice none 0 0,.slice none 0 0,.string ⟨#[]⟩,.string ⟨#[]⟩,.string ⟨#[]⟩,.string ⟨#[]⟩,.string ⟨#[]⟩,.string ⟨#[]⟩,.string ⟨#[]⟩,.int .u32 0,.int .u32 0,.int .u32 0,.int .u32 0,.int .u16 0,.int .u16 0,.int .u16 0,.int .u16 0,.int .u8 0,.bool false,.bool false,.bool false,.int .u8 0,.bool false,.int .u8 0,.bool false,.int .u8 0,.bool false,.int .u8 0,.bool false,.int .u8 0,.bool false,.int .u8 0,.bool false,.int .u8 0,.bool false] 76)).setRow w6.heap.size cs):=(Keeps.alloc w6 (.cells zero37 76)).trans (keeps_setRow _ w6.heap.size cs) (by simp)
           have hb7:Blk ((w6.alloc (.cells #[.slice none 0 0,.slice none 0 0,.slice none 0 0,.slice none 0 0,.string ⟨#[]⟩,.string ⟨#[]⟩,.string ⟨#[]⟩,.string ⟨#[]⟩,.string ⟨#[]⟩,.string ⟨#[]⟩,.string ⟨#[]⟩,.int .u32 0,.int .u32 0,.int .u32 0,.int .u32 0,.int .u16 0,.int .u16 0,.int .u16 0,.int .u16 0,.int .u8 0,.bool false,.bool false,.bool false,.int .u8 0,.bool false,.int .u8 0,.bool false,.int .u8 0,.bool false,.int .u8 0,.bool false,.int .u8 0,.bool false,.int .u8 0,.bool false,.int .u8 0,.bool false] 76)).setRow w6.heap.size cs) w6.heap.size 76 cs:=blk_setRow (Blk.new w6 76 zero37) cs
           generalize (w6.alloc (.cells #[.slice none 0 0,.slice none 0 0,.slice none 0 0,.slice none 0 0,.string ⟨#[]⟩,.string ⟨#[]⟩,.string ⟨#[]⟩,.string ⟨#[]⟩,.string ⟨#[]⟩,.string ⟨#[]⟩,.string ⟨#[]⟩,.int .u32 0,.int .u32 0,.int .u32 0,.int .u32 0,.int .u16 0,.int .u16 0,.int .u16 0,.int .u16 0,.int .u8 0,.bool false,.bool false,.bool false,.int .u8 0,.bool false,.int .u8 0,.bool false,.int .u8 0,.bool false,.int .u8 0,.bool false,.int .u8 0,.bool false,.int .u8 0,.bool false,.int .u8 0,.bool false] 76)).setRow w6.heap.size cs=W7 at*
           have HB7:=hH hb7
           have HK7:=hH (HK6.o.trans hk67 (by simp))
           have HPS7:=hH (HPS.o.keep2 hk67 (by simp))
           have hg7:=HG5.o.keep HK7.o (by simp)
           have HT:=hH (there_of hg7.bg 50 cs.size (by have:=HCZ.o;simp[arr_size];omega))
           have HG7:=hH hg7
           have HGs:Hd (G≤wa5.heap.size):=Nat.le_of_lt HG5.o.bg.lt
           clear hk67 hb7 HPS hg7
           generalize hsb:w6.heap.size=sb at*
           go_wp2_with (first|refine wpList_load_row rfl 76 (.tmp 18) rfl sb rfl 76 cs (0,0) _ HB7.o underlying76 rfl HI76.o ?_|refine wpList_store_mid rfl 76 (.tmp 265) (.tmp 263) rfl G 50 cs rfl rfl HT.o HI76.o HC1.o ?_)
           obtain⟨F9,hg9⟩:=props_fin HG7.o HPS7.o HGs.o
           go_ret2
           exact⟨w.heap.size,G,v,F9,rfl,hg9⟩
end Go.Proofs.YtkglmacaecmhdaaGreatDoor
