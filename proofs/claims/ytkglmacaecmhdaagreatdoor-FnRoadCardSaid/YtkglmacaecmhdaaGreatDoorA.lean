/- FnRoad, part A: the walks of B0, B1, B2, W0, W1, W2, W3, W4, W5, B3, W6. -/
import Derived.Test.YtkglmacaecmhdaaGreatDoorProg
import Derived.WalkKit
import Derived.WalkSpells
import Derived.WalkLawsBesides
import Derived.Lib.Hide
import Derived.RegionTactic
import Derived.Deep.Draws
import Derived.Maps.AppendAt
import Derived.Outline
import Derived.Lib.ConvBytes
import Derived.Deep.LoopGhost
import Derived.StillTailTactics
import Derived.Lib.Strings
set_option linter.unusedVariables false
set_option linter.unusedSimpArgs false
set_option maxHeartbeats 8000000
set_option maxRecDepth 100000
namespace Go.Proofs.YtkglmacaecmhdaaGreatDoor
open Go Go.RowKit Tryz
def Hd (p:Prop):Prop:=p
theorem Hd.o {p:Prop} (h:Hd p):p:=h
theorem hH {p:Prop} (h:p):Hd p:=h
def bv (b:UInt8):Value:=.int .u8 (b.toNat:Int)
def bvs (l:List UInt8):List Value:=l.map bv
theorem bvs_length (l:List UInt8):(bvs l).length=l.length:=by simp[bvs]
theorem bvs_append (a b:List UInt8):bvs (a++b)=bvs a++bvs b:=by simp[bvs]
theorem bvs_nil:bvs []=[]:=rfl
theorem bvs_cons (b:UInt8) (l:List UInt8):bvs (b::l)=bv b::bvs l:=rfl
theorem bvs_get (l:List UInt8) (i:Nat):(bvs l)[i]?=l[i]?.map bv:=by simp[bvs]
theorem bvs_one (l:List UInt8):∀u∈bvs l,u.oneCell'=true:=by
 intro u hu
 simp only[bvs,List.mem_map] at hu
 obtain⟨b,_,rfl⟩:=hu
 rfl
structure Keeps (S:List Nat) (w w':World):Prop where
 os:w'.os=w.os
 tape:w'.tape=w.tape
 output:w'.output=w.output
 size:w.heap.size≤w'.heap.size
 block:∀k,k<w.heap.size→k∉S→w'.heap[k]?=w.heap[k]?
section
variable {S S':List Nat} {w w' w'':World}
theorem Keeps.refl (S:List Nat) (w:World):Keeps S w w:=⟨rfl,rfl,rfl,Nat.le_refl _,fun _ _ _=>rfl⟩
theorem Keeps.trans (h:Keeps S w w') (k:Keeps S' w' w'') (hs:∀x∈S',x∈S∨w.heap.size≤x):Keeps S w w'':=
 ⟨k.os.trans h.os,k.tape.trans h.tape,k.output.trans h.output,Nat.le_trans h.size k.size,fun i hi hn=>
  (k.block i (Nat.lt_of_lt_of_le hi h.size) (fun hm=>by rcases hs i hm with h1|h1;exact hn h1;omega)).trans (h.block i hi hn)⟩
theorem Keeps.mono (h:Keeps S w w') (hs:∀x∈S,x∈S'∨w.heap.size≤x):Keeps S' w w':=
 ⟨h.os,h.tape,h.output,h.size,fun i hi hn=>h.block i hi (fun hm=>by rcases hs i hm with h1|h1;exact hn h1;omega)⟩
theorem Keeps.of_grown {row:Option Nat} (h:w.grownBy w' row):Keeps row.toList w w':=
 ⟨h.os,h.tape,h.output,h.size,fun i hi hn=>h.block i hi (fun e=>hn (by rw[←e];simp))⟩
theorem Keeps.alloc (w:World) (o:Obj):Keeps [] w (w.alloc o):=⟨rfl,rfl,rfl,by simp,fun k hk _=>Below.heap_alloc _ _ _ hk⟩
theorem Keeps.setCell (w:World) (p:Addr) (u:Value):Keeps [p.block] w (w.setCell p u):=
 ⟨rfl,rfl,rfl,by simp[World.setCell],fun k _ hn=>Below.heap_setCell _ _ _ _ (by simpa using hn)⟩
theorem Keeps.drew (w:World):Keeps [] w w.drew:=⟨rfl,rfl,rfl,Nat.le_refl _,fun _ _ _=>rfl⟩
theorem Keeps.drewN (w:World) (n:Nat):Keeps [] w (w.drewN n):=⟨rfl,rfl,rfl,Nat.le_refl _,fun _ _ _=>rfl⟩
theorem Keeps.cell (h:Keeps S w w') {p:Addr} (hp:p.block<w.heap.size) (hn:p.block∉S):w'.cell? p=w.cell? p:=World.cell?_of_block (w:=w) (h.block _ hp hn)
theorem Keeps.frozen (h:Keeps S w w') {p:Addr} (hp:p.block<w.heap.size) (hn:p.block∉S):w'.frozen? p=w.frozen? p:=World.frozen?_of_block (w:=w) (h.block _ hp hn)
theorem Keeps.some_ (h:Keeps S w w') {p:Addr} {u:Value} (hc:w.cell? p=some u) (hn:p.block∉S):w'.cell? p=some u:=
 (h.cell (World.block_lt_of_cell? w p hc) hn).trans hc
theorem Keeps.below (h:Keeps S w w') {B:Nat} (hB:B≤w.heap.size) (hs:∀x∈S,B≤x):Below B w w':=
 ⟨h.os,h.tape,h.output,h.size,fun k hk=>h.block k (by omega) (fun hm=>by have:=hs k hm;omega)⟩
theorem Keeps.of_below (h:Below w.heap.size w w'):Keeps [] w w':=⟨h.os,h.tape,h.output,h.size,fun k hk _=>h.block k hk⟩
end
def Blk (w:World) (g:Nat) (t:TypeId) (cs:Array Value):Prop:=w.heap[g]?=some (.cells cs t (0,0))
section
variable {w w':World} {g:Nat} {t:TypeId} {cs:Array Value} {S:List Nat}
theorem Blk.lt (h:Blk w g t cs):g<w.heap.size:=by
 unfold Blk at h
 exact(Array.getElem?_eq_some_iff.1 h).1
theorem Blk.cell (h:Blk w g t cs) (i:Nat):w.cell? ⟨g,i,none⟩=cs[i]?:=cell_of_row w g i cs t (0,0) h
theorem Blk.frozen (h:Blk w g t cs) (i:Nat):w.frozen? ⟨g,i,none⟩=false:=by
 unfold Blk at h
 simp[World.frozen?,h]
theorem Blk.new (w:World) (t:TypeId) (cs:Array Value):Blk (w.alloc (.cells cs t)) w.heap.size t cs:=heap_alloc_new w _
theorem Blk.keep (h:Blk w g t cs) (hk:Keeps S w w') (hg:g∉S):Blk w' g t cs:=(hk.block g h.lt hg).trans h
theorem Blk.alloc (h:Blk w g t cs) (o:Obj):Blk (w.alloc o) g t cs:=h.keep (Keeps.alloc w o) (by simp)
theorem Blk.drew (h:Blk w g t cs):Blk w.drew g t cs:=h
theorem Blk.drewN (h:Blk w g t cs) (n:Nat):Blk (w.drewN n) g t cs:=h
theorem Blk.set_ (h:Blk w g t cs) (i:Nat) (u:Value):Blk (w.setCell ⟨g,i,none⟩ u) g t (cs.setIfInBounds i u):=by
 unfold Blk at h ⊢
 simp[World.setCell,Array.getElem?_modify,h]
theorem Blk.far (h:Blk w g t cs) {p:Addr} (hp:g≠p.block) (u:Value):Blk (w.setCell p u) g t cs:=(Below.heap_setCell w p u g hp).trans h
theorem Blk.ne_ {g':Nat} {t':TypeId} {cs':Array Value} (h:Blk w g t cs) (h':Blk w g' t' cs') (hne:t≠t'):g≠g':=by
 rintro rfl
 unfold Blk at h h'
 rw[h] at h'
 injection h' with h'
 injection h' with _ ht
 exact hne ht
end
def Rd (w:World) (size:Nat) (A:Option Addr) (n:Nat) (xs:List Value):Prop:=
 xs.length=n*size∧(0<n→∃b o,A=some ⟨b,o,none⟩∧∀j u,xs[j]?=some u→w.cell? ⟨b,o+j,none⟩=some u)
theorem add_lit (b o n:Nat):(⟨b,o,none⟩:Addr).add n=⟨b,o+n,none⟩:=by
 unfold Addr.add
 by_cases h:n=0<;>simp[h]
section
variable {w w':World} {size n:Nat} {A:Option Addr} {xs:List Value} {S:List Nat}
theorem Rd.none_ (w:World) (size:Nat):Rd w size none 0 []:=⟨by simp,fun h=>absurd h (by omega)⟩
theorem Rd.keep (h:Rd w size A n xs) (hk:Keeps S w w') (hn:∀a,A=some a→a.block∉S):Rd w' size A n xs:=by
 refine⟨h.1,fun h0=>?_⟩
 obtain⟨b,o,rfl,hc⟩:=h.2 h0
 exact⟨b,o,rfl,fun j u hu=>hk.some_ (hc j u hu) (show b∉S from hn ⟨b,o,none⟩ rfl)⟩
theorem Rd.cut (h:Rd w 1 A n xs) {k cap:Nat} (hk:k≤n):Rd w 1 (if cap=k then A else A.map (·.add k)) (n-k) (xs.drop k)∨(cap=k∧k<n):=by
 by_cases e:cap=k
 ·by_cases hkn:k<n
  ·exact .inr ⟨e,hkn⟩
  ·left
   rw[if_pos e]
   obtain rfl:k=n:=by omega
   refine⟨by simp[h.1],fun h0=>by omega⟩
 ·left
  rw[if_neg e]
  refine⟨by simp[h.1],fun h0=>?_⟩
  obtain⟨b,o,rfl,hc⟩:=h.2 (by omega)
  refine⟨b,o+k,by simp[add_lit],fun j u hu=>?_⟩
  rw[Nat.add_assoc]
  exact hc _ u (by rw[←hu,List.getElem?_drop])
end
section
variable {P:Program} (w:World)
theorem run_append_rd (t ty e:TypeId) (i:TypeInfo) (z:Value) (size bytes:Nat) (ht:P.underlying t=some (.slice e)) (hi:P.info? e=some i) (hz:i.zero=some z)
 (hsize:i.size=size) (hby:i.bytes=bytes) (hzs:z.cells.size=size) (hsz:0<size)
 (v:Value) (n:Nat) (xs:List Value) (hown:w.ownsRow 0 e size v n xs)
 (A:Option Addr) (m c:Nat) (news:List Value) (hr:Rd w size A m news) (h1:∀u∈news,u.oneCell'=true) (hbytes:(n+m)*bytes≤140737488355328) (h63:n+m≤maxLen):
 ∃A' c' w',(Builtin.append_ #[t,t] ty #[v,.slice A m c]).run P w=.ok (.slice A' (n+m) c') w'∧w'.ownsRow 0 e size (.slice A' (n+m) c') (n+m) (xs++news)∧Keeps v.ownBlock.toList w w'∧
  (A'.map (·.block)=v.ownBlock∨A'.map (·.block)=some w.heap.size):=by
 suffices hh:∃v' w',(Builtin.append_ #[t,t] ty #[v,.slice A m c]).run P w=.ok v' w'∧w'.ownsRow 0 e size v' (n+m) (xs++news)∧Keeps v.ownBlock.toList w w'∧
  (v'.ownBlock=v.ownBlock∨v'.ownBlock=some w.heap.size) by
  obtain⟨v',w',g1,g2,g3,g4⟩:=hh
  obtain⟨A',c',rfl⟩:∃A' c',v'=.slice A' (n+m) c':=by
   rcases g2.2 with⟨rfl,h0⟩|⟨g,cap,cur,rfl,_⟩
   ·rw[h0];exact⟨_,_,rfl⟩
   ·exact⟨_,_,rfl⟩
  have e:∀(X:Option Addr) (k l:Nat),(Value.slice X k l).ownBlock=X.map (·.block):=fun X k l=>by cases X<;>rfl
  rw[e] at g4
  exact⟨A',c',w',g1,g2,g3,g4⟩
 rcases A with _|ad
 ·have hm:m=0:=by
   rcases Nat.eq_zero_or_pos m with h0|h0
   ·exact h0
   ·obtain⟨b,o,h,_⟩:=hr.2 h0
    cases h
  subst hm
  have hn:news=[]:=List.eq_nil_of_length_eq_zero (by simpa using hr.1)
  subst hn
  refine⟨v,w,?_,by simpa using hown,Keeps.refl _ w,.inl rfl⟩
  rcases hown.2 with⟨rfl,rfl⟩|⟨g,cap,cur,rfl,_,_,hnc,_⟩
  ·simp[Builtin.append_,run_underlying ht,sizeOf,typeInfo,hi,Builtin.lenOf,Builtin.firstCells]
  ·simp[Builtin.append_,run_underlying ht,sizeOf,typeInfo,hi,Builtin.lenOf,Builtin.firstCells,hnc,storeCells]
 ·have hcells:∀j u,news[j]?=some u→w.cell? (ad.add j)=some u:=by
   intro j u hu
   rcases Nat.eq_zero_or_pos m with h0|h0
   ·subst h0
    have hn:news=[]:=List.eq_nil_of_length_eq_zero (by simpa using hr.1)
    subst hn
    simp at hu
   ·obtain⟨b,o,h,hc⟩:=hr.2 h0
    injection h with h
    subst h
    rw[add_lit]
    exact hc j u hu
  obtain⟨v',w',hrun,h2,h3,_,h5⟩:=run_append_own_at (P:=P) w 0 t ty e i z size bytes ht hi hz hsize hby hzs hsz v n xs hown ad m c news hr.1 hcells h1 h63 hbytes (Nat.zero_le _)
  exact⟨v',w',hrun,h2,Keeps.of_grown h3,h5⟩
theorem wp_append_rd {o:Oper} {a:Act} {K:Act→World→Prop} {Q:Exit→Act→World→Prop} (s x:Operand) (t:TypeId)
 (ho:o.op=.call {callee:=.builtin .append,args:=#[s,x],argTypes:=#[t,t]})
 (e:TypeId) (i:TypeInfo) (z:Value) (size bytes:Nat) (ht:P.underlying t=some (.slice e)) (hi:P.info? e=some i) (hz:i.zero=some z)
 (hsize:i.size=size) (hby:i.bytes=bytes) (hzs:z.cells.size=size) (hsz:0<size)
 (v:Value) (n:Nat) (xs:List Value) (hs:a.eval s=v) (hown:w.ownsRow 0 e size v n xs)
 (A:Option Addr) (m c:Nat) (news:List Value) (hx:a.eval x=.slice A m c) (hr:Rd w size A m news) (h1:∀u∈news,u.oneCell'=true) (hbytes:(n+m)*bytes≤140737488355328) (h63:n+m≤maxLen)
 (h:∀A' c' w',w'.ownsRow 0 e size (.slice A' (n+m) c') (n+m) (xs++news)→Keeps v.ownBlock.toList w w'→(A'.map (·.block)=v.ownBlock∨A'.map (·.block)=some w.heap.size)→K (a.put o.dst (.slice A' (n+m) c')) w'):o.wp P a w K Q:=by
 obtain⟨A',c',w',hrun,h2,h3,h4⟩:=run_append_rd (P:=P) w t o.type e i z size bytes ht hi hz hsize hby hzs hsz v n xs hown A m c news hr h1 hbytes h63
 unfold Oper.wp execOp
 simp only[ho,resolve,invoke,builtin,Sem.run_bind,Sem.run_pure,Result.andThen_ok,List.map_toArray,List.map_cons,List.map_nil,hs,hx,hrun]
 exact h A' c' w' h2 h3 h4
theorem wpList_append_rd {ops:Array Oper} {rest:List Oper} {o:Oper} {a:Act} {Q:Exit→Act→World→Prop} (hgd:o.guard=none) (s x:Operand) (t:TypeId)
 (ho:o.op=.call {callee:=.builtin .append,args:=#[s,x],argTypes:=#[t,t]})
 (e:TypeId) (i:TypeInfo) (z:Value) (size bytes:Nat) (ht:P.underlying t=some (.slice e)) (hi:P.info? e=some i) (hz:i.zero=some z)
 (hsize:i.size=size) (hby:i.bytes=bytes) (hzs:z.cells.size=size) (hsz:0<size)
 (v:Value) (n:Nat) (xs:List Value) (hs:a.eval s=v) (hown:w.ownsRow 0 e size v n xs)
 (A:Option Addr) (m c:Nat) (news:List Value) (hx:a.eval x=.slice A m c) (hr:Rd w size A m news) (h1:∀u∈news,u.oneCell'=true) (hbytes:(n+m)*bytes≤140737488355328) (h63:n+m≤maxLen)
 (h:∀A' c' w',w'.ownsRow 0 e size (.slice A' (n+m) c') (n+m) (xs++news)→Keeps v.ownBlock.toList w w'→(A'.map (·.block)=v.ownBlock∨A'.map (·.block)=some w.heap.size)→wpList P ops Q rest (a.put o.dst (.slice A' (n+m) c')) w'):wpList P ops Q (o::rest) a w:=
 wpList_plain hgd fun _ hK=>wp_append_rd w s x t ho e i z size bytes ht hi hz hsize hby hzs hsz v n xs hs hown A m c news hx hr h1 hbytes h63 fun A' c' w' h2 h3 h4=>hK _ _ (h A' c' w' h2 h3 h4)
end
theorem own_slice (X:Option Addr) (k l:Nat):(Value.slice X k l).ownBlock=X.map (·.block):=by cases X<;>rfl
theorem own_rd {w:World} {e:TypeId} {size:Nat} {A:Option Addr} {n c:Nat} {xs:List Value} (h:w.ownsRow 0 e size (.slice A n c) n xs):Rd w size A n xs:=by
 rcases h.2 with⟨hv,rfl⟩|⟨g,cap,cur,hv,_⟩
 ·exact⟨h.1,fun h0=>by omega⟩
 ·injection hv with h1 h2 h3
  subst h1 h3
  refine⟨h.1,fun _=>⟨g,0,rfl,fun j u hu=>?_⟩⟩
  have:=h.cells (g:=g) rfl j u hu
  rwa [add_lit] at this
theorem own_lt {w:World} {e:TypeId} {size:Nat} {A:Option Addr} {n c:Nat} {xs:List Value} (h:w.ownsRow 0 e size (.slice A n c) n xs):∀k,A.map (·.block)=some k→k<w.heap.size:=by
 intro k hk
 exact(h.lt k (by rw[own_slice];exact hk)).2
theorem own_ne {w:World} {e t:TypeId} {size g:Nat} {v:Value} {n:Nat} {xs:List Value} {cs:Array Value} (h:w.ownsRow 0 e size v n xs) (hg:Blk w g t cs) (hne:e≠t):∀k,v.ownBlock=some k→g≠k:=by
 intro k hk
 rcases h.2 with⟨rfl,_⟩|⟨g',cap,cur,rfl,_,hh,_⟩
 ·simp[Value.ownBlock] at hk
 ·simp[Value.ownBlock] at hk
  subst hk
  exact hg.ne_ (show Blk w g' e cur from hh) (Ne.symm hne)
theorem ownsRow_keep {w w':World} {e:TypeId} {size:Nat} {v:Value} {n:Nat} {xs:List Value} {S:List Nat} (h:w.ownsRow 0 e size v n xs) (hk:Keeps S w w') (hn:∀k,v.ownBlock=some k→k∉S):w'.ownsRow 0 e size v n xs:=by
 refine⟨h.1,?_⟩
 rcases h.2 with hn'|⟨g,cap,cur,rfl,hb,hgg,rest⟩
 ·exact .inl hn'
 ·refine .inr ⟨g,cap,cur,rfl,hb,?_,rest⟩
  rw[hk.block g (Array.getElem?_eq_some_iff.1 hgg).1 (hn g rfl)]
  exact hgg
def Buf (w:World) (bb:Nat) (d:Option Nat) (bs:List UInt8):Prop:=
 ∃A c,Blk w bb 111 #[.slice A bs.length c]∧w.ownsRow 0 5 1 (.slice A bs.length c) bs.length (bvs bs)∧A.map (·.block)=d
theorem Buf.keep {w w':World} {bb:Nat} {d:Option Nat} {bs:List UInt8} {S:List Nat} (h:Buf w bb d bs) (hk:Keeps S w w') (hb:bb∉S) (hd:∀k,d=some k→k∉S):Buf w' bb d bs:=by
 obtain⟨A,c,h1,h2,h3⟩:=h
 exact⟨A,c,h1.keep hk hb,ownsRow_keep h2 hk (by rw[own_slice,h3];exact hd),h3⟩
theorem Buf.lt {w:World} {bb:Nat} {d:Option Nat} {bs:List UInt8} (h:Buf w bb d bs):bb<w.heap.size:=by
 obtain⟨A,c,h1,h2,h3⟩:=h
 exact h1.lt
theorem Buf.dlt {w:World} {bb:Nat} {d:Option Nat} {bs:List UInt8} (h:Buf w bb d bs):∀k,d=some k→k<w.heap.size:=by
 obtain⟨A,c,h1,h2,h3⟩:=h
 rw[←h3]
 exact own_lt h2
theorem Buf.dne {w:World} {bb:Nat} {d:Option Nat} {bs:List UInt8} (h:Buf w bb d bs):∀k,d=some k→bb≠k:=by
 obtain⟨A,c,h1,h2,h3⟩:=h
 intro k hk
 exact own_ne h2 h1 (by decide) k (by rw[own_slice,h3];exact hk)
theorem Buf.new (w:World):Buf (w.alloc (.cells #[.slice none 0 0] 111)) w.heap.size none []:=
 ⟨none,0,Blk.new _ _ _,World.ownsRow_nil _ _ _ _,rfl⟩
structure BufAt (w:World) (bb:Nat) (d d':Option Nat) (bs:List UInt8) (w':World):Prop where
 buf:Buf w' bb d' bs
 keeps:Keeps (bb::d.toList) w w'
 fresh:d'=d∨∃k,d'=some k∧w.heap.size≤k
def BufTo (w:World) (bb:Nat) (d:Option Nat) (bs:List UInt8) (w':World):Prop:=∃d',BufAt w bb d d' bs w'
theorem BufAt.refl {w:World} {bb:Nat} {d:Option Nat} {bs:List UInt8} (h:Buf w bb d bs):BufAt w bb d d bs w:=⟨h,Keeps.refl _ _,.inl rfl⟩
theorem BufAt.trans {w w1 w2:World} {bb:Nat} {d d1 d2:Option Nat} {bs1 bs2:List UInt8} (h:BufAt w bb d d1 bs1 w1) (k:BufAt w1 bb d1 d2 bs2 w2):BufAt w bb d d2 bs2 w2:=by
 have hz:=h.keeps.size
 refine⟨k.buf,h.keeps.trans k.keeps ?_,?_⟩
 ·intro x hx
  rcases List.mem_cons.1 hx with rfl|hx
  ·exact .inl (by simp)
  ·rcases h.fresh with rfl|⟨j,rfl,hj⟩
   ·exact .inl (by simp at hx;simp[hx])
   ·simp at hx;subst hx;exact .inr hj
 ·rcases k.fresh with rfl|⟨j,rfl,hj⟩
  ·exact h.fresh
  ·exact .inr ⟨j,rfl,by omega⟩
theorem BufAt.pre {w w1 w2:World} {bb:Nat} {d d2:Option Nat} {bs2:List UInt8} (h:Keeps [] w w1) (k:BufAt w1 bb d d2 bs2 w2):BufAt w bb d d2 bs2 w2:=
 ⟨k.buf,(h.mono (by simp)).trans k.keeps (fun x hx=>.inl hx),k.fresh.imp id fun ⟨j,h1,h2⟩=>⟨j,h1,Nat.le_trans h.size h2⟩⟩
theorem BufAt.post {w w1 w2:World} {bb:Nat} {d d2:Option Nat} {bs2:List UInt8} (k:BufAt w bb d d2 bs2 w1) (h:Keeps [] w1 w2):BufAt w bb d d2 bs2 w2:=
 ⟨k.buf.keep h (by simp) (by simp),k.keeps.trans h (by simp),k.fresh⟩
theorem bufTo_of {w w1:World} {bb:Nat} {d:Option Nat} {bs:List UInt8} {A1:Option Addr} {n1 c1:Nat} {u:Value} (hb:Blk w bb 111 #[u]) (h1:n1=bs.length)
 (ho1:w1.ownsRow 0 5 1 (.slice A1 n1 c1) n1 (bvs bs)) (hk1:Keeps d.toList w w1) (hd1:A1.map (·.block)=d∨∃k,A1.map (·.block)=some k∧w.heap.size≤k) (hdn:∀k,d=some k→bb≠k):
 BufTo w bb d bs (w1.setCell ⟨bb,0,none⟩ (.slice A1 n1 c1)):=by
 subst h1
 have hb1:Blk w1 bb 111 #[u]:=hb.keep hk1 (by cases hd:d with|none=>simp|some k=>simpa using hdn k hd)
 have hs:=Keeps.setCell w1 ⟨bb,0,none⟩ (.slice A1 bs.length c1)
 refine⟨A1.map (·.block),⟨⟨A1,c1,hb1.set_ 0 _,ownsRow_keep ho1 hs ?_,rfl⟩,(hk1.mono (by simp;intro a h;exact .inl (.inr h))).trans hs (by simp),hd1⟩⟩
 intro k hk
 rw[own_slice] at hk
 have:=own_ne ho1 hb1 (by decide) k (by rw[own_slice];exact hk)
 simp
 exact fun e=>this e.symm
theorem rd_blk {w:World} {g:Nat} {t:TypeId} {cs:Array Value} (h:Blk w g t cs) (size n:Nat) (hs:cs.size=n*size):Rd w size (some ⟨g,0,none⟩) n cs.toList:=
 ⟨by simpa using hs,fun _=>⟨g,0,rfl,fun j u hj=>by rw[Nat.zero_add,h.cell];simpa using hj⟩⟩
theorem own_blk {w:World} {g:Nat} {t:TypeId} {cs:Array Value} (h:Blk w g t cs) (size n cap:Nat) (hs:cs.size=cap*size) (hn:n≤cap) (hm:cap≤maxLen):
 w.ownsRow 0 t size (.slice (some ⟨g,0,none⟩) n cap) n (cs.toList.take (n*size)):=by
 refine⟨?_,.inr ⟨g,cap,cs,rfl,Nat.zero_le _,h,hn,hm,hs,rfl⟩⟩
 rw[List.length_take,Array.length_toList,hs]
 exact Nat.min_eq_left (Nat.mul_le_mul_right _ hn)
theorem rd_new (w:World) (t:TypeId) (cs:Array Value) (size n:Nat) (hs:cs.size=n*size):Rd (w.alloc (.cells cs t)) size (some ⟨w.heap.size,0,none⟩) n cs.toList:=
 rd_blk (Blk.new w t cs) size n hs
def be2 (n:Nat):List UInt8:=[UInt8.ofNat (n / 256),UInt8.ofNat n]
def be4 (n:Nat):List UInt8:=[UInt8.ofNat (n / 16777216),UInt8.ofNat (n / 65536),UInt8.ofNat (n / 256),UInt8.ofNat n]
def vlen (n:Nat):List UInt8:=if h:n<128 then[UInt8.ofNat n] else UInt8.ofNat (n % 128+128)::vlen (n / 128)
termination_by n
decreasing_by omega
theorem vlen_lo {n:Nat} (h:n<128):vlen n=[UInt8.ofNat n]:=by rw[vlen,dif_pos h]
theorem vlen_hi {n:Nat} (h:128≤n):vlen n=UInt8.ofNat (n % 128+128)::vlen (n / 128):=by rw[vlen,dif_neg (by omega)]
theorem bv_ofNat (n:Nat):bv (UInt8.ofNat n)=.int .u8 ((n % 256:Nat):Int):=by simp[bv,UInt8.toNat_ofNat']
theorem bv_ofNat_lt {n:Nat} (h:n<256):bv (UInt8.ofNat n)=.int .u8 (n:Int):=by rw[bv_ofNat,Nat.mod_eq_of_lt h]
theorem vlen_pos (n:Nat):0<(vlen n).length:=by
 rw[vlen];split<;>simp
theorem vlen_le (n:Nat) (h:n<268435456):(vlen n).length≤4:=by
 rw[vlen];split
 ·simp
 ·rw[vlen];split
  ·simp
  ·rw[vlen];split
   ·simp
   ·rw[vlen_lo (by omega)];simp
def lp (l:List UInt8):List UInt8:=be2 l.length++l
theorem be2_length (n:Nat):(be2 n).length=2:=rfl
theorem be4_length (n:Nat):(be4 n).length=4:=rfl
theorem lp_length (l:List UInt8):(lp l).length=2+l.length:=by simp[lp,be2];omega
def NewBytes (w:World) (ys:List UInt8) (e:Ending) (w':World):Prop:=
 ∃A c,e=.returned (.slice A ys.length c)∧Rd w' 1 A ys.length (bvs ys)∧Keeps [] w w'∧∀a,A=some a→w.heap.size≤a.block∧a.block<w'.heap.size
def bit (b:Bool):Nat:=if b then 1 else 0
theorem bit_lt (b:Bool):bit b<2:=by cases b<;>decide
def vl:Nat→List Int
 |1=>[3,99]|2=>[3,99]|3=>[3,99]|8=>[3,99]|9=>[3,99]
 |11=>[3,8]
 |17=>[1,2,14]
 |18=>[2]|19=>[2]
 |21=>[1,2,15]|22=>[1,2,15]
 |23=>[1]
 |24=>[99]
 |25=>[1]
 |26=>[2]
 |28=>[2,14]
 |31=>[2,4,5,6,7,9,11,14,15]
 |33=>[1,2]|34=>[1,2]
 |35=>[3]
 |36=>[2]|37=>[2]
 |38=>[1,2,3,4,5,6,7,8,9,10,11,14,15,99]
 |39=>[1,2]
 |40=>[2]|41=>[2]|42=>[2]
 |_=>[]
def vpp (k:Nat) (pkt:Int):Bool:=(vl k).contains pkt
def ids:List Nat:=[1,2,3,8,9,11,17,18,19,21,22,23,24,25,26,28,31,33,34,35,36,37,38,39,40,41,42]
theorem info5:(prog.info? 5).map (fun i=>(i.zero,i.size,i.bytes))=some (some (.int .u8 0),1,1):=by kernel_rfl
theorem write_c (w:World) (bb:Nat) (d:Option Nat) (bs ys:List UInt8) (A:Option Addr) (n c:Nat) (hB:Buf w bb d bs) (hr:Rd w 1 A n (bvs ys)) (hlen:bs.length+n≤1099511627776):
 Calls prog 80 #[.pointer (some ⟨bb,0,none⟩),.slice A n c] w fun e w'=>e=.returned (.tuple #[.int .i64 n,.nilIface])∧BufTo w bb d (bs++ys) w':=by
 obtain⟨i0,hi0,hz0,hz1,hz2⟩:=info_parts info5
 have hdn:=hB.dne
 obtain⟨A0,c0,hb,ho,hd⟩:=hB
 have hc:w.cell? ⟨bb,0,none⟩=some (.slice A0 bs.length c0):=by rw[hb.cell];rfl
 go_enter func80,ntmps80
 go_wp2_with (at_builtin;refine wpList_append_rd _ rfl (.tmp 10) (.tmp 11) 22 rfl 5 i0 _ 1 1 underlying22 hi0 hz0 hz1 hz2 rfl (by decide) (.slice A0 bs.length c0) bs.length (bvs bs) rfl ho A n c (bvs ys) rfl hr (bvs_one _) (by omega) (by unfold maxLen;omega) ?_;intro A1 c1 w1 ho1 hk1 hd1;have hb1:=hb.keep hk1 (by rw[own_slice,hd];cases hd:d with|none=>simp|some k=>simpa using hdn k hd);have hc1:w1.cell? ⟨bb,0,none⟩=some (.slice A0 bs.length c0):=(by rw[hb1.cell];rfl);have hf1:w1.frozen? ⟨bb,0,none⟩=false:=hb1.frozen 0)
 go_ret2
 have hl:bs.length+n=(bs++ys).length:=by have:=hr.1;rw[bvs_length] at this;simp;omega
 rw[own_slice,hd] at hk1 hd1
 refine⟨rfl,bufTo_of hb hl ?_ hk1 ?_ hdn⟩
 ·rw[bvs_append];exact ho1
 ·rcases hd1 with h|h
  ·exact .inl h
  ·exact .inr ⟨_,h,Nat.le_refl _⟩
theorem writeByte_c (w:World) (bb:Nat) (d:Option Nat) (bs:List UInt8) (b:UInt8) (x:Int) (hx:(b.toNat:Int)=x) (hB:Buf w bb d bs) (hlen:bs.length≤1099511627776):
 Calls prog 82 #[.pointer (some ⟨bb,0,none⟩),.int .u8 x] w fun e w'=>e=.returned .nilIface∧BufTo w bb d (bs++[b]) w':=by
 obtain⟨i0,hi0,hz0,hz1,hz2⟩:=info_parts info5
 have hdn:=hB.dne
 have hBlt:=hB.lt
 have hdlt:=hB.dlt
 obtain⟨A0,c0,hb,ho,hd⟩:=hB
 have hc:w.cell? ⟨bb,0,none⟩=some (.slice A0 bs.length c0):=by rw[hb.cell];rfl
 have ho0:(w.alloc (.cells #[.int .u8 x] 5)).ownsRow 0 5 1 (.slice A0 bs.length c0) bs.length (bvs bs):=ho.alloc _
 have hr0:Rd (w.alloc (.cells #[.int .u8 x] 5)) 1 (some ⟨w.heap.size,0,none⟩) 1 [.int .u8 x]:=rd_new w 5 #[.int .u8 x] 1 1 rfl
 go_enter func82,ntmps82
 go_wp2_with (at_builtin;refine wpList_append_rd _ rfl (.tmp 9) (.tmp 11) 22 rfl 5 i0 _ 1 1 underlying22 hi0 hz0 hz1 hz2 rfl (by decide) (.slice A0 bs.length c0) bs.length (bvs bs) rfl ho0 _ 1 1 _ rfl hr0 (by intro u hu;simp at hu;subst hu;rfl) (by omega) (by unfold maxLen;omega) ?_;intro A1 c1 w1 ho1 hk1 hd1;have hb1:=(hb.alloc (.cells #[.int .u8 x] 5)).keep hk1 (by rw[own_slice,hd];cases hd:d with|none=>simp|some k=>simpa using hdn k hd);have hc1:w1.cell? ⟨bb,0,none⟩=some (.slice A0 bs.length c0):=(by rw[hb1.cell];rfl);have hf1:w1.frozen? ⟨bb,0,none⟩=false:=hb1.frozen 0)
 go_ret
 have hl:bs.length+1=(bs++[b]).length:=by simp
 rw[own_slice,hd] at hk1 hd1
 refine⟨rfl,bufTo_of hb hl ?_ (((Keeps.alloc w _).mono (by simp)).trans hk1 (fun k h=>.inl h)) ?_ hdn⟩
 ·rw[bvs_append];rw[←hx] at ho1;exact ho1
 ·rcases hd1 with h|h
  ·exact .inl h
  ·exact .inr ⟨_,h,by simp⟩
theorem bytes_c (w:World) (bb:Nat) (d:Option Nat) (bs:List UInt8) (hB:Buf w bb d bs):
 Calls prog 60 #[.pointer (some ⟨bb,0,none⟩)] w fun e w'=>w=w'∧∃A c,e=.returned (.slice A bs.length c)∧Rd w 1 A bs.length (bvs bs)∧A.map (·.block)=d:=by
 obtain⟨A0,c0,hb,ho,hd⟩:=hB
 have hc:w.cell? ⟨bb,0,none⟩=some (.slice A0 bs.length c0):=by rw[hb.cell];rfl
 go_enter func60,ntmps60
 go_wp2
 go_ret
 exact⟨rfl,A0,c0,rfl,own_rd ho,hd⟩
theorem len_c (w:World) (bb:Nat) (d:Option Nat) (bs:List UInt8) (hB:Buf w bb d bs):
 Calls prog 87 #[.pointer (some ⟨bb,0,none⟩)] w fun e w'=>w=w'∧e=.returned (.int .i64 bs.length):=by
 obtain⟨A0,c0,hb,ho,hd⟩:=hB
 have hc:w.cell? ⟨bb,0,none⟩=some (.slice A0 bs.length c0):=by rw[hb.cell];rfl
 go_enter func87,ntmps87
 go_wp2
 go_ret
 exact⟨rfl,rfl⟩
theorem bvs_be2 {n:Nat} (hn:n<65536):bvs (be2 n)=[.int .u8 ((n:Int) / 256),.int .u8 ((n:Int) % 256)]:=by
 simp only[be2,bvs_cons,bvs_nil,bv_ofNat,Nat.mod_eq_of_lt (show n / 256<256 by omega)]
 rfl
theorem bvs_be4 {n:Nat} (hn:n<4294967296):bvs (be4 n)=[.int .u8 ((n:Int) / 16777216),.int .u8 ((n:Int) / 65536 % 256),.int .u8 ((n:Int) / 256 % 256),.int .u8 ((n:Int) % 256)]:=by
 simp only[be4,bvs_cons,bvs_nil,bv_ofNat,Nat.mod_eq_of_lt (show n / 16777216<256 by omega)]
 rfl
theorem newBytes_of (w:World) (ys:List UInt8) (cs:Array Value) (h:cs.toList=bvs ys):NewBytes w ys (.returned (.slice (some ⟨w.heap.size,0,none⟩) ys.length ys.length)) (w.alloc (.cells cs 5)):=by
 have hs:cs.size=ys.length*1:=by rw[←Array.length_toList,h,bvs_length];omega
 refine⟨_,_,rfl,h▸rd_new w 5 cs 1 _ hs,Keeps.alloc w _,fun a ha=>?_⟩
 injection ha with ha
 subst ha
 simp
theorem encodeUint16_c (w:World) (n:Nat) (hn:n<65536):
 Calls prog 84 #[.int .u16 (n:Int)] w (NewBytes w (be2 n)):=by
 have hmk:∀w,(Instr.makeSlice 22 (.int .i64 2) (.int .i64 2)).run prog w=.ok (.slice (some ⟨w.heap.size,0,none⟩) 2 2) (w.alloc (.cells #[.int .u8 0,.int .u8 0] 5)):=fun _=>by kernel_rfl
 go_enter func84,ntmps84
 go_wp2
 go_end0
 go_wp2
 go_ret
 exact newBytes_of w (be2 n) _ (bvs_be2 hn).symm
theorem encodeUint32_c (w:World) (n:Nat) (hn:n<4294967296):
 Calls prog 103 #[.int .u32 (n:Int)] w (NewBytes w (be4 n)):=by
 have hmk:∀w,(Instr.makeSlice 22 (.int .i64 4) (.int .i64 4)).run prog w=.ok (.slice (some ⟨w.heap.size,0,none⟩) 4 4) (w.alloc (.cells #[.int .u8 0,.int .u8 0,.int .u8 0,.int .u8 0] 5)):=fun _=>by kernel_rfl
 go_enter func103,ntmps103
 go_wp2
 go_end0
 go_wp2
 go_ret
 exact newBytes_of w (be4 n) _ (bvs_be4 hn).symm
theorem bePut16_c (w:World) (g c:Nat) (cs:Array Value) (n:Nat) (hn:n<65536) (hb:Blk w g 5 cs) (h2:2≤cs.size):
 Calls prog 101 #[.slice (some ⟨g,0,none⟩) 2 c,.int .u16 (n:Int)] w fun e w'=>e=.returned (.tuple #[])∧
  (w.setCell ⟨g,0,none⟩ (.int .u8 ((n:Int) / 256))).setCell ⟨g,1,none⟩ (.int .u8 ((n:Int) % 256))=w':=by
 have h0:w.cell? ⟨g,0,none⟩=some cs[0]:=by rw[hb.cell,Array.getElem?_eq_getElem]
 have h1:w.cell? ⟨g,1,none⟩=some cs[1]:=by rw[hb.cell,Array.getElem?_eq_getElem]
 have f0:w.frozen? ⟨g,0,none⟩=false:=hb.frozen 0
 have f1:w.frozen? ⟨g,1,none⟩=false:=hb.frozen 1
 generalize cs[0]=v0 at h0
 generalize cs[1]=v1 at h1
 go_enter func101,ntmps101
 go_wp2
 go_end0
 exact⟨rfl,rfl⟩
def room32:Array Value:=Array.replicate 32 (.int .u8 0)
theorem room32_own (w w1:World) (n:Nat) (hn:n<65536) (h:((w.alloc (.cells room32 5)).setCell ⟨w.heap.size,0,none⟩ (.int .u8 ((n:Int) / 256))).setCell ⟨w.heap.size,1,none⟩ (.int .u8 ((n:Int) % 256))=w1):
 w1.ownsRow 0 5 1 (.slice (some ⟨w.heap.size,0,none⟩) 2 32) 2 (bvs (be2 n))∧Keeps [] w w1:=by
 subst h
 have hb:=((Blk.new w 5 room32).set_ 0 (.int .u8 ((n:Int) / 256))).set_ 1 (.int .u8 ((n:Int) % 256))
 refine⟨?_,?_⟩
 ·have:=own_blk hb 1 2 32 (by simp[room32]) (by omega) (by unfold maxLen;omega)
  rw[bvs_be2 hn]
  exact this
 ·exact((Keeps.alloc w _).trans (Keeps.setCell _ _ _) (by simp)).trans (Keeps.setCell _ _ _) (by simp)
theorem lp_end {w w1 w2:World} {ys:List UInt8} {n:Nat} {A:Option Addr} {c:Nat} (hk:Keeps [] w w1) (hn:n=ys.length) (ho:w2.ownsRow 0 5 1 (.slice A (2+n) c) (2+n) (bvs (be2 n)++bvs ys))
 (hk1:Keeps [w.heap.size] w1 w2) (hd1:A.map (·.block)=some w.heap.size∨∃k,A.map (·.block)=some k∧w.heap.size≤k):NewBytes w (lp ys) (.returned (.slice A (2+n) c)) w2:=by
 subst hn
 have hl:2+ys.length=(lp ys).length:=(lp_length ys).symm
 rw[hl] at ho ⊢
 refine⟨A,c,rfl,?_,hk.trans hk1 (by simp),fun a ha=>?_⟩
 ·rw[←bvs_append] at ho;exact own_rd ho
 ·have h1:=own_lt ho a.block (by rw[ha];rfl)
  subst ha
  refine⟨?_,h1⟩
  rcases hd1 with h|⟨k,h,hk'⟩
  ·simp at h;omega
  ·simp at h;omega
theorem encodeBytes_c (w:World) (A:Option Addr) (n c:Nat) (ys:List UInt8) (hr:Rd w 1 A n (bvs ys)) (hA:∀a,A=some a→a.block<w.heap.size) (hn:n<65536):
 Calls prog 81 #[.slice A n c] w (NewBytes w (lp ys)):=by
 have hmk:∀w,(Instr.makeSlice 22 (.int .i64 2) (.int .i64 32)).run prog w=.ok (.slice (some ⟨w.heap.size,0,none⟩) 2 32) (w.alloc (.cells room32 5)):=fun _=>by kernel_rfl
 obtain⟨i0,hi0,hz0,hz1,hz2⟩:=info_parts info5
 go_enter func81,ntmps81
 go_wp2_with (first|(go_at_call 101;refine(bePut16_c _ _ _ room32 n hn (Blk.new w 5 room32) (by decide)).mono ?_;rintro e w1 ⟨rfl,hw1⟩;have ho:=room32_own w w1 n hn hw1;have hk:=ho.2;have ho:=ho.1;clear hw1;have hr1:=hr.keep hk (by simp))|(at_builtin;refine wpList_append_rd _ rfl (.tmp 10) (.tmp 11) 22 rfl 5 i0 _ 1 1 underlying22 hi0 hz0 hz1 hz2 rfl (by decide) _ 2 _ rfl ho A n c (bvs ys) rfl hr1 (bvs_one _) (by omega) (by unfold maxLen;omega) ?_;intro A1 c1 w2 ho1 hk1 hd1))
 go_ret
 refine lp_end hk ?_ ho1 hk1 (hd1.imp id (fun h=>⟨_,h,hk.size⟩))
 have:=hr.1
 rw[bvs_length] at this
 omega
theorem tl_len (s:ByteArray):s.data.toList.length=s.size:=by simp
theorem keeps_bytesWorld (w:World) (e:TypeId) (s:ByteArray):Keeps [] w (Lib.bytesWorld w e s):=by
 have h:(Lib.bytesWorld w e s).os=w.os∧(Lib.bytesWorld w e s).tape=w.tape∧(Lib.bytesWorld w e s).output=w.output:=by
  unfold Lib.bytesWorld World.freeze
  exact⟨rfl,rfl,rfl⟩
 exact⟨h.1,h.2.1,h.2.2,by rw[Lib.bytesWorld_size];omega,fun k hk _=>Lib.bytesWorld_at_old w e s k hk⟩
theorem rd_bytesWorld (w:World) (s:ByteArray):Rd (Lib.bytesWorld w 5 s) 1 (some ⟨w.heap.size,0,none⟩) s.size (bvs s.data.toList):=by
 refine⟨by rw[bvs_length,tl_len];omega,fun _=>⟨_,_,rfl,fun j u hu=>?_⟩⟩
 rw[bvs_get] at hu
 obtain⟨b,hb,rfl⟩:=Option.map_eq_some_iff.1 hu
 have hj:j<s.size:=by
  have:=(List.getElem?_eq_some_iff.1 hb).1
  rwa [tl_len] at this
 rw[Nat.zero_add,Lib.bytesWorld_cell w 5 s j hj]
 simp only[List.getD,hb]
 rfl
theorem encodeString_c (w:World) (s:ByteArray) (hn:s.size<65536):
 Calls prog 86 #[.string s] w (NewBytes w (lp s.data.toList)):=by
 have hmk:∀w,(Instr.makeSlice 22 (.int .i64 2) (.int .i64 32)).run prog w=.ok (.slice (some ⟨w.heap.size,0,none⟩) 2 32) (w.alloc (.cells room32 5)):=fun _=>by kernel_rfl
 have hcv:=fun w=>Lib.run_convert_string_bytes (P:=prog) w 9 22 5 s underlying9 underlying22 underlying5
 obtain⟨i0,hi0,hz0,hz1,hz2⟩:=info_parts info5
 go_enter func86,ntmps86
 go_wp2_with (first|(go_at_call 101;refine(bePut16_c _ _ _ room32 s.size hn (Blk.new w 5 room32) (by decide)).mono ?_;rintro e w1 ⟨rfl,hw1⟩;have ho:=room32_own w w1 s.size hn hw1;have hk:=ho.2;have ho:=ho.1;clear hw1)|(at_builtin;refine wpList_append_rd _ rfl (.tmp 10) (.tmp 12) 22 rfl 5 i0 _ 1 1 underlying22 hi0 hz0 hz1 hz2 rfl (by decide) (.slice (some ⟨w.heap.size,0,none⟩) 2 32) 2 _ rfl (ownsRow_keep ho (keeps_bytesWorld w1 5 s) (by simp)) _ s.size _ (bvs s.data.toList) rfl (rd_bytesWorld w1 s) (bvs_one _) (by omega) (by unfold maxLen;omega) ?_;intro A1 c1 w2 ho1 hk1 hd1))
 go_ret
 have hz:=(keeps_bytesWorld w1 5 s).size
 have hz':=hk.size
 refine lp_end hk (tl_len s).symm ho1 ((Keeps.mono (keeps_bytesWorld w1 5 s) (by simp)).trans hk1 ?_) (hd1.imp id (fun h=>⟨_,h,by omega⟩))
 intro x hx
 exact .inl hx
theorem encodeBool_c (w:World) (b:Bool):Calls prog 83 #[.bool b] w fun e w'=>e=.returned (.int .u8 (if b then 1 else 0))∧w=w':=by
 cases b
 all_goals
  go_enter func83,ntmps83
  go_wp2
  go_ret
  exact⟨rfl,rfl⟩
theorem encodeBool_b (w:World) (b:Bool):Calls prog 83 #[.bool b] w fun e w'=>e=.returned (.int .u8 ((bit b:Nat):Int))∧w=w':=
 (encodeBool_c w b).mono fun _ _ h=>⟨by rw[h.1];cases b<;>rfl,h.2⟩
theorem ofNat_hi (n:Nat):((UInt8.ofNat (n % 128+128)).toNat:Int)=(n:Int) % 128+128:=by
 rw[UInt8.toNat_ofNat'];omega
theorem ofNat_lo {n:Nat} (h:n<128):((UInt8.ofNat n).toNat:Int)=(n:Int):=by
 rw[UInt8.toNat_ofNat'];omega
theorem or128 (m:Nat) (h:m<128):bits .or .u8 (m:Int) 128=((m+128:Nat):Int):=by
 have:∀x:Fin 128,bits .or .u8 ((x.val:Nat):Int) 128=((x.val+128:Nat):Int):=by decide
 exact this ⟨m,h⟩
def LenRel (w:World) (bb:Nat) (d:Option Nat) (all:List UInt8) (g:Nat) (s:Value) (wr:World):Prop:=
 ∃m d' bs',s=.int .i64 ((m:Nat):Int)∧m<g∧m<4294967296∧BufAt w bb d d' bs' wr∧bs'++vlen m=all
theorem encodeLength_c (w:World) (bb:Nat) (d:Option Nat) (bs:List UInt8) (n:Nat) (hn:n<268435456) (hB:Buf w bb d bs) (hlen:bs.length≤1099511627776-100):
 Calls prog 105 #[.pointer (some ⟨bb,0,none⟩),.int .i64 (n:Int)] w fun e w'=>e=.returned (.tuple #[])∧BufTo w bb d (bs++vlen n) w':=by
 go_enter func105,ntmps105
 go_wp2
 go_loopg [1] (n+1) (fun gk s wr=>LenRel w bb d (bs++vlen n) gk s wr)
 case atStart=>exact⟨n,d,bs,rfl,by omega,by omega,BufAt.refl hB,rfl⟩
 case round=>
  obtain⟨m,d',bs',rfl,hg,hm,hB',hall⟩:=hrel
  have hl:bs'.length≤1099511627776:=by
   have h1:=congrArg List.length hall
   have h2:=vlen_le n hn
   simp only[List.length_append] at h1
   omega
  have hstep:∀{d'':Option Nat} {w'':World} {b:UInt8},BufAt wr bb d' d'' (bs'++[b]) w''→BufAt w bb d d'' (bs'++[b]) w'':=fun h=>hB'.trans h
  by_cases h128:m<128
  ·have hv:bs'++[UInt8.ofNat m]=bs++vlen n:=by rw[←hall,vlen_lo (n:=m) h128]
   have HV:=hH hv
   clear hall hv
   have e1:((m:Int) % 128)=m:=by omega
   have e2:((m:Int) / 128)=0:=by omega
   go_wp2_with (go_at_call 82;refine(writeByte_c _ _ _ _ (UInt8.ofNat m) _ (ofNat_lo h128) hB'.buf hl).mono ?_;rintro e w1 ⟨rfl,d1,hB1⟩)
   go_end0
   exact⟨rfl,d1,HV.o▸hstep hB1⟩
  ·have hv:(bs'++[UInt8.ofNat (m % 128+128)])++vlen (m / 128)=bs++vlen n:=by rw[←hall,vlen_hi (n:=m) (by omega),List.append_assoc];rfl
   have HV:=hH hv
   clear hall hv
   have e1:bits .or .u8 ((m:Int) % 128) 128=(m:Int) % 128+128:=by have:=or128 (m % 128) (by omega);simpa using this
   obtain⟨g',rfl⟩:∃g',gk=g'+1:=⟨gk-1,by omega⟩
   go_wp2_with (go_at_call 82;refine(writeByte_c _ _ _ _ (UInt8.ofNat (m % 128+128)) _ (ofNat_hi m) hB'.buf hl).mono ?_;rintro e w1 ⟨rfl,d1,hB1⟩)
   go_roundg g'
   case measure=>omega
   case rel=>exact⟨m / 128,d1,_,by go_num,by omega,by omega,hstep hB1,HV.o⟩
theorem ret_bool {a b:Bool} (h:a=b):Ending.returned (.bool a)=.returned (.bool b):=by rw[h]
theorem vpp_c (w:World) (k:Nat) (x pkt:Int) (hx:(k:Int)=x) (hk:k∈ids):
 Calls prog 107 #[.int .u8 x,.int .u8 pkt] w fun e w'=>e=.returned (.bool (vpp k pkt))∧w=w':=by
 simp only[ids,List.mem_cons,List.not_mem_nil,or_false] at hk
 rcases hk with rfl|rfl|rfl|rfl|rfl|rfl|rfl|rfl|rfl|rfl|rfl|rfl|rfl|rfl|rfl|rfl|rfl|rfl|rfl|rfl|rfl|rfl|rfl|rfl|rfl|rfl|rfl
 all_goals
  replace hx:=hx.symm
  simp only[Int.cast_ofNat_Int] at hx
  subst hx
  go_enter func107,ntmps107
  go_wp2
  all_goals
   go_ret
   refine⟨ret_bool ?_,rfl⟩
   simp only[vpp,vl,List.contains_cons,List.contains_nil, *,Bool.true_or,Bool.false_or,Bool.or_true,Bool.or_false]
theorem canEncode_c (w:World) (v:Value) (k:Nat) (x pkt:Int) (hx:(k:Int)=x) (hk:k∈ids):
 Calls prog 102 #[v,.int .u8 pkt,.int .u8 x] w fun e w'=>e=.returned (.bool (vpp k pkt))∧w=w':=by
 go_enter func102,ntmps102
 go_wp2_with (go_at_call 107;refine(vpp_c _ k x pkt hx hk).mono ?_;rintro e w' ⟨rfl,rfl⟩)
 go_ret
 exact⟨rfl,rfl⟩
theorem ce {w:World} {v:Value} {x pkt:Int} (k:Nat) {K:Ending→World→Prop} (h:K (.returned (.bool (vpp k pkt))) w) (hx:(k:Int)=x:=by rfl) (hk:k∈ids:=by decide):Calls prog 102 #[v,.int .u8 pkt,.int .u8 x] w K:=
 (canEncode_c w v k x pkt hx hk).mono (by rintro _ _ ⟨rfl,rfl⟩;exact h)
theorem calls_same {P:Program} {f:FuncId} {args:Array Value} {w:World} {v:Value} (h:Calls P f args w fun e w'=>e=.returned v∧w=w'):Calls P f args w fun e w'=>e=.returned v∧w'=w:=
 h.mono fun _ _ h=>⟨h.1,h.2.symm⟩
def hdrB (t q:Nat) (dup ret:Bool):UInt8:=UInt8.ofNat (t*16+(if dup then 8 else 0)+q*2+(if ret then 1 else 0))
theorem hdr_bits (t q:Nat) (dup ret:Bool) (x y:Int) (ht:t<16) (hq:q<4) (hx:x=if dup then 8 else 0) (hy:y=if ret then 1 else 0):
 ((hdrB t q dup ret).toNat:Int)=bits .or .u8 (bits .or .u8 (bits .or .u8 ((t:Int)*16) x) ((q:Int)*2)) y:=by
 have:∀(t:Fin 16) (q:Fin 4) (dup ret:Bool),((hdrB t.val q.val dup ret).toNat:Int)=
  bits .or .u8 (bits .or .u8 (bits .or .u8 ((t.val:Int)*16) (if dup then 8 else 0)) ((q.val:Int)*2)) (if ret then 1 else 0):=by decide+kernel
 subst hx hy
 exact this ⟨t,ht⟩ ⟨q,hq⟩ dup ret
theorem header_c (w:World) (g o bb:Nat) (d:Option Nat) (bs:List UInt8) (t q r:Nat) (dup ret:Bool) (ht:t<16) (hq:q<4) (hr:r<268435456)
 (c0:w.cell? ⟨g,o,none⟩=some (.int .i64 (r:Int))) (c1:w.cell? ⟨g,o+1,none⟩=some (.int .u8 (t:Int))) (c2:w.cell? ⟨g,o+2,none⟩=some (.int .u8 (q:Int)))
 (c3:w.cell? ⟨g,o+3,none⟩=some (.bool dup)) (c4:w.cell? ⟨g,o+4,none⟩=some (.bool ret)) (hg:g≠bb) (hgd:∀k,d=some k→g≠k) (hB:Buf w bb d bs) (hlen:bs.length≤1099511627776-200):
 Calls prog 88 #[.pointer (some ⟨g,o,none⟩),.pointer (some ⟨bb,0,none⟩)] w fun e w'=>e=.returned (.tuple #[])∧BufTo w bb d (bs++(hdrB t q dup ret::vlen r)) w':=by
 have HH:Hd (((hdrB t q dup ret).toNat:Int)=bits .or .u8 (bits .or .u8 (bits .or .u8 ((t:Int)*16) (if dup then 8 else 0)) ((q:Int)*2)) (if ret then 1 else 0)):=hdr_bits t q dup ret _ _ ht hq rfl rfl
 cases dup<;>cases ret
 all_goals
  simp only[if_true,if_false,Bool.false_eq_true] at HH
  go_enter func88,ntmps88
  go_wp2_with fail
  refine wp_region_still_tail 25 (by kernel_rfl) (by kernel_rfl) ?_
  simp only[List.take_succ_cons,List.take_zero,List.drop_succ_cons,List.drop_zero]
  repeat still_step
  still_call (calls_same (encodeBool_c _ _))
  repeat still_step
  still_call (calls_same (encodeBool_c _ _))
  repeat still_step
  try refine wpStill_nil ?_
  change wpList _ _ _ _ _ w.drew
  have hBd:Buf w.drew bb d bs:=hB.keep (Keeps.drew w) (by simp) (by simp)
  have hgn:g∉bb::d.toList:=by cases hd:d with|none=>simpa using hg|some k=>simpa using ⟨hg,hgd k hd⟩
  go_wp2_with (first
   |(go_at_call 82;refine(writeByte_c _ _ _ _ _ _ HH.o hBd (by omega)).mono ?_;rintro e w1 ⟨rfl,d1,hB1⟩;have c0':w1.cell? ⟨g,o,none⟩=some (.int .i64 (r:Int)):=hB1.keeps.some_ c0 hgn)
   |(go_at_call 105;refine(encodeLength_c _ _ _ _ r hr hB1.buf (by simp;omega)).mono ?_;rintro e w2 ⟨rfl,d2,hB2⟩))
  go_end0
  refine⟨rfl,d2,?_⟩
  have h:=(BufAt.pre (Keeps.drew w) hB1).trans hB2
  simpa using h
def optB (q h:Nat) (nl ap:Bool):UInt8:=UInt8.ofNat (q+(if nl then 4 else 0)+(if ap then 8 else 0)+h*16)
def subCells (f:ByteArray) (id:Int) (h q:Int) (ap nl:Bool):Array Value:=#[.slice none 0 0,.string f,.int .i64 id,.map none,.int .u8 h,.int .u8 q,.bool ap,.bool nl,.bool false]
theorem subEncode_c (w:World) (f:ByteArray) (id:Int) (h q:Nat) (ap nl:Bool) (hh:h<3) (hq:q<3):
 Calls prog 90 #[.agg (subCells f id h q ap nl)] w fun e w'=>e=.returned (.int .u8 ((optB q h nl ap).toNat:Int))∧Keeps [] w w':=by
 unfold subCells
 obtain rfl|rfl|rfl:h=0∨h=1∨h=2:=by omega
 all_goals
  obtain rfl|rfl|rfl:q=0∨q=1∨q=2:=by omega
  all_goals
   cases ap<;>cases nl
   all_goals
    go_enter func90,ntmps90
    go_wp2
    go_ret
    exact⟨rfl,Keeps.alloc _ _⟩
def PByteF (pkt:Int) (i:Nat) (cf cv:Value) (s:List UInt8):Prop:=
 (cf=.bool false∧s=[])∨(cf=.bool true∧vpp i pkt=true∧∃b:UInt8,cv=.int .u8 (b.toNat:Int)∧b.toNat<2∧s=[UInt8.ofNat i,b])
def PByte (pkt:Int) (i:Nat) (cv:Value) (s:List UInt8):Prop:=
 (cv=.int .u8 0∧s=[])∨(vpp i pkt=true∧∃b:UInt8,cv=.int .u8 (b.toNat:Int)∧0<b.toNat∧s=[UInt8.ofNat i,b])
def PWordF (pkt:Int) (i:Nat) (cf cv:Value) (s:List UInt8):Prop:=
 (cf=.bool false∧s=[])∨(cf=.bool true∧vpp i pkt=true∧∃n:Nat,cv=.int .u16 (n:Int)∧n<65536∧s=UInt8.ofNat i::be2 n)
def PWordFP (pkt:Int) (i:Nat) (cf cv:Value) (s:List UInt8):Prop:=
 (cf=.bool false∧s=[])∨(cf=.bool true∧vpp i pkt=true∧∃n:Nat,cv=.int .u16 (n:Int)∧0<n∧n<65536∧s=UInt8.ofNat i::be2 n)
def PWord (pkt:Int) (i:Nat) (cv:Value) (s:List UInt8):Prop:=
 (cv=.int .u16 0∧s=[])∨(vpp i pkt=true∧∃n:Nat,cv=.int .u16 (n:Int)∧0<n∧n<65536∧s=UInt8.ofNat i::be2 n)
def PLongF (pkt:Int) (i:Nat) (cf cv:Value) (s:List UInt8):Prop:=
 (cf=.bool false∧s=[])∨(cf=.bool true∧vpp i pkt=true∧∃n:Nat,cv=.int .u32 (n:Int)∧n<4294967296∧s=UInt8.ofNat i::be4 n)
def PLong (pkt:Int) (i:Nat) (cv:Value) (s:List UInt8):Prop:=
 (cv=.int .u32 0∧s=[])∨(vpp i pkt=true∧∃n:Nat,cv=.int .u32 (n:Int)∧0<n∧n<4294967296∧s=UInt8.ofNat i::be4 n)
def NoWild (s:ByteArray):Prop:=∀b∈s.data.toList,b≠43∧b≠35
def PText (pkt:Int) (i:Nat) (cv:Value) (s:List UInt8):Prop:=
 (cv=.string ⟨#[]⟩∧s=[])∨(vpp i pkt=true∧∃t:ByteArray,cv=.string t∧0<t.size∧t.size<65536∧(i=8→NoWild t)∧s=UInt8.ofNat i::lp t.data.toList)
def PData (w:World) (pkt:Int) (i:Nat) (cv:Value) (s:List UInt8):Prop:=
 (∃A c,cv=.slice A 0 c∧s=[])∨(vpp i pkt=true∧∃A n c ys,cv=.slice A n c∧Rd w 1 A n (bvs ys)∧(∀a,A=some a→a.block<w.heap.size)∧0<n∧n<65536∧s=UInt8.ofNat i::lp ys)
def PNums (w:World) (pkt:Int) (cv:Value) (s:List UInt8):Prop:=
 ∃(A:Option Addr) (c:Nat) (ns:List Nat),cv=.slice A ns.length c∧Rd w 1 A ns.length (ns.map fun (n:Nat)=>.int .i64 (n:Int))∧(∀a,A=some a→a.block<w.heap.size)∧
  (∀n∈ns,0<n∧n<268435456)∧ns.length≤20∧(ns≠[]→vpp 11 pkt=true)∧s=ns.flatMap fun n=>11::vlen n
def encU (u:ByteArray×ByteArray):List UInt8:=38::(lp u.1.data.toList++lp u.2.data.toList)
def PUsers (w:World) (pkt:Int) (cv:Value) (s:List UInt8):Prop:=
 ∃(A:Option Addr) (c:Nat) (us:List (ByteArray×ByteArray)),cv=.slice A us.length c∧Rd w 2 A us.length (us.flatMap fun u=>[.string u.1,.string u.2])∧(∀a,A=some a→a.block<w.heap.size)∧
  (∀u∈us,u.1.size<65536∧u.2.size<65536)∧us.length≤20∧(us≠[]→vpp 38 pkt=true)∧s=us.flatMap encU
section
variable {w:World} {pkt:Int} {i:Nat} {cf cv:Value} {s:List UInt8}
theorem zA0 {p:Prop} (h:p:=by
 rcases h with⟨_,h⟩|⟨_,h,_⟩
 ·exact h
 ·rw[hv] at h;cases h
 ):p:=h
theorem PByteF.absent (h:PByteF pkt i cf cv s) (hv:vpp i pkt=false):s=[]:=by
 exact zA0
theorem zA1 {p:Prop} (h:p:=by
 rcases h with⟨_,h⟩|⟨h,_⟩
 ·exact h
 ·rw[hv] at h;cases h
 ):p:=h
theorem PByte.absent (h:PByte pkt i cv s) (hv:vpp i pkt=false):s=[]:=by
 exact zA1
theorem PWordF.absent (h:PWordF pkt i cf cv s) (hv:vpp i pkt=false):s=[]:=by
 exact zA0
theorem PWordFP.absent (h:PWordFP pkt i cf cv s) (hv:vpp i pkt=false):s=[]:=by
 exact zA0
theorem PWord.absent (h:PWord pkt i cv s) (hv:vpp i pkt=false):s=[]:=by
 exact zA1
theorem PLongF.absent (h:PLongF pkt i cf cv s) (hv:vpp i pkt=false):s=[]:=by
 exact zA0
theorem PLong.absent (h:PLong pkt i cv s) (hv:vpp i pkt=false):s=[]:=by
 exact zA1
theorem PText.absent (h:PText pkt i cv s) (hv:vpp i pkt=false):s=[]:=by
 exact zA1
theorem PData.absent (h:PData w pkt i cv s) (hv:vpp i pkt=false):s=[]:=by
 rcases h with⟨_,_,_,h⟩|⟨h,_⟩
 ·exact h
 ·rw[hv] at h;cases h
theorem zA2 {p:Prop} (h:p:=by
 obtain⟨A,c,ns,_,_,_,_,_,hn,hs⟩:=h
 rcases ns with _|⟨n,ns⟩
 ·exact hs
 ·have:=hn (by simp);rw[hv] at this;cases this
 ):p:=h
theorem PNums.absent (h:PNums w pkt cv s) (hv:vpp 11 pkt=false):s=[]:=by
 exact zA2
theorem PUsers.absent (h:PUsers w pkt cv s) (hv:vpp 38 pkt=false):s=[]:=by
 exact zA2
end
def pre (s:Nat→List UInt8):Nat→List UInt8
 |0=>[]
 |k+1=>pre s k++s (k+1)
theorem pre_succ (s:Nat→List UInt8) (k:Nat):pre s (k+1)=pre s k++s (k+1):=rfl
theorem pre_le (s:Nat→List UInt8) (h:∀k,(s k).length≤4000000) (k:Nat):(pre s k).length≤k*4000000:=by
 induction k with
 |zero=>simp[pre]
 |succ k ih=>have:=h (k+1);rw[pre_succ,List.length_append];omega
def Cells37 (w:World) (g o:Nat) (pc:Nat→Value):Prop:=∀j,j<37→w.cell? ⟨g,o+j,none⟩=some (pc j)
theorem Cells37.at_ {w:World} {g o:Nat} {pc:Nat→Value} (h:Cells37 w g o pc) (j:Nat) (hj:j<37):w.cell? ⟨g,o+j,none⟩=some (pc j):=h j hj
theorem Cells37.keep {w W w1:World} {g o B:Nat} {pc:Nat→Value} {d1:Option Nat} {X:List UInt8} (hc:Cells37 w g o pc) (hW:Keeps [] w W) (hB:w.heap.size≤B) (h:BufAt W B none d1 X w1):Cells37 w1 g o pc:=by
 intro j hj
 have h1:=hc j hj
 have hlt:g<w.heap.size:=World.block_lt_of_cell? w _ h1
 exact h.keeps.some_ (hW.some_ h1 (by simp)) (by simp;omega)
theorem flat_le {α:Type} (l:List α) (f:α→List UInt8) (m:Nat) (h:∀x∈l,(f x).length≤m):(l.flatMap f).length≤l.length*m:=by
 induction l with
 |nil=>simp
 |cons a l ih=>
  have h1:=h a (by simp)
  have h2:=ih (fun x hx=>h x (by simp[hx]))
  rw[List.flatMap_cons,List.length_append,List.length_cons,Nat.add_mul]
  omega
theorem flat2_get (us:List (ByteArray×ByteArray)) (k:Nat) (u:ByteArray×ByteArray) (hu:us[k]?=some u):
 (us.flatMap fun u=>[Value.string u.1,.string u.2])[k*2]?=some (.string u.1)∧(us.flatMap fun u=>[Value.string u.1,.string u.2])[k*2+1]?=some (.string u.2):=by
 induction us generalizing k with
 |nil=>simp at hu
 |cons a l ih=>
  rcases k with _|k
  ·simp at hu;subst hu;simp
  ·have:=ih k (by simpa using hu)
   rw[List.flatMap_cons]
   have e:(k+1)*2=k*2+1+1:=by omega
   rw[e]
   simpa using this
theorem Keeps.trans2 {w W w1:World} {B:Nat} (h:Keeps [] w W) (k:Keeps (B::(none:Option Nat).toList) W w1):Keeps [B] w w1:=
 (h.mono (by simp)).trans k (by simp)
theorem tl_ne {t:ByteArray} (h:0<t.size):t.toList.isEmpty=false:=by
 rw[Lib.toList_data]
 cases e:t.data.toList with
 |nil=>
  have:t.data.toList.length=0:=by rw[e];rfl
  rw[show t.data.toList.length=t.size by simp] at this
  omega
 |cons a l=>rfl
theorem tl_ne2 {t:ByteArray} (h:0<t.size):¬t.toList=[]:=by
 have:=tl_ne h
 intro e
 rw[e] at this
 cases this
theorem bt_app {W w w':World} {bb:Nat} {d d1:Option Nat} {X s:List UInt8} (h:BufAt W bb d d1 X w) (k:BufTo w bb d1 (X++s) w'):BufTo W bb d (X++s) w':=by
 obtain⟨d2,k⟩:=k
 exact⟨d2,h.trans k⟩
theorem hasWildcard_c (w:World) (s:ByteArray) (h:NoWild s) (hs:s.size<65536):
 Calls prog 104 #[.string s] w fun e w'=>e=.returned (.bool false)∧w=w':=by
 have HN:=hH h
 clear h
 go_enter func104,ntmps104
 go_wp2
 go_loop [3] (fun i=>∃k:Nat,k≤s.size∧i=.int .i64 (k:Int)) (fun i=>s.size-(intOf i).toNat)
 case atStart=>exact⟨0,Nat.zero_le _,rfl⟩
 case round=>
  obtain⟨k,hk,rfl⟩:=hrel
  by_cases hlt:k<s.size
  ·have hm:=HN.o s[k] (by rw[ByteArray.getElem_eq_getElem_data];simp)
   have e1:((s[k].toNat:Int)==43)=false:=by
    rw[beq_eq_false_iff_ne];intro e;exact hm.1 (UInt8.toNat_inj.1 (by simpa using Int.ofNat.inj e))
   have e2:((s[k].toNat:Int)==35)=false:=by
    rw[beq_eq_false_iff_ne];intro e;exact hm.2 (UInt8.toNat_inj.1 (by simpa using Int.ofNat.inj e))
   clear hm
   go_wp2
   go_round
   case rel=>exact⟨k+1,by omega,by go_num⟩
   case measure=>simp[intOf];omega
  ·go_wp2
   go_ret
   exact⟨rfl,rfl⟩
end Go.Proofs.YtkglmacaecmhdaaGreatDoor
