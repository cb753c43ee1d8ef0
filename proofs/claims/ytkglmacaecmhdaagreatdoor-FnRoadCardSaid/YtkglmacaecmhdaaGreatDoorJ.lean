/- FnRoad, part J: the walks of P0, P1. -/
import Derived.Test.YtkglmacaecmhdaaGreatDoorH
set_option linter.unusedVariables false
set_option linter.unusedSimpArgs false
set_option maxHeartbeats 20000000
set_option maxRecDepth 100000
namespace Go.Proofs.YtkglmacaecmhdaaGreatDoor
open Go Go.RowKit Tryz
theorem info98:(prog.info? 98).map (fun i=>(i.zero,i.size,i.bytes))=some (some (.agg #[.int .i64 0,.int .u32 0,.string ⟨#[]⟩,.string ⟨#[]⟩]),4,48):=by kernel_rfl
def PBuf (w:World) (bb:Nat) (d:Option Nat) (l:List PropV):Prop:=
 ∃A c,Blk w bb 27 #[.slice A l.length c]∧w.ownsRow 0 98 4 (.slice A l.length c) l.length (l.flatMap PropV.cells)∧A.map (·.block)=d
theorem PBuf.keep {w w':World} {bb:Nat} {d:Option Nat} {l:List PropV} {S:List Nat} (h:PBuf w bb d l) (hk:Keeps S w w') (hb:bb∉S) (hd:∀k,d=some k→k∉S):PBuf w' bb d l:=by
 obtain⟨A,c,h1,h2,h3⟩:=h
 exact⟨A,c,h1.keep hk hb,ownsRow_keep h2 hk (by rw[own_slice,h3];exact hd),h3⟩
theorem PBuf.dlt {w:World} {bb:Nat} {d:Option Nat} {l:List PropV} (h:PBuf w bb d l):∀k,d=some k→k<w.heap.size:=by
 obtain⟨A,c,h1,h2,h3⟩:=h
 rw[←h3]
 exact own_lt h2
structure PBAt (w:World) (bb:Nat) (d d':Option Nat) (l:List PropV) (w':World):Prop where
 buf:PBuf w' bb d' l
 keeps:Keeps (bb::d.toList) w w'
 fresh:d'=d∨∃k,d'=some k∧w.heap.size≤k
theorem PBAt.refl {w:World} {bb:Nat} {d:Option Nat} {l:List PropV} (h:PBuf w bb d l):PBAt w bb d d l w:=⟨h,Keeps.refl _ _,.inl rfl⟩
theorem PBAt.trans {w w1 w2:World} {bb:Nat} {d d1 d2:Option Nat} {l1 l2:List PropV} (h:PBAt w bb d d1 l1 w1) (k:PBAt w1 bb d1 d2 l2 w2):PBAt w bb d d2 l2 w2:=by
 have hz:=h.keeps.size
 refine⟨k.buf,h.keeps.trans k.keeps ?_,?_⟩
 ·intro x hx
  rcases List.mem_cons.1 hx with rfl|hx
  ·exact .inl (by simp)
  ·rcases h.fresh with rfl|⟨j,rfl,hj⟩
   ·exact .inl (by simp at hx;simp[hx])
   ·simp at hx;subst hx;exact .inr hj
 ·rcases k.fresh with rfl|⟨j,rfl,hj⟩
  ·exact h.fresh
  ·exact .inr ⟨j,rfl,by omega⟩
def PBTo (w:World) (bb:Nat) (d:Option Nat) (l:List PropV) (e:Ending) (w':World):Prop:=e=.returned (.tuple #[])∧∃d',PBAt w bb d d' l w'
theorem pbTo_of {w w1:World} {bb:Nat} {d:Option Nat} {l:List PropV} {A1:Option Addr} {n1 c1:Nat} {u:Value} (hb:Blk w bb 27 #[u]) (h1:n1=l.length)
 (ho1:w1.ownsRow 0 98 4 (.slice A1 n1 c1) n1 (l.flatMap PropV.cells)) (hk1:Keeps d.toList w w1) (hd1:A1.map (·.block)=d∨∃k,A1.map (·.block)=some k∧w.heap.size≤k) (hdn:∀k,d=some k→bb≠k):
 ∃d',PBAt w bb d d' l (w1.setCell ⟨bb,0,none⟩ (.slice A1 n1 c1)):=by
 subst h1
 have hb1:Blk w1 bb 27 #[u]:=hb.keep hk1 (by cases hd:d with|none=>simp|some k=>simpa using hdn k hd)
 have hs:=Keeps.setCell w1 ⟨bb,0,none⟩ (.slice A1 l.length c1)
 refine⟨A1.map (·.block),⟨⟨A1,c1,hb1.set_ 0 _,ownsRow_keep ho1 hs ?_,rfl⟩,(hk1.mono (by simp;intro a h;exact .inl (.inr h))).trans hs (by simp),hd1⟩⟩
 intro k hk
 rw[own_slice] at hk
 have:=own_ne ho1 hb1 (by decide) k (by rw[own_slice];exact hk)
 simp
 exact fun e=>this e.symm
theorem zJ1 {p:Prop} (h:p:=by
 go_end0
 refine⟨rfl,pbTo_of HB.o (by simp[HN.o]) ?_ (((Keeps.alloc w _).mono (by simp)).trans hk1 (fun k h=>.inl h)) (hd1.imp id fun h=>⟨_,h,by simp⟩) hdn⟩
 rw[List.flatMap_append]
 exact ho1
 ):p:=h
theorem number_c (w:World) (bb:Nat) (d:Option Nat) (l:List PropV) (i:Int) (n:Nat) (hB:PBuf w bb d l) (hl:l.length≤1000):
 Calls prog 99 #[.int .i64 i,.bool true,.int .u32 (n:Int),.pointer (some ⟨bb,0,none⟩)] w (PBTo w bb d (l++[⟨i,n,⟨#[]⟩,⟨#[]⟩⟩])):=by
 obtain⟨i0,hi0,hz0,hz1,hz2⟩:=info_parts info98
 have hdlt:=hB.dlt
 obtain⟨A0,c0,hb,ho,hd⟩:=hB
 have hdn:∀k,d=some k→bb≠k:=fun k hk=>own_ne ho hb (by decide) k (by rw[own_slice,hd];exact hk)
 have hc:w.cell? ⟨bb,0,none⟩=some (.slice A0 l.length c0):=by rw[hb.cell];rfl
 obtain⟨N,hN⟩:∃N,l.length=N:=⟨_,rfl⟩
 have ho0:(w.alloc (.cells #[.int .i64 i,.int .u32 (n:Int),.string ⟨#[]⟩,.string ⟨#[]⟩] 98)).ownsRow 0 98 4 (.slice A0 l.length c0) l.length (l.flatMap PropV.cells):=ho.alloc _
 have hr0:Rd (w.alloc (.cells #[.int .i64 i,.int .u32 (n:Int),.string ⟨#[]⟩,.string ⟨#[]⟩] 98)) 4 (some ⟨w.heap.size,0,none⟩) 1 [.int .i64 i,.int .u32 (n:Int),.string ⟨#[]⟩,.string ⟨#[]⟩]:=rd_new w 98 #[.int .i64 i,.int .u32 (n:Int),.string ⟨#[]⟩,.string ⟨#[]⟩] 4 1 rfl
 rw[hN] at hc ho0 hl
 have HB:=hH hb
 have HN:=hH hN
 have HO:=hH ho0
 have HR:=hH hr0
 have HD:=hH hd
 clear hb hN ho0 hr0 ho hd
 go_enter func99,ntmps99
 go_wp2_with (at_builtin;refine wpList_append_rd _ rfl (.tmp 8) (.tmp 12) 27 rfl 98 i0 _ 4 48 underlying27 hi0 hz0 hz1 hz2 rfl (by decide) (.slice A0 N c0) N _ rfl HO.o _ 1 1 _ rfl HR.o (by intro u hu;simp at hu;rcases hu with rfl|rfl|rfl|rfl<;>rfl) (by omega) (by unfold maxLen;omega) ?_;intro A1 c1 w1 ho1 hk1 hd1;rw[own_slice,HD.o] at hk1 hd1;have HB1:=hH ((HB.o.alloc (.cells #[.int .i64 i,.int .u32 (n:Int),.string ⟨#[]⟩,.string ⟨#[]⟩] 98)).keep hk1 (by cases e:d with|none=>simp|some k=>simpa using hdn k e));have hc1:w1.cell? ⟨bb,0,none⟩=some (.slice A0 l.length c0):=(by rw[HB1.o.cell];rfl);have hf1:w1.frozen? ⟨bb,0,none⟩=false:=HB1.o.frozen 0)
 exact zJ1
theorem number0_c (w:World) (bb:Nat) (d:Option Nat) (l:List PropV) (i n:Int) (hB:PBuf w bb d l):
 Calls prog 99 #[.int .i64 i,.bool false,.int .u32 n,.pointer (some ⟨bb,0,none⟩)] w (PBTo w bb d l):=by
 go_enter func99,ntmps99
 go_wp2_with fail
 go_end0
 exact⟨rfl,d,PBAt.refl hB⟩
theorem wordT_c (w:World) (bb:Nat) (d:Option Nat) (l:List PropV) (i:Int) (t:ByteArray) (hB:PBuf w bb d l) (hl:l.length≤1000) (ht:0<t.size):
 Calls prog 100 #[.int .i64 i,.string t,.pointer (some ⟨bb,0,none⟩)] w (PBTo w bb d (l++[⟨i,0,t,⟨#[]⟩⟩])):=by
 obtain⟨i0,hi0,hz0,hz1,hz2⟩:=info_parts info98
 have hte:=tl_ne ht
 have hte2:=tl_ne2 ht
 obtain⟨A0,c0,hb,ho,hd⟩:=hB
 have hdn:∀k,d=some k→bb≠k:=fun k hk=>own_ne ho hb (by decide) k (by rw[own_slice,hd];exact hk)
 have hc:w.cell? ⟨bb,0,none⟩=some (.slice A0 l.length c0):=by rw[hb.cell];rfl
 obtain⟨N,hN⟩:∃N,l.length=N:=⟨_,rfl⟩
 have ho0:(w.alloc (.cells #[.int .i64 i,.int .u32 0,.string t,.string ⟨#[]⟩] 98)).ownsRow 0 98 4 (.slice A0 l.length c0) l.length (l.flatMap PropV.cells):=ho.alloc _
 have hr0:Rd (w.alloc (.cells #[.int .i64 i,.int .u32 0,.string t,.string ⟨#[]⟩] 98)) 4 (some ⟨w.heap.size,0,none⟩) 1 [.int .i64 i,.int .u32 0,.string t,.string ⟨#[]⟩]:=rd_new w 98 #[.int .i64 i,.int .u32 0,.string t,.string ⟨#[]⟩] 4 1 rfl
 rw[hN] at hc ho0 hl
 have HB:=hH hb
 have HN:=hH hN
 have HO:=hH ho0
 have HR:=hH hr0
 have HD:=hH hd
 clear hb hN ho0 hr0 ho hd
 go_enter func100,ntmps100
 go_wp2_with (at_builtin;refine wpList_append_rd _ rfl (.tmp 7) (.tmp 11) 27 rfl 98 i0 _ 4 48 underlying27 hi0 hz0 hz1 hz2 rfl (by decide) (.slice A0 N c0) N _ rfl HO.o _ 1 1 _ rfl HR.o (by intro u hu;simp at hu;rcases hu with rfl|rfl|rfl|rfl<;>rfl) (by omega) (by unfold maxLen;omega) ?_;intro A1 c1 w1 ho1 hk1 hd1;rw[own_slice,HD.o] at hk1 hd1;have HB1:=hH ((HB.o.alloc (.cells #[.int .i64 i,.int .u32 0,.string t,.string ⟨#[]⟩] 98)).keep hk1 (by cases e:d with|none=>simp|some k=>simpa using hdn k e));have hc1:w1.cell? ⟨bb,0,none⟩=some (.slice A0 l.length c0):=(by rw[HB1.o.cell];rfl);have hf1:w1.frozen? ⟨bb,0,none⟩=false:=HB1.o.frozen 0)
 exact zJ1
theorem word0_c (w:World) (bb:Nat) (d:Option Nat) (l:List PropV) (i:Int) (hB:PBuf w bb d l):
 Calls prog 100 #[.int .i64 i,.string ⟨#[]⟩,.pointer (some ⟨bb,0,none⟩)] w (PBTo w bb d l):=by
 go_enter func100,ntmps100
 go_wp2_with fail
 go_end0
 exact⟨rfl,d,PBAt.refl hB⟩
def nOf (o:Option PropV):Nat:=match o with|none=>0|some x=>x.n
def tOf (o:Option PropV):ByteArray:=match o with|none=>⟨#[]⟩|some x=>x.text
def dOf (o:Option PropV):List UInt8:=match o with|none=>[]|some x=>x.text.data.toList
theorem valOf_u8 (j:Nat) (hj:j=19∨j=23∨j=25∨j=27∨j=29∨j=31∨j=33∨j=35) (o:Option PropV):valOf j o=.int .u8 ((nOf o:Nat):Int):=by
 rcases hj with rfl|rfl|rfl|rfl|rfl|rfl|rfl|rfl<;>cases o<;>rfl
theorem valOf_u16 (j:Nat) (hj:j=15∨j=16∨j=17∨j=18) (o:Option PropV):valOf j o=.int .u16 ((nOf o:Nat):Int):=by
 rcases hj with rfl|rfl|rfl|rfl<;>cases o<;>rfl
theorem valOf_u32 (j:Nat) (hj:j=11∨j=12∨j=13∨j=14) (o:Option PropV):valOf j o=.int .u32 ((nOf o:Nat):Int):=by
 rcases hj with rfl|rfl|rfl|rfl<;>cases o<;>rfl
theorem valOf_t (j:Nat) (hj:j=4∨j=5∨j=6∨j=7∨j=8∨j=9∨j=10) (o:Option PropV):valOf j o=.string (tOf o):=by
 rcases hj with rfl|rfl|rfl|rfl|rfl|rfl|rfl<;>cases o<;>rfl
theorem valOf_f (j:Nat) (hj:j=20∨j=21∨j=22∨j=24∨j=26∨j=28∨j=30∨j=32∨j=34∨j=36) (o:Option PropV):valOf j o=.bool o.isSome:=by
 rcases hj with rfl|rfl|rfl|rfl|rfl|rfl|rfl|rfl|rfl|rfl<;>rfl
structure PlSt (w:World) (l:List PropV) (cs:Array Value):Prop where
 sz:cs.size=37
 sc:∀j,4≤j→j<37→cs[j]?=some (cellV l j)
 d0:∃A c,cs[0]?=some (.slice A (dOf (fld 9 l)).length c)∧Rd w 1 A (dOf (fld 9 l)).length (bvs (dOf (fld 9 l)))∧∀a,A=some a→a.block<w.heap.size
 d2:∃A c,cs[2]?=some (.slice A (dOf (fld 22 l)).length c)∧Rd w 1 A (dOf (fld 22 l)).length (bvs (dOf (fld 22 l)))∧∀a,A=some a→a.block<w.heap.size
 nm:∃A c,cs[1]?=some (.slice A (numsOf l).length c)∧Rd w 1 A (numsOf l).length ((numsOf l).map fun (n:Nat)=>.int .i64 (n:Int))∧∀a,A=some a→a.block<w.heap.size
 us:∃A c,cs[3]?=some (.slice A (usersOf l).length c)∧Rd w 2 A (usersOf l).length ((usersOf l).flatMap fun u=>[.string u.1,.string u.2])∧∀a,A=some a→a.block<w.heap.size
def PlOut (w:World) (l:List PropV) (e:Ending) (w':World):Prop:=
 ∃A c,e=.returned (.slice A l.length c)∧Rd w' 4 A l.length (l.flatMap PropV.cells)∧l.length≤c∧Keeps [] w w'∧∀a,A=some a→w.heap.size≤a.block∧a.block<w'.heap.size
section
variable {kind:Int} {l:List PropV} (h:ProperL kind l)
theorem zJ3 {p:Prop} (h:p:=by
 obtain⟨a,b,c,d⟩:=x
 simp only at hi ht ho
 subst hi ht ho
 rfl
 ):p:=h
theorem sel_num (h:ProperL kind l) (i:Int) (hk:kindOf i=1∨kindOf i=2∨kindOf i=4):sel i l=if (fld i l).isSome then[⟨i,nOf (fld i l),⟨#[]⟩,⟨#[]⟩⟩] else[]:=by
 rw[h.one i (by rintro rfl;revert hk;decide) (.inl (by rintro rfl;revert hk;decide))]
 rcases e:fld i l with _|x
 ·rfl
 ·obtain⟨hm,hi⟩:=fld_mem e
  have ok:=h.ok x hm
  have h5:kindOf x.id≤5:=by rw[hi];omega
  have ht:=ok.t0 h5
  have ho:=ok.o0 (by omega)
  exact zJ3
theorem sel_pos (h:ProperL kind l) (i:Int) (hk:(kindOf i=1∧i=25)∨(kindOf i=2∧i≠19)∨(kindOf i=4∧i≠17)):sel i l=if 0<nOf (fld i l) then[⟨i,nOf (fld i l),⟨#[]⟩,⟨#[]⟩⟩] else[]:=by
 rw[sel_num h i (by rcases hk with h|h|h<;>simp[h.1])]
 rcases e:fld i l with _|x
 ·rfl
 ·obtain⟨hm,hi⟩:=fld_mem e
  have ok:=h.ok x hm
  have h0:0<x.n:=by
   rcases hk with⟨h1,h2⟩|⟨h1,h2⟩|⟨h1,h2⟩
   ·rcases(ok.k1 (by rw[hi];exact h1)).2 with h|h;exact h;exact absurd (hi.trans h2) h
   ·rcases(ok.k2 (by rw[hi];exact h1)).2 with h|h;exact h;exact absurd (hi.symm.trans h) h2
   ·rcases(ok.k4 (by rw[hi];exact h1)).2 with h|h;exact h;exact absurd (hi.symm.trans h) h2
  simp[nOf,h0]
theorem sel_text (h:ProperL kind l) (i:Int) (hk:kindOf i=6∨kindOf i=7):sel i l=if 0<(tOf (fld i l)).size then[⟨i,0,tOf (fld i l),⟨#[]⟩⟩] else[]:=by
 rw[h.one i (by rintro rfl;revert hk;decide) (.inl (by rintro rfl;revert hk;decide))]
 rcases e:fld i l with _|x
 ·rfl
 ·obtain⟨hm,hi⟩:=fld_mem e
  have ok:=h.ok x hm
  have h5:6≤kindOf x.id:=by rw[hi];omega
  have ht:=ok.n0 h5
  have ho:=ok.o0 (by rw[hi];omega)
  have h0:0<x.text.size:=by
   rcases hk with hk|hk
   ·exact(ok.k6 (by rw[hi];exact hk)).2.1
   ·exact(ok.k7 (by rw[hi];exact hk)).1
  simp only[Option.toList,tOf,h0,if_true]
  exact zJ3
theorem sel_nums (h:ProperL kind l):sel 11 l=(numsOf l).map fun n=>⟨11,n,⟨#[]⟩,⟨#[]⟩⟩:=by
 unfold numsOf sel
 rw[List.map_map]
 conv=>lhs;rw[←List.map_id (l.filter fun x=>x.id==11)]
 apply List.map_congr_left
 intro x hx
 simp only[List.mem_filter,beq_iff_eq] at hx
 have ok:=h.ok x hx.1
 have ht:=ok.t0 (by rw[hx.2];decide)
 have ho:=ok.o0 (by rw[hx.2];decide)
 have hi:=hx.2
 exact zJ3
theorem sel_users (h:ProperL kind l):sel 38 l=(usersOf l).map fun u=>⟨38,0,u.1,u.2⟩:=by
 unfold usersOf sel
 rw[List.map_map]
 conv=>lhs;rw[←List.map_id (l.filter fun x=>x.id==38)]
 apply List.map_congr_left
 intro x hx
 simp only[List.mem_filter,beq_iff_eq] at hx
 have ok:=h.ok x hx.1
 have ht:=ok.n0 (by rw[hx.2];decide)
 have hi:=hx.2
 obtain⟨a,b,c,d⟩:=x
 simp only at hi ht
 subst hi ht
 rfl
theorem nOf_lt (h:ProperL kind l) (i:Int) (m:Nat) (hm:0<m) (hb:(kindOf i=1∧m=256)∨(kindOf i=2∧m=65536)∨(kindOf i=4∧m=4294967296)):nOf (fld i l)<m:=by
 rcases e:fld i l with _|x
 ·exact hm
 ·obtain⟨hx,hi⟩:=fld_mem e
  have ok:=h.ok x hx
  show x.n<m
  rcases hb with⟨h1,h2⟩|⟨h1,h2⟩|⟨h1,h2⟩
  ·have:=(ok.k1 (by rw[hi];exact h1)).1;omega
  ·have:=(ok.k2 (by rw[hi];exact h1)).1;omega
  ·have:=(ok.k4 (by rw[hi];exact h1)).1;omega
end
theorem own_cap {w:World} {e:TypeId} {size n c:Nat} {A:Option Addr} {xs:List Value} (h:w.ownsRow 0 e size (.slice A n c) n xs):n≤c:=by
 rcases h.2 with⟨hv,h0⟩|⟨g,cap,cur,hv,_,_,hnc,_⟩
 ·omega
 ·injection hv with h1 h2 h3;omega
def Sk (l:List PropV) (k:Nat):List PropV:=(idsZ.take k).flatMap fun i=>sel i l
theorem Sk_succ (l:List PropV) (k:Nat) (i:Int) (hi:idsZ[k]?=some i):Sk l (k+1)=Sk l k++sel i l:=by
 obtain⟨hk,rfl⟩:=List.getElem?_eq_some_iff.1 hi
 unfold Sk
 rw[List.take_succ_eq_append_getElem hk,List.flatMap_append]
 simp
theorem Sk_le {kind:Int} {l:List PropV} (h:ProperL kind l) (k:Nat):(Sk l k).length≤540:=by
 unfold Sk
 have h1:∀(L:List Int),(L.flatMap fun i=>sel i l).length≤L.length*20:=by
  intro L
  induction L with
  |nil=>simp
  |cons i t ih=>
   have h2:(sel i l).length≤l.length:=List.length_filter_le _ _
   have h3:=h.len
   rw[List.flatMap_cons,List.length_append,List.length_cons]
   omega
 have h2:=h1 (idsZ.take k)
 have h3:(idsZ.take k).length≤27:=by rw[List.length_take];exact Nat.min_le_right _ _
 omega
section
variable {w:World} {bb:Nat} {d:Option Nat} {L:List PropV}
theorem stepN {kind:Int} {l:List PropV} (h:ProperL kind l) (i:Int) (hk:kindOf i=1∨kindOf i=2∨kindOf i=4) (b:Bool) (n:Nat) (hb:(fld i l).isSome=b) (hn:nOf (fld i l)=n) (hB:PBuf w bb d L) (hl:L.length≤540):
 Calls prog 99 #[.int .i64 i,.bool b,.int .u32 (n:Int),.pointer (some ⟨bb,0,none⟩)] w (PBTo w bb d (L++sel i l)):=by
 rw[sel_num h i hk,hb,hn]
 cases b
 ·rw[if_neg (by simp),List.append_nil];exact number0_c w bb d L i n hB
 ·rw[if_pos rfl];exact number_c w bb d L i n hB (by omega)
theorem stepP {kind:Int} {l:List PropV} (h:ProperL kind l) (i:Int) (hk:(kindOf i=1∧i=25)∨(kindOf i=2∧i≠19)∨(kindOf i=4∧i≠17)) (n:Nat) (hn:nOf (fld i l)=n) (hB:PBuf w bb d L) (hl:L.length≤540):
 Calls prog 99 #[.int .i64 i,.bool (decide (0<n)),.int .u32 (n:Int),.pointer (some ⟨bb,0,none⟩)] w (PBTo w bb d (L++sel i l)):=by
 rw[sel_pos h i hk,hn]
 by_cases h0:0<n
 ·rw[if_pos h0,decide_eq_true h0];exact number_c w bb d L i n hB (by omega)
 ·rw[if_neg h0,decide_eq_false h0,List.append_nil];exact number0_c w bb d L i n hB
theorem stepT {kind:Int} {l:List PropV} (h:ProperL kind l) (i:Int) (hk:kindOf i=6∨kindOf i=7) (t:ByteArray) (ht:tOf (fld i l)=t) (hB:PBuf w bb d L) (hl:L.length≤540):
 Calls prog 100 #[.int .i64 i,.string t,.pointer (some ⟨bb,0,none⟩)] w (PBTo w bb d (L++sel i l)):=by
 rw[sel_text h i hk,ht]
 by_cases h0:0<t.size
 ·rw[if_pos h0];exact wordT_c w bb d L i t hB (by omega) h0
 ·rw[if_neg h0,List.append_nil]
  have:t=⟨#[]⟩:=by
   have h1:t.data.size=0:=by have:t.size=t.data.size:=rfl;omega
   cases t;simp at h1;subst h1;rfl
  subst this
  exact word0_c w bb d L i hB
end
def NRel (W:World) (bb:Nat) (L:List PropV) (ns:List Nat) (gk:Nat) (i:Value) (wr:World):Prop:=
 ∃k d',i=.int .i64 ((k:Nat):Int)∧k≤ns.length∧ns.length<gk+k∧PBAt W bb none d' (L++(ns.take k).map fun n=>⟨11,n,⟨#[]⟩,⟨#[]⟩⟩) wr
def URel (W:World) (bb:Nat) (L:List PropV) (us:List (ByteArray×ByteArray)) (gk:Nat) (i:Value) (wr:World):Prop:=
 ∃k d',i=.int .i64 ((k:Nat):Int)∧k≤us.length∧us.length<gk+k∧PBAt W bb none d' (L++(us.take k).map fun u=>⟨38,0,u.1,u.2⟩) wr
theorem dOf_tOf (o:Option PropV):(⟨(dOf o).toArray⟩:ByteArray)=tOf o:=by cases o<;>simp[dOf,tOf]
theorem zJ0 {p:Prop} (h:p:=by
 go_wp2_with fail
 go_fit (hstep.o)
 rintro e w1 ⟨rfl,d2,hb2⟩
 go_wp2_with fail
 go_meet
 case rel=>exact⟨d2,by rw[hsu.o];exact hb.trans hb2⟩
 ):p:=h
theorem zJ2 {p:Prop} (h:p:=by
 go_wp2_with fail
 go_meet
 case rel=>exact⟨d2,by rw[hsu.o,hsn.o];have h:=HBR.o;rwa [List.take_of_length_le (by omega)] at h⟩
 ):p:=h
theorem plainProps_c (w:World) (kind:Int) (l:List PropV) (cs:Array Value) (hP:ProperL kind l) (hS:PlSt w l cs):
 Calls prog 78 #[.agg cs] w (PlOut w l):=by
 have hmf:∀(fn:Fn) (first cap:Array Value) (w:World),(Instr.makeFunc fn first cap).run prog w=.ok (.func fn first cap) w:=fun _ _ _ _=>rfl
 obtain⟨W,hW⟩:∃W,(w.alloc (.cells cs 76)).alloc (.cells #[.slice none 0 0] 27)=W:=⟨_,rfl⟩
 have HKW:Hd (Keeps [] w W):=by rw[←hW];exact(Keeps.alloc _ _).trans (Keeps.alloc _ _) (by simp)
 have HM:Hd (Blk W w.heap.size 76 cs):=by rw[←hW];exact(Blk.new _ _ _).alloc _
 have HB0:Hd (PBuf W (w.heap.size+1) none []):=by
  rw[←hW]
  have h1:=Blk.new (w.alloc (.cells cs 76)) 27 #[.slice none 0 0]
  rw[World.size_alloc] at h1
  exact⟨none,0,h1,World.ownsRow_nil _ _ _ _,rfl⟩
 have HWS:Hd (W.heap.size=w.heap.size+2):=by rw[←hW];show _=_;simp
 have HW:=hH hW
 have HP:=hH hP
 have hsz:=hS.sz
 obtain⟨A0,e0,x0,r0,y0⟩:=hS.d0
 obtain⟨A1,e1,x1,r1,y1⟩:=hS.nm
 obtain⟨A2,e2,x2,r2,y2⟩:=hS.d2
 obtain⟨A3,e3,x3,r3,y3⟩:=hS.us
 have hsc:=hS.sc
 obtain⟨n1,hn1⟩:∃n,nOf (fld 1 l)=n:=⟨_,rfl⟩
 have l1:n1<256:=hn1▸nOf_lt hP 1 256 (by decide) (.inl ⟨rfl,rfl⟩)
 have v1:cs[19]?=some (.int .u8 (n1:Int)):=by rw[hsc 19 (by decide) (by decide),cellV,valOf_u8 _ (by decide)];show some (Value.int _ ((nOf (fld 1 l):Nat):Int))=_;rw[hn1]
 obtain⟨f1,hf1⟩:∃b,(fld 1 l).isSome=b:=⟨_,rfl⟩
 have g1:cs[20]?=some (.bool f1):=by rw[hsc 20 (by decide) (by decide),cellV,valOf_f _ (by decide)];show some (Value.bool (fld 1 l).isSome)=_;rw[hf1]
 obtain⟨n2,hn2⟩:∃n,nOf (fld 2 l)=n:=⟨_,rfl⟩
 have l2:n2<4294967296:=hn2▸nOf_lt hP 2 4294967296 (by decide) (.inr (.inr ⟨rfl,rfl⟩))
 have v2:cs[11]?=some (.int .u32 (n2:Int)):=by rw[hsc 11 (by decide) (by decide),cellV,valOf_u32 _ (by decide)];show some (Value.int _ ((nOf (fld 2 l):Nat):Int))=_;rw[hn2]
 obtain⟨t3,ht3⟩:∃t,tOf (fld 3 l)=t:=⟨_,rfl⟩
 have v3:cs[4]?=some (.string t3):=by rw[hsc 4 (by decide) (by decide),cellV,valOf_t _ (by decide)];show some (Value.string (tOf (fld 3 l)))=_;rw[ht3]
 obtain⟨t8,ht8⟩:∃t,tOf (fld 8 l)=t:=⟨_,rfl⟩
 have v8:cs[5]?=some (.string t8):=by rw[hsc 5 (by decide) (by decide),cellV,valOf_t _ (by decide)];show some (Value.string (tOf (fld 8 l)))=_;rw[ht8]
 obtain⟨t9,ht9⟩:∃t,tOf (fld 9 l)=t:=⟨_,rfl⟩
 have cv9:Hd (∀w',Keeps [] w w'→(convert 22 9 (.slice A0 (dOf (fld 9 l)).length e0)).run prog w'=.ok (.string t9) w'):=fun w' k=>by rw[conv_bytes w' A0 e0 _ (r0.keep k (by simp)),dOf_tOf,ht9]
 obtain⟨m9,hm9⟩:∃m,(dOf (fld 9 l)).length=m:=⟨_,rfl⟩
 rw[hm9] at cv9 x0
 obtain⟨n17,hn17⟩:∃n,nOf (fld 17 l)=n:=⟨_,rfl⟩
 have l17:n17<4294967296:=hn17▸nOf_lt hP 17 4294967296 (by decide) (.inr (.inr ⟨rfl,rfl⟩))
 have v17:cs[12]?=some (.int .u32 (n17:Int)):=by rw[hsc 12 (by decide) (by decide),cellV,valOf_u32 _ (by decide)];show some (Value.int _ ((nOf (fld 17 l):Nat):Int))=_;rw[hn17]
 obtain⟨f17,hf17⟩:∃b,(fld 17 l).isSome=b:=⟨_,rfl⟩
 have g17:cs[21]?=some (.bool f17):=by rw[hsc 21 (by decide) (by decide),cellV,valOf_f _ (by decide)];show some (Value.bool (fld 17 l).isSome)=_;rw[hf17]
 obtain⟨t18,ht18⟩:∃t,tOf (fld 18 l)=t:=⟨_,rfl⟩
 have v18:cs[6]?=some (.string t18):=by rw[hsc 6 (by decide) (by decide),cellV,valOf_t _ (by decide)];show some (Value.string (tOf (fld 18 l)))=_;rw[ht18]
 obtain⟨n19,hn19⟩:∃n,nOf (fld 19 l)=n:=⟨_,rfl⟩
 have l19:n19<65536:=hn19▸nOf_lt hP 19 65536 (by decide) (.inr (.inl ⟨rfl,rfl⟩))
 have v19:cs[15]?=some (.int .u16 (n19:Int)):=by rw[hsc 15 (by decide) (by decide),cellV,valOf_u16 _ (by decide)];show some (Value.int _ ((nOf (fld 19 l):Nat):Int))=_;rw[hn19]
 obtain⟨f19,hf19⟩:∃b,(fld 19 l).isSome=b:=⟨_,rfl⟩
 have g19:cs[22]?=some (.bool f19):=by rw[hsc 22 (by decide) (by decide),cellV,valOf_f _ (by decide)];show some (Value.bool (fld 19 l).isSome)=_;rw[hf19]
 obtain⟨t21,ht21⟩:∃t,tOf (fld 21 l)=t:=⟨_,rfl⟩
 have v21:cs[7]?=some (.string t21):=by rw[hsc 7 (by decide) (by decide),cellV,valOf_t _ (by decide)];show some (Value.string (tOf (fld 21 l)))=_;rw[ht21]
 obtain⟨t22,ht22⟩:∃t,tOf (fld 22 l)=t:=⟨_,rfl⟩
 have cv22:Hd (∀w',Keeps [] w w'→(convert 22 9 (.slice A2 (dOf (fld 22 l)).length e2)).run prog w'=.ok (.string t22) w'):=fun w' k=>by rw[conv_bytes w' A2 e2 _ (r2.keep k (by simp)),dOf_tOf,ht22]
 obtain⟨m22,hm22⟩:∃m,(dOf (fld 22 l)).length=m:=⟨_,rfl⟩
 rw[hm22] at cv22 x2
 obtain⟨n23,hn23⟩:∃n,nOf (fld 23 l)=n:=⟨_,rfl⟩
 have l23:n23<256:=hn23▸nOf_lt hP 23 256 (by decide) (.inl ⟨rfl,rfl⟩)
 have v23:cs[23]?=some (.int .u8 (n23:Int)):=by rw[hsc 23 (by decide) (by decide),cellV,valOf_u8 _ (by decide)];show some (Value.int _ ((nOf (fld 23 l):Nat):Int))=_;rw[hn23]
 obtain⟨f23,hf23⟩:∃b,(fld 23 l).isSome=b:=⟨_,rfl⟩
 have g23:cs[24]?=some (.bool f23):=by rw[hsc 24 (by decide) (by decide),cellV,valOf_f _ (by decide)];show some (Value.bool (fld 23 l).isSome)=_;rw[hf23]
 obtain⟨n24,hn24⟩:∃n,nOf (fld 24 l)=n:=⟨_,rfl⟩
 have l24:n24<4294967296:=hn24▸nOf_lt hP 24 4294967296 (by decide) (.inr (.inr ⟨rfl,rfl⟩))
 have v24:cs[13]?=some (.int .u32 (n24:Int)):=by rw[hsc 13 (by decide) (by decide),cellV,valOf_u32 _ (by decide)];show some (Value.int _ ((nOf (fld 24 l):Nat):Int))=_;rw[hn24]
 obtain⟨n25,hn25⟩:∃n,nOf (fld 25 l)=n:=⟨_,rfl⟩
 have l25:n25<256:=hn25▸nOf_lt hP 25 256 (by decide) (.inl ⟨rfl,rfl⟩)
 have v25:cs[25]?=some (.int .u8 (n25:Int)):=by rw[hsc 25 (by decide) (by decide),cellV,valOf_u8 _ (by decide)];show some (Value.int _ ((nOf (fld 25 l):Nat):Int))=_;rw[hn25]
 obtain⟨t26,ht26⟩:∃t,tOf (fld 26 l)=t:=⟨_,rfl⟩
 have v26:cs[8]?=some (.string t26):=by rw[hsc 8 (by decide) (by decide),cellV,valOf_t _ (by decide)];show some (Value.string (tOf (fld 26 l)))=_;rw[ht26]
 obtain⟨t28,ht28⟩:∃t,tOf (fld 28 l)=t:=⟨_,rfl⟩
 have v28:cs[9]?=some (.string t28):=by rw[hsc 9 (by decide) (by decide),cellV,valOf_t _ (by decide)];show some (Value.string (tOf (fld 28 l)))=_;rw[ht28]
 obtain⟨t31,ht31⟩:∃t,tOf (fld 31 l)=t:=⟨_,rfl⟩
 have v31:cs[10]?=some (.string t31):=by rw[hsc 10 (by decide) (by decide),cellV,valOf_t _ (by decide)];show some (Value.string (tOf (fld 31 l)))=_;rw[ht31]
 obtain⟨n33,hn33⟩:∃n,nOf (fld 33 l)=n:=⟨_,rfl⟩
 have l33:n33<65536:=hn33▸nOf_lt hP 33 65536 (by decide) (.inr (.inl ⟨rfl,rfl⟩))
 have v33:cs[16]?=some (.int .u16 (n33:Int)):=by rw[hsc 16 (by decide) (by decide),cellV,valOf_u16 _ (by decide)];show some (Value.int _ ((nOf (fld 33 l):Nat):Int))=_;rw[hn33]
 obtain⟨n34,hn34⟩:∃n,nOf (fld 34 l)=n:=⟨_,rfl⟩
 have l34:n34<65536:=hn34▸nOf_lt hP 34 65536 (by decide) (.inr (.inl ⟨rfl,rfl⟩))
 have v34:cs[17]?=some (.int .u16 (n34:Int)):=by rw[hsc 17 (by decide) (by decide),cellV,valOf_u16 _ (by decide)];show some (Value.int _ ((nOf (fld 34 l):Nat):Int))=_;rw[hn34]
 obtain⟨n35,hn35⟩:∃n,nOf (fld 35 l)=n:=⟨_,rfl⟩
 have l35:n35<65536:=hn35▸nOf_lt hP 35 65536 (by decide) (.inr (.inl ⟨rfl,rfl⟩))
 have v35:cs[18]?=some (.int .u16 (n35:Int)):=by rw[hsc 18 (by decide) (by decide),cellV,valOf_u16 _ (by decide)];show some (Value.int _ ((nOf (fld 35 l):Nat):Int))=_;rw[hn35]
 obtain⟨f35,hf35⟩:∃b,(fld 35 l).isSome=b:=⟨_,rfl⟩
 have g35:cs[26]?=some (.bool f35):=by rw[hsc 26 (by decide) (by decide),cellV,valOf_f _ (by decide)];show some (Value.bool (fld 35 l).isSome)=_;rw[hf35]
 obtain⟨n36,hn36⟩:∃n,nOf (fld 36 l)=n:=⟨_,rfl⟩
 have l36:n36<256:=hn36▸nOf_lt hP 36 256 (by decide) (.inl ⟨rfl,rfl⟩)
 have v36:cs[27]?=some (.int .u8 (n36:Int)):=by rw[hsc 27 (by decide) (by decide),cellV,valOf_u8 _ (by decide)];show some (Value.int _ ((nOf (fld 36 l):Nat):Int))=_;rw[hn36]
 obtain⟨f36,hf36⟩:∃b,(fld 36 l).isSome=b:=⟨_,rfl⟩
 have g36:cs[28]?=some (.bool f36):=by rw[hsc 28 (by decide) (by decide),cellV,valOf_f _ (by decide)];show some (Value.bool (fld 36 l).isSome)=_;rw[hf36]
 obtain⟨n37,hn37⟩:∃n,nOf (fld 37 l)=n:=⟨_,rfl⟩
 have l37:n37<256:=hn37▸nOf_lt hP 37 256 (by decide) (.inl ⟨rfl,rfl⟩)
 have v37:cs[29]?=some (.int .u8 (n37:Int)):=by rw[hsc 29 (by decide) (by decide),cellV,valOf_u8 _ (by decide)];show some (Value.int _ ((nOf (fld 37 l):Nat):Int))=_;rw[hn37]
 obtain⟨f37,hf37⟩:∃b,(fld 37 l).isSome=b:=⟨_,rfl⟩
 have g37:cs[30]?=some (.bool f37):=by rw[hsc 30 (by decide) (by decide),cellV,valOf_f _ (by decide)];show some (Value.bool (fld 37 l).isSome)=_;rw[hf37]
 obtain⟨n39,hn39⟩:∃n,nOf (fld 39 l)=n:=⟨_,rfl⟩
 have l39:n39<4294967296:=hn39▸nOf_lt hP 39 4294967296 (by decide) (.inr (.inr ⟨rfl,rfl⟩))
 have v39:cs[14]?=some (.int .u32 (n39:Int)):=by rw[hsc 14 (by decide) (by decide),cellV,valOf_u32 _ (by decide)];show some (Value.int _ ((nOf (fld 39 l):Nat):Int))=_;rw[hn39]
 obtain⟨n40,hn40⟩:∃n,nOf (fld 40 l)=n:=⟨_,rfl⟩
 have l40:n40<256:=hn40▸nOf_lt hP 40 256 (by decide) (.inl ⟨rfl,rfl⟩)
 have v40:cs[31]?=some (.int .u8 (n40:Int)):=by rw[hsc 31 (by decide) (by decide),cellV,valOf_u8 _ (by decide)];show some (Value.int _ ((nOf (fld 40 l):Nat):Int))=_;rw[hn40]
 obtain⟨f40,hf40⟩:∃b,(fld 40 l).isSome=b:=⟨_,rfl⟩
 have g40:cs[32]?=some (.bool f40):=by rw[hsc 32 (by decide) (by decide),cellV,valOf_f _ (by decide)];show some (Value.bool (fld 40 l).isSome)=_;rw[hf40]
 obtain⟨n41,hn41⟩:∃n,nOf (fld 41 l)=n:=⟨_,rfl⟩
 have l41:n41<256:=hn41▸nOf_lt hP 41 256 (by decide) (.inl ⟨rfl,rfl⟩)
 have v41:cs[33]?=some (.int .u8 (n41:Int)):=by rw[hsc 33 (by decide) (by decide),cellV,valOf_u8 _ (by decide)];show some (Value.int _ ((nOf (fld 41 l):Nat):Int))=_;rw[hn41]
 obtain⟨f41,hf41⟩:∃b,(fld 41 l).isSome=b:=⟨_,rfl⟩
 have g41:cs[34]?=some (.bool f41):=by rw[hsc 34 (by decide) (by decide),cellV,valOf_f _ (by decide)];show some (Value.bool (fld 41 l).isSome)=_;rw[hf41]
 obtain⟨n42,hn42⟩:∃n,nOf (fld 42 l)=n:=⟨_,rfl⟩
 have l42:n42<256:=hn42▸nOf_lt hP 42 256 (by decide) (.inl ⟨rfl,rfl⟩)
 have v42:cs[35]?=some (.int .u8 (n42:Int)):=by rw[hsc 35 (by decide) (by decide),cellV,valOf_u8 _ (by decide)];show some (Value.int _ ((nOf (fld 42 l):Nat):Int))=_;rw[hn42]
 obtain⟨f42,hf42⟩:∃b,(fld 42 l).isSome=b:=⟨_,rfl⟩
 have g42:cs[36]?=some (.bool f42):=by rw[hsc 36 (by decide) (by decide),cellV,valOf_f _ (by decide)];show some (Value.bool (fld 42 l).isSome)=_;rw[hf42]
 have HN1:=hH r1
 have HU3:=hH r3
 have hnl:(numsOf l).length≤20:=Nat.le_trans (numsOf_le l) hP.len
 have hul:(usersOf l).length≤20:=Nat.le_trans (usersOf_le l) hP.len
 have HNN1:=hH hn1
 have HF1:=hH hf1
 have HV1:=hH v1
 have HG1:=hH g1
 have HNN2:=hH hn2
 have HV2:=hH v2
 have HT3:=hH ht3
 have HV3:=hH v3
 have HT8:=hH ht8
 have HV8:=hH v8
 have HT9:=hH ht9
 have HV9:=hH x0
 have HNN17:=hH hn17
 have HF17:=hH hf17
 have HV17:=hH v17
 have HG17:=hH g17
 have HT18:=hH ht18
 have HV18:=hH v18
 have HNN19:=hH hn19
 have HF19:=hH hf19
 have HV19:=hH v19
 have HG19:=hH g19
 have HT21:=hH ht21
 have HV21:=hH v21
 have HT22:=hH ht22
 have HV22:=hH x2
 have HNN23:=hH hn23
 have HF23:=hH hf23
 have HV23:=hH v23
 have HG23:=hH g23
 have HNN24:=hH hn24
 have HV24:=hH v24
 have HNN25:=hH hn25
 have HV25:=hH v25
 have HT26:=hH ht26
 have HV26:=hH v26
 have HT28:=hH ht28
 have HV28:=hH v28
 have HT31:=hH ht31
 have HV31:=hH v31
 have HNN33:=hH hn33
 have HV33:=hH v33
 have HNN34:=hH hn34
 have HV34:=hH v34
 have HNN35:=hH hn35
 have HF35:=hH hf35
 have HV35:=hH v35
 have HG35:=hH g35
 have HNN36:=hH hn36
 have HF36:=hH hf36
 have HV36:=hH v36
 have HG36:=hH g36
 have HNN37:=hH hn37
 have HF37:=hH hf37
 have HV37:=hH v37
 have HG37:=hH g37
 have HNN39:=hH hn39
 have HV39:=hH v39
 have HNN40:=hH hn40
 have HF40:=hH hf40
 have HV40:=hH v40
 have HG40:=hH g40
 have HNN41:=hH hn41
 have HF41:=hH hf41
 have HV41:=hH v41
 have HG41:=hH g41
 have HNN42:=hH hn42
 have HF42:=hH hf42
 have HV42:=hH v42
 have HG42:=hH g42
 have HX1:=hH x1
 have HX3:=hH x3
 clear hW hP hS hsc r0 r1 r2 r3 x0 x1 x2 x3 hn1 v1 hn2 v2 hn17 v17 hn19 v19 hn23 v23 hn24 v24 hn25 v25 hn33 v33 hn34 v34 hn35 v35 hn36 v36 hn37 v37 hn39 v39 hn40 v40 hn41 v41 hn42 v42 hf1 g1 hf17 g17 hf19 g19 hf23 g23 hf35 g35 hf36 g36 hf37 g37 hf40 g40 hf41 g41 hf42 g42 ht3 v3 ht8 v8 ht18 v18 ht21 v21 ht26 v26 ht28 v28 ht31 v31 ht9 hm9 ht22 hm22
 have hd:∀(wx:World) (dx:Option Nat) (L:List PropV),PBAt W (w.heap.size+1) none dx L wx→Blk wx w.heap.size 76 cs:=fun wx dx L hb=>HM.o.keep hb.keeps (by simp)
 have HD:=hH hd
 have HSL:Hd (∀k,(Sk l k).length≤540):=fun k=>Sk_le HP.o k
 have HKX:Hd (∀(wx:World) (dx:Option Nat) (L:List PropV),PBAt W (w.heap.size+1) none dx L wx→Keeps [w.heap.size+1] w wx):=fun wx dx L hb=>(HKW.o.mono (by simp)).trans hb.keeps (by simp)
 clear hd
 go_enter func78,ntmps78
 go_upto_region 4 with fail
 go_cut [] from 12 to 18 (fun wc=>∃d,PBAt W (w.heap.size+1) none d (Sk l 1) wc)
 case first=>
  as_aux_lemma=>
   have hb:PBAt W (w.heap.size+1) none none (Sk l 0) W:=PBAt.refl HB0.o
   rw[HW.o]
   have hk:=HD.o _ _ _ hb
   have hs:=HSL.o 0
   have hsu:Hd (Sk l 1=Sk l 0++sel 1 l):=Sk_succ l 0 1 rfl
   have c19:=(hk.cell 19).trans HV1.o
   have c20:=(hk.cell 20).trans HG1.o
   clear hk
   have hstep:=hH (stepN HP.o 1 (by decide) f1 n1 HF1.o HNN1.o hb.buf hs)
   exact zJ0
 case rest=>
 obtain⟨d1,hb⟩:=hcut
 go_step
 go_step
 go_cut [] from 19 to 25 (fun wc=>∃d,PBAt W (w.heap.size+1) none d (Sk l 2) wc)
 case first=>
  as_aux_lemma=>
   have hk:=HD.o _ _ _ hb
   have hs:=HSL.o 1
   have hsu:Hd (Sk l 2=Sk l 1++sel 2 l):=Sk_succ l 1 2 rfl
   have c11:=(hk.cell 11).trans HV2.o
   clear hk
   have hstep:=hH (stepP HP.o 2 (by decide) n2 HNN2.o hb.buf hs)
   exact zJ0
 case rest=>
 clear hb
 obtain⟨d1,hb⟩:=hcut
 go_step
 go_step
 go_cut [] from 26 to 29 (fun wc=>∃d,PBAt W (w.heap.size+1) none d (Sk l 3) wc)
 case first=>
  as_aux_lemma=>
   have hk:=HD.o _ _ _ hb
   have hs:=HSL.o 2
   have hsu:Hd (Sk l 3=Sk l 2++sel 3 l):=Sk_succ l 2 3 rfl
   have c4:=(hk.cell 4).trans HV3.o
   clear hk
   have hstep:=hH (stepT HP.o 3 (by decide) t3 HT3.o hb.buf hs)
   exact zJ0
 case rest=>
 clear hb
 obtain⟨d1,hb⟩:=hcut
 go_step
 go_step
 go_cut [] from 30 to 33 (fun wc=>∃d,PBAt W (w.heap.size+1) none d (Sk l 4) wc)
 case first=>
  as_aux_lemma=>
   have hk:=HD.o _ _ _ hb
   have hs:=HSL.o 3
   have hsu:Hd (Sk l 4=Sk l 3++sel 8 l):=Sk_succ l 3 8 rfl
   have c5:=(hk.cell 5).trans HV8.o
   clear hk
   have hstep:=hH (stepT HP.o 8 (by decide) t8 HT8.o hb.buf hs)
   exact zJ0
 case rest=>
 clear hb
 obtain⟨d1,hb⟩:=hcut
 go_step
 go_step
 go_cut [] from 34 to 38 (fun wc=>∃d,PBAt W (w.heap.size+1) none d (Sk l 5) wc)
 case first=>
  as_aux_lemma=>
   have hk:=HD.o _ _ _ hb
   have hs:=HSL.o 4
   have hsu:Hd (Sk l 5=Sk l 4++sel 9 l):=Sk_succ l 4 9 rfl
   have c0:=(hk.cell 0).trans HV9.o
   have cw:=cv9.o wc ((HKX.o _ _ _ hb).mono (by simp))
   clear hk
   have hstep:=hH (stepT HP.o 9 (by decide) t9 HT9.o hb.buf hs)
   exact zJ0
 case rest=>
 clear hb
 obtain⟨d1,hb⟩:=hcut
 go_step
 go_step
 go_cut [] from 39 to 50 (fun wc=>∃d,PBAt W (w.heap.size+1) none d (Sk l 6) wc)
 case first=>
  as_aux_lemma=>
   have hk:=HD.o _ _ _ hb
   have hs:=HSL.o 5
   have hsu:Hd (Sk l 6=Sk l 5++sel 11 l):=Sk_succ l 5 11 rfl
   have c1:=(hk.cell 1).trans HX1.o
   have HB:=hH hb
   have hns:Hd (∀n∈numsOf l,n<268435456):=by
    intro n hn
    simp only[numsOf,List.mem_map,List.mem_filter,beq_iff_eq] at hn
    obtain⟨x,⟨hm,hi⟩,rfl⟩:=hn
    exact((HP.o.ok x hm).k5 (by rw[hi];rfl)).2
   have hsn:Hd (sel 11 l=(numsOf l).map fun n=>⟨11,n,⟨#[]⟩,⟨#[]⟩⟩):=sel_nums HP.o
   obtain⟨ns,hnse⟩:∃ns,numsOf l=ns:=⟨_,rfl⟩
   rw[hnse] at c1 hns hsn HN1 hnl
   clear hk hb hnse
   go_wp2_with fail
   go_loopg [42] (ns.length+1) (fun gk i wr=>NRel W (w.heap.size+1) (Sk l 5) ns gk i wr)
   case atStart=>exact⟨0,d1,rfl,by omega,by omega,by simpa using HB.o⟩
   case round=>
    obtain⟨k,d2,rfl,hkl,hgk,hbr⟩:=hrel
    have HBR:=hH hbr
    clear hbr
    by_cases hlt:k<ns.length
    ·obtain⟨g',rfl⟩:∃g',gk=g'+1:=⟨gk-1,by omega⟩
     have hltz:(k:Int)<(ns.length:Int):=by omega
     obtain⟨b0,o0,rfl,hcl⟩:=HN1.o.2 (by omega)
     obtain⟨n,hn⟩:∃n,ns[k]=n:=⟨_,rfl⟩
     have hnlt:=hns.o n (by rw[←hn];exact List.getElem_mem _)
     have hcx:wr.cell? ⟨b0,o0+k,none⟩=some (.int .i64 (n:Int)):=(HKX.o _ _ _ HBR.o).some_ (hcl k _ (by rw[List.getElem?_map,List.getElem?_eq_getElem hlt,hn];rfl)) (by have:=y1 _ rfl;simp at this ⊢;omega)
     have htk:Hd ((ns.take (k+1)).map (fun n=>(⟨11,n,⟨#[]⟩,⟨#[]⟩⟩:PropV))=(ns.take k).map (fun n=>(⟨11,n,⟨#[]⟩,⟨#[]⟩⟩:PropV))++[⟨11,n,⟨#[]⟩,⟨#[]⟩⟩]):=by
      rw[List.take_succ_eq_append_getElem hlt,List.map_append,hn];show _=_;rfl
     have hcv:IntKind.u32.wrap (n:Int)=(n:Int):=IntWalk.u32_in _ (by omega)
     have hstep:=hH (number_c wr (w.heap.size+1) d2 _ 11 n HBR.o.buf (by simp only[List.length_append,List.length_map,List.length_take];omega))
     clear hcl hn
     go_wp2_with fail
     go_fit (hstep.o)
     rintro e w1 ⟨rfl,d3,hb3⟩
     go_wp2_with fail
     go_roundg g'
     case measure=>omega
     case rel=>exact⟨k+1,d3,by go_num,by omega,by omega,by rw[htk.o,←List.append_assoc];exact HBR.o.trans hb3⟩
    ·exact zJ2
 case rest=>
 clear hb
 obtain⟨d1,hb⟩:=hcut
 go_step
 go_step
 go_cut [] from 51 to 56 (fun wc=>∃d,PBAt W (w.heap.size+1) none d (Sk l 7) wc)
 case first=>
  as_aux_lemma=>
   have hk:=HD.o _ _ _ hb
   have hs:=HSL.o 6
   have hsu:Hd (Sk l 7=Sk l 6++sel 17 l):=Sk_succ l 6 17 rfl
   have c12:=(hk.cell 12).trans HV17.o
   have c21:=(hk.cell 21).trans HG17.o
   clear hk
   have hstep:=hH (stepN HP.o 17 (by decide) f17 n17 HF17.o HNN17.o hb.buf hs)
   exact zJ0
 case rest=>
 clear hb
 obtain⟨d1,hb⟩:=hcut
 go_step
 go_step
 go_cut [] from 57 to 60 (fun wc=>∃d,PBAt W (w.heap.size+1) none d (Sk l 8) wc)
 case first=>
  as_aux_lemma=>
   have hk:=HD.o _ _ _ hb
   have hs:=HSL.o 7
   have hsu:Hd (Sk l 8=Sk l 7++sel 18 l):=Sk_succ l 7 18 rfl
   have c6:=(hk.cell 6).trans HV18.o
   clear hk
   have hstep:=hH (stepT HP.o 18 (by decide) t18 HT18.o hb.buf hs)
   exact zJ0
 case rest=>
 clear hb
 obtain⟨d1,hb⟩:=hcut
 go_step
 go_step
 go_cut [] from 61 to 67 (fun wc=>∃d,PBAt W (w.heap.size+1) none d (Sk l 9) wc)
 case first=>
  as_aux_lemma=>
   have hk:=HD.o _ _ _ hb
   have hs:=HSL.o 8
   have hsu:Hd (Sk l 9=Sk l 8++sel 19 l):=Sk_succ l 8 19 rfl
   have c15:=(hk.cell 15).trans HV19.o
   have c22:=(hk.cell 22).trans HG19.o
   clear hk
   have hstep:=hH (stepN HP.o 19 (by decide) f19 n19 HF19.o HNN19.o hb.buf hs)
   exact zJ0
 case rest=>
 clear hb
 obtain⟨d1,hb⟩:=hcut
 go_step
 go_step
 go_cut [] from 68 to 71 (fun wc=>∃d,PBAt W (w.heap.size+1) none d (Sk l 10) wc)
 case first=>
  as_aux_lemma=>
   have hk:=HD.o _ _ _ hb
   have hs:=HSL.o 9
   have hsu:Hd (Sk l 10=Sk l 9++sel 21 l):=Sk_succ l 9 21 rfl
   have c7:=(hk.cell 7).trans HV21.o
   clear hk
   have hstep:=hH (stepT HP.o 21 (by decide) t21 HT21.o hb.buf hs)
   exact zJ0
 case rest=>
 clear hb
 obtain⟨d1,hb⟩:=hcut
 go_step
 go_step
 go_cut [] from 72 to 76 (fun wc=>∃d,PBAt W (w.heap.size+1) none d (Sk l 11) wc)
 case first=>
  as_aux_lemma=>
   have hk:=HD.o _ _ _ hb
   have hs:=HSL.o 10
   have hsu:Hd (Sk l 11=Sk l 10++sel 22 l):=Sk_succ l 10 22 rfl
   have c2:=(hk.cell 2).trans HV22.o
   have cw:=cv22.o wc ((HKX.o _ _ _ hb).mono (by simp))
   clear hk
   have hstep:=hH (stepT HP.o 22 (by decide) t22 HT22.o hb.buf hs)
   exact zJ0
 case rest=>
 clear hb
 obtain⟨d1,hb⟩:=hcut
 go_step
 go_step
 go_cut [] from 77 to 83 (fun wc=>∃d,PBAt W (w.heap.size+1) none d (Sk l 12) wc)
 case first=>
  as_aux_lemma=>
   have hk:=HD.o _ _ _ hb
   have hs:=HSL.o 11
   have hsu:Hd (Sk l 12=Sk l 11++sel 23 l):=Sk_succ l 11 23 rfl
   have c23:=(hk.cell 23).trans HV23.o
   have c24:=(hk.cell 24).trans HG23.o
   clear hk
   have hstep:=hH (stepN HP.o 23 (by decide) f23 n23 HF23.o HNN23.o hb.buf hs)
   exact zJ0
 case rest=>
 clear hb
 obtain⟨d1,hb⟩:=hcut
 go_step
 go_step
 go_cut [] from 84 to 90 (fun wc=>∃d,PBAt W (w.heap.size+1) none d (Sk l 13) wc)
 case first=>
  as_aux_lemma=>
   have hk:=HD.o _ _ _ hb
   have hs:=HSL.o 12
   have hsu:Hd (Sk l 13=Sk l 12++sel 24 l):=Sk_succ l 12 24 rfl
   have c13:=(hk.cell 13).trans HV24.o
   clear hk
   have hstep:=hH (stepP HP.o 24 (by decide) n24 HNN24.o hb.buf hs)
   exact zJ0
 case rest=>
 clear hb
 obtain⟨d1,hb⟩:=hcut
 go_step
 go_step
 go_cut [] from 91 to 98 (fun wc=>∃d,PBAt W (w.heap.size+1) none d (Sk l 14) wc)
 case first=>
  as_aux_lemma=>
   have hk:=HD.o _ _ _ hb
   have hs:=HSL.o 13
   have hsu:Hd (Sk l 14=Sk l 13++sel 25 l):=Sk_succ l 13 25 rfl
   have c25:=(hk.cell 25).trans HV25.o
   clear hk
   have hstep:=hH (stepP HP.o 25 (by decide) n25 HNN25.o hb.buf hs)
   exact zJ0
 case rest=>
 clear hb
 obtain⟨d1,hb⟩:=hcut
 go_step
 go_step
 go_cut [] from 99 to 102 (fun wc=>∃d,PBAt W (w.heap.size+1) none d (Sk l 15) wc)
 case first=>
  as_aux_lemma=>
   have hk:=HD.o _ _ _ hb
   have hs:=HSL.o 14
   have hsu:Hd (Sk l 15=Sk l 14++sel 26 l):=Sk_succ l 14 26 rfl
   have c8:=(hk.cell 8).trans HV26.o
   clear hk
   have hstep:=hH (stepT HP.o 26 (by decide) t26 HT26.o hb.buf hs)
   exact zJ0
 case rest=>
 clear hb
 obtain⟨d1,hb⟩:=hcut
 go_step
 go_step
 go_cut [] from 103 to 106 (fun wc=>∃d,PBAt W (w.heap.size+1) none d (Sk l 16) wc)
 case first=>
  as_aux_lemma=>
   have hk:=HD.o _ _ _ hb
   have hs:=HSL.o 15
   have hsu:Hd (Sk l 16=Sk l 15++sel 28 l):=Sk_succ l 15 28 rfl
   have c9:=(hk.cell 9).trans HV28.o
   clear hk
   have hstep:=hH (stepT HP.o 28 (by decide) t28 HT28.o hb.buf hs)
   exact zJ0
 case rest=>
 clear hb
 obtain⟨d1,hb⟩:=hcut
 go_step
 go_step
 go_cut [] from 107 to 110 (fun wc=>∃d,PBAt W (w.heap.size+1) none d (Sk l 17) wc)
 case first=>
  as_aux_lemma=>
   have hk:=HD.o _ _ _ hb
   have hs:=HSL.o 16
   have hsu:Hd (Sk l 17=Sk l 16++sel 31 l):=Sk_succ l 16 31 rfl
   have c10:=(hk.cell 10).trans HV31.o
   clear hk
   have hstep:=hH (stepT HP.o 31 (by decide) t31 HT31.o hb.buf hs)
   exact zJ0
 case rest=>
 clear hb
 obtain⟨d1,hb⟩:=hcut
 go_step
 go_step
 go_cut [] from 111 to 118 (fun wc=>∃d,PBAt W (w.heap.size+1) none d (Sk l 18) wc)
 case first=>
  as_aux_lemma=>
   have hk:=HD.o _ _ _ hb
   have hs:=HSL.o 17
   have hsu:Hd (Sk l 18=Sk l 17++sel 33 l):=Sk_succ l 17 33 rfl
   have c16:=(hk.cell 16).trans HV33.o
   clear hk
   have hstep:=hH (stepP HP.o 33 (by decide) n33 HNN33.o hb.buf hs)
   exact zJ0
 case rest=>
 clear hb
 obtain⟨d1,hb⟩:=hcut
 go_step
 go_step
 go_cut [] from 119 to 126 (fun wc=>∃d,PBAt W (w.heap.size+1) none d (Sk l 19) wc)
 case first=>
  as_aux_lemma=>
   have hk:=HD.o _ _ _ hb
   have hs:=HSL.o 18
   have hsu:Hd (Sk l 19=Sk l 18++sel 34 l):=Sk_succ l 18 34 rfl
   have c17:=(hk.cell 17).trans HV34.o
   clear hk
   have hstep:=hH (stepP HP.o 34 (by decide) n34 HNN34.o hb.buf hs)
   exact zJ0
 case rest=>
 clear hb
 obtain⟨d1,hb⟩:=hcut
 go_step
 go_step
 go_cut [] from 127 to 133 (fun wc=>∃d,PBAt W (w.heap.size+1) none d (Sk l 20) wc)
 case first=>
  as_aux_lemma=>
   have hk:=HD.o _ _ _ hb
   have hs:=HSL.o 19
   have hsu:Hd (Sk l 20=Sk l 19++sel 35 l):=Sk_succ l 19 35 rfl
   have c18:=(hk.cell 18).trans HV35.o
   have c26:=(hk.cell 26).trans HG35.o
   clear hk
   have hstep:=hH (stepN HP.o 35 (by decide) f35 n35 HF35.o HNN35.o hb.buf hs)
   exact zJ0
 case rest=>
 clear hb
 obtain⟨d1,hb⟩:=hcut
 go_step
 go_step
 go_cut [] from 134 to 140 (fun wc=>∃d,PBAt W (w.heap.size+1) none d (Sk l 21) wc)
 case first=>
  as_aux_lemma=>
   have hk:=HD.o _ _ _ hb
   have hs:=HSL.o 20
   have hsu:Hd (Sk l 21=Sk l 20++sel 36 l):=Sk_succ l 20 36 rfl
   have c27:=(hk.cell 27).trans HV36.o
   have c28:=(hk.cell 28).trans HG36.o
   clear hk
   have hstep:=hH (stepN HP.o 36 (by decide) f36 n36 HF36.o HNN36.o hb.buf hs)
   exact zJ0
 case rest=>
 clear hb
 obtain⟨d1,hb⟩:=hcut
 go_step
 go_step
 go_cut [] from 141 to 147 (fun wc=>∃d,PBAt W (w.heap.size+1) none d (Sk l 22) wc)
 case first=>
  as_aux_lemma=>
   have hk:=HD.o _ _ _ hb
   have hs:=HSL.o 21
   have hsu:Hd (Sk l 22=Sk l 21++sel 37 l):=Sk_succ l 21 37 rfl
   have c29:=(hk.cell 29).trans HV37.o
   have c30:=(hk.cell 30).trans HG37.o
   clear hk
   have hstep:=hH (stepN HP.o 37 (by decide) f37 n37 HF37.o HNN37.o hb.buf hs)
   exact zJ0
 case rest=>
 clear hb
 obtain⟨d1,hb⟩:=hcut
 go_step
 go_step
 go_cut [] from 148 to 163 (fun wc=>∃d,PBAt W (w.heap.size+1) none d (Sk l 23) wc)
 case first=>
  as_aux_lemma=>
   have hk:=HD.o _ _ _ hb
   have hs:=HSL.o 22
   have hsu:Hd (Sk l 23=Sk l 22++sel 38 l):=Sk_succ l 22 38 rfl
   have c3:=(hk.cell 3).trans HX3.o
   have HB:=hH hb
   have hsn:Hd (sel 38 l=(usersOf l).map fun u=>⟨38,0,u.1,u.2⟩):=sel_users HP.o
   obtain⟨us,huse⟩:∃us,usersOf l=us:=⟨_,rfl⟩
   rw[huse] at c3 hsn HU3 hul
   clear hk hb huse
   obtain⟨i0,hi0,hz0,hz1,hz2⟩:=info_parts info98
   go_wp2_with fail
   go_loopg [151] (us.length+1) (fun gk i wr=>URel W (w.heap.size+1) (Sk l 22) us gk i wr)
   case atStart=>exact⟨0,d1,rfl,by omega,by omega,by simpa using HB.o⟩
   case round=>
    obtain⟨k,d2,rfl,hkl,hgk,hbr⟩:=hrel
    have HBR:=hH hbr
    by_cases hlt:k<us.length
    ·obtain⟨g',rfl⟩:∃g',gk=g'+1:=⟨gk-1,by omega⟩
     have hltz:(k:Int)<(us.length:Int):=by omega
     obtain⟨b0,o0,rfl,hcl⟩:=HU3.o.2 (by omega)
     obtain⟨⟨ka,va⟩,hu⟩:∃u,us[k]=u:=⟨_,rfl⟩
     have hfg:=flat2_get us k (ka,va) (by rw[List.getElem?_eq_getElem hlt,hu])
     have hbn:b0∉[w.heap.size+1]:=by have:=y3 _ rfl;simp at this ⊢;omega
     have hcx:wr.cell? ⟨b0,o0+k*2,none⟩=some (.string ka):=(HKX.o _ _ _ hbr).some_ (hcl _ _ hfg.1) hbn
     have hcy:wr.cell? ⟨b0,o0+k*2+1,none⟩=some (.string va):=(HKX.o _ _ _ hbr).some_ (by rw[Nat.add_assoc];exact hcl _ _ hfg.2) hbn
     have htk:Hd ((us.take (k+1)).map (fun u=>(⟨38,0,u.1,u.2⟩:PropV))=(us.take k).map (fun u=>(⟨38,0,u.1,u.2⟩:PropV))++[⟨38,0,ka,va⟩]):=by
      rw[List.take_succ_eq_append_getElem hlt,List.map_append,hu];show _=_;rfl
     obtain⟨L,hL⟩:∃L,Sk l 22++(us.take k).map (fun u=>(⟨38,0,u.1,u.2⟩:PropV))=L:=⟨_,rfl⟩
     have hLl:L.length≤600:=by rw[←hL];simp only[List.length_append,List.length_map,List.length_take];omega
     rw[hL] at hbr
     have HLE:=hH hL
     have hbb:=hbr.buf
     have hdlt:=hbb.dlt
     have hkp:=hbr.keeps
     have hfr:=hbr.fresh
     obtain⟨A4,c4,hb4,ho4,hd4⟩:=hbb
     obtain⟨M,hM⟩:∃M,L.length=M:=⟨_,rfl⟩
     have ho5:((wr.alloc (.cells #[.string ka,.string va] 124)).alloc (.cells #[.int .i64 38,.int .u32 0,.string ka,.string va] 98)).ownsRow 0 98 4 (.slice A4 L.length c4) L.length (L.flatMap PropV.cells):=(ho4.alloc _).alloc _
     have hr5:Rd ((wr.alloc (.cells #[.string ka,.string va] 124)).alloc (.cells #[.int .i64 38,.int .u32 0,.string ka,.string va] 98)) 4 (some ⟨wr.heap.size+1,0,none⟩) 1 [.int .i64 38,.int .u32 0,.string ka,.string va]:=by
      have h:=rd_new (wr.alloc (.cells #[.string ka,.string va] 124)) 98 #[.int .i64 38,.int .u32 0,.string ka,.string va] 4 1 rfl
      rwa [World.size_alloc] at h
     have hb5:=(hb4.alloc (.cells #[.string ka,.string va] 124)).alloc (.cells #[.int .i64 38,.int .u32 0,.string ka,.string va] 98)
     have c4x:wr.cell? ⟨w.heap.size+1,0,none⟩=some (.slice A4 M c4):=by rw[hb4.cell,←hM];rfl
     have c4y:(wr.alloc (.cells #[.string ka,.string va] 124)).cell? ⟨w.heap.size+1,0,none⟩=some (.slice A4 M c4):=by rw[(hb4.alloc _).cell,←hM];rfl
     have hdn:∀q,d2=some q→w.heap.size+1≠q:=fun q hq=>own_ne ho4 hb4 (by decide) q (by rw[own_slice,hd4];exact hq)
     rw[hM] at ho5 hLl
     have HM5:=hH hM
     have HO5:=hH ho5
     have HR5:=hH hr5
     have HB4:=hH hb4
     have HB5:=hH hb5
     have HD4:=hH hd4
     clear hcl hu hL hM ho4 ho5 hr5 hb4 hb5 hd4 hbr hfg hkp hfr
     go_wp2_with (at_builtin;refine wpList_append_rd _ rfl (.tmp 155) (.tmp 161) 27 rfl 98 i0 _ 4 48 underlying27 hi0 hz0 hz1 hz2 rfl (by decide) (.slice A4 M c4) M _ rfl HO5.o _ 1 1 _ rfl HR5.o (by intro u hu;simp at hu;rcases hu with rfl|rfl|rfl|rfl<;>rfl) (by omega) (by unfold maxLen;omega) ?_;intro A6 c6 w6 ho6 hk6 hd6;rw[own_slice,HD4.o] at hk6 hd6;have HB6:=hH (HB5.o.keep hk6 (by cases e:d2 with|none=>simp|some k=>simpa using hdn k e));have hc6:w6.cell? ⟨w.heap.size+1,0,none⟩=some (.slice A4 L.length c4):=(by rw[HB6.o.cell];rfl);have hf6:w6.frozen? ⟨w.heap.size+1,0,none⟩=false:=HB6.o.frozen 0)
     go_roundg g'
     case measure=>omega
     case rel=>
      have h9:=pbTo_of (l:=L++[⟨38,0,ka,va⟩]) (A1:=A6) (n1:=M+1) (c1:=c6) HB4.o (by simp[HM5.o]) (by rw[List.flatMap_append];exact ho6) ((((Keeps.alloc wr _).trans (Keeps.alloc _ _) (by simp)).mono (by simp)).trans hk6 (fun k h=>.inl h)) (hd6.imp id fun h=>⟨_,h,by simp;omega⟩) hdn
      obtain⟨d3,h9⟩:=h9
      exact⟨k+1,d3,by go_num,by omega,by omega,by rw[htk.o,←List.append_assoc,HLE.o];have h:=HBR.o;rw[HLE.o] at h;exact h.trans h9⟩
    ·clear hbr
     exact zJ2
 case rest=>
 clear hb
 obtain⟨d1,hb⟩:=hcut
 go_step
 go_step
 go_cut [] from 164 to 170 (fun wc=>∃d,PBAt W (w.heap.size+1) none d (Sk l 24) wc)
 case first=>
  as_aux_lemma=>
   have hk:=HD.o _ _ _ hb
   have hs:=HSL.o 23
   have hsu:Hd (Sk l 24=Sk l 23++sel 39 l):=Sk_succ l 23 39 rfl
   have c14:=(hk.cell 14).trans HV39.o
   clear hk
   have hstep:=hH (stepP HP.o 39 (by decide) n39 HNN39.o hb.buf hs)
   exact zJ0
 case rest=>
 clear hb
 obtain⟨d1,hb⟩:=hcut
 go_step
 go_step
 go_cut [] from 171 to 177 (fun wc=>∃d,PBAt W (w.heap.size+1) none d (Sk l 25) wc)
 case first=>
  as_aux_lemma=>
   have hk:=HD.o _ _ _ hb
   have hs:=HSL.o 24
   have hsu:Hd (Sk l 25=Sk l 24++sel 40 l):=Sk_succ l 24 40 rfl
   have c31:=(hk.cell 31).trans HV40.o
   have c32:=(hk.cell 32).trans HG40.o
   clear hk
   have hstep:=hH (stepN HP.o 40 (by decide) f40 n40 HF40.o HNN40.o hb.buf hs)
   exact zJ0
 case rest=>
 clear hb
 obtain⟨d1,hb⟩:=hcut
 go_step
 go_step
 go_cut [] from 178 to 184 (fun wc=>∃d,PBAt W (w.heap.size+1) none d (Sk l 26) wc)
 case first=>
  as_aux_lemma=>
   have hk:=HD.o _ _ _ hb
   have hs:=HSL.o 25
   have hsu:Hd (Sk l 26=Sk l 25++sel 41 l):=Sk_succ l 25 41 rfl
   have c33:=(hk.cell 33).trans HV41.o
   have c34:=(hk.cell 34).trans HG41.o
   clear hk
   have hstep:=hH (stepN HP.o 41 (by decide) f41 n41 HF41.o HNN41.o hb.buf hs)
   exact zJ0
 case rest=>
 clear hb
 obtain⟨d1,hb⟩:=hcut
 go_step
 go_step
 go_cut [] from 185 to 191 (fun wc=>∃d,PBAt W (w.heap.size+1) none d (Sk l 27) wc)
 case first=>
  as_aux_lemma=>
   have hk:=HD.o _ _ _ hb
   have hs:=HSL.o 26
   have hsu:Hd (Sk l 27=Sk l 26++sel 42 l):=Sk_succ l 26 42 rfl
   have c35:=(hk.cell 35).trans HV42.o
   have c36:=(hk.cell 36).trans HG42.o
   clear hk
   have hstep:=hH (stepN HP.o 42 (by decide) f42 n42 HF42.o HNN42.o hb.buf hs)
   exact zJ0
 case rest=>
 clear hb
 obtain⟨d1,hb⟩:=hcut
 go_step
 go_step
 have hl:Sk l 27=l:=HP.o.flat
 rw[hl] at hb
 obtain⟨A,c,h1,h2,h3⟩:=hb.buf
 have hc:wc.cell? ⟨w.heap.size+1,0,none⟩=some (.slice A l.length c):=by rw[h1.cell];rfl
 have HB:=hH hb
 have H2:=hH h2
 have H3:=hH h3
 clear hb h1 h2 h3 hl
 go_wp2_with fail
 go_ret
 refine⟨A,c,rfl,own_rd H2.o,own_cap H2.o,(HKX.o _ _ _ HB.o).mono (by simp),fun a ha=>?_⟩
 have h4:A.map (·.block)=some a.block:=by rw[ha];rfl
 refine⟨?_,own_lt H2.o _ h4⟩
 rw[H3.o] at h4
 have h5:=HWS.o
 rcases HB.o.fresh with h|⟨q,h,hq⟩
 ·rw[h] at h4;cases h4
 ·rw[h] at h4;injection h4 with h4;omega
end Go.Proofs.YtkglmacaecmhdaaGreatDoor
