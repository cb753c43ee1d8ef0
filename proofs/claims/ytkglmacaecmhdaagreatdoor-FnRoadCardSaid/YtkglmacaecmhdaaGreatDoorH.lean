/- FnRoad, part H: the walks of M0, M1, M2, T2, R2, R3, R4, R5, R6. -/
import Derived.Lib.ValidU
import Derived.Lib.ValidLaws
import Derived.Test.YtkglmacaecmhdaaGreatDoorC
import Derived.Test.YtkglmacaecmhdaaGreatDoorD
import Derived.Test.YtkglmacaecmhdaaGreatDoorG
set_option linter.unusedVariables false
set_option linter.unusedSimpArgs false
set_option maxHeartbeats 4000000
set_option maxRecDepth 100000
namespace Go.Proofs.YtkglmacaecmhdaaGreatDoor
open Go Go.RowKit Tryz
def kindOf (i:Int):Nat:=
 if i=1∨i=23∨i=25∨i=36∨i=37∨i=40∨i=41∨i=42 then 1
 else if i=19∨i=33∨i=34∨i=35 then 2
 else if i=2∨i=17∨i=24∨i=39 then 4
 else if i=11 then 5
 else if i=3∨i=8∨i=18∨i=21∨i=26∨i=28∨i=31 then 6
 else if i=9∨i=22 then 7
 else if i=38 then 8
 else 0
def TextOK (s:ByteArray):Prop:=s.size≤65535∧Lib.validD s.data.toList=true∧∀u∈s.data.toList,u≠0
structure PropOK (x:PropV):Prop where
 k0:kindOf x.id≠0
 k1:kindOf x.id=1→x.n≤1∧(0<x.n∨x.id≠25)
 k2:kindOf x.id=2→x.n≤65535∧(0<x.n∨x.id=19)
 k4:kindOf x.id=4→x.n<4294967296∧(0<x.n∨x.id=17)
 k5:kindOf x.id=5→0<x.n∧x.n<268435456
 k6:kindOf x.id=6→TextOK x.text∧0<x.text.size∧(x.id=8→NoWild x.text)
 k7:kindOf x.id=7→0<x.text.size∧x.text.size≤65535
 k8:kindOf x.id=8→TextOK x.text∧TextOK x.other
 n0:6≤kindOf x.id→x.n=0
 t0:kindOf x.id≤5→x.text=⟨#[]⟩
 o0:kindOf x.id≤7→x.other=⟨#[]⟩
def alB (kind id:Int):Bool:=
 if kind=1 then[17,21,22,23,25,33,34,38,39].contains id
 else if kind=2 then[17,18,19,21,22,26,28,31,33,34,36,37,38,39,40,41,42].contains id
 else if kind=3 then[1,2,3,8,9,11,35,38].contains id
 else if kind=4∨kind=5∨kind=6∨kind=7∨kind=9∨kind=11 then[31,38].contains id
 else if kind=8 then[11,38].contains id
 else if kind=10 then[38].contains id
 else if kind=14 then[17,28,31,38].contains id
 else if kind=15 then[21,22,31,38].contains id
 else if kind=16 then[1,2,3,8,9,24,38].contains id
 else false
def ordR (kind:Int) (x y:PropV):Prop:=x.id<y.id∨(x.id=y.id∧(y.id=38∨(y.id=11∧kind=3)))
structure ProperL (kind:Int) (l:List PropV):Prop where
 len:l.length≤20
 ok:∀x∈l,PropOK x
 al:∀x∈l,alB kind x.id=true
 ord:l.Pairwise (ordR kind)
def encP (x:PropV):List UInt8:=UInt8.ofNat x.id.toNat::
 (if kindOf x.id=1 then[UInt8.ofNat x.n] else if kindOf x.id=2 then be2 x.n else if kindOf x.id=4 then be4 x.n else if kindOf x.id=5 then vlen x.n
  else if kindOf x.id=8 then lp x.text.data.toList++lp x.other.data.toList else lp x.text.data.toList)
def encL (l:List PropV):List UInt8:=l.flatMap encP
theorem encL_snoc (l:List PropV) (x:PropV):encL (l++[x])=encL l++encP x:=by simp[encL]
theorem kindOf_known {i:Int} (h:kindOf i≠0):i=1∨i=2∨i=3∨i=8∨i=9∨i=11∨i=17∨i=18∨i=19∨i=21∨i=22∨i=23∨i=24∨i=25∨i=26∨i=28∨i=31∨i=33∨i=34∨i=35∨i=36∨i=37∨i=38∨i=39∨i=40∨i=41∨i=42:=by
 unfold kindOf at h
 repeat' split at h
 all_goals omega
def idsZ:List Int:=[1,2,3,8,9,11,17,18,19,21,22,23,24,25,26,28,31,33,34,35,36,37,38,39,40,41,42]
def sel (i:Int) (l:List PropV):List PropV:=l.filter fun x=>x.id==i
theorem split_min (i:Int) (l:List PropV) (h:l.Pairwise fun x y=>x.id≤y.id) (hm:∀x∈l,i≤x.id):sel i l++l.filter (fun x=> !(x.id==i))=l:=by
 induction l with
 |nil=>rfl
 |cons x t ih=>
  rw[List.pairwise_cons] at h
  by_cases e:x.id=i
  ·have:=ih h.2 (fun y hy=>hm y (by simp[hy]))
   simp only[sel,List.filter_cons,e,beq_self_eq_true,if_true,Bool.not_true,Bool.false_eq_true,if_false,List.cons_append]
   rw[←sel,this]
  ·have hx:=hm x (by simp)
   have h1:sel i (x::t)=[]:=by
    unfold sel
    rw[List.filter_eq_nil_iff]
    intro y hy
    simp only[beq_iff_eq]
    rcases List.mem_cons.1 hy with rfl|hy
    ·exact e
    ·have:=h.1 y hy;omega
   rw[h1,List.nil_append,List.filter_eq_self]
   intro y hy
   simp only[Bool.not_eq_true',beq_eq_false_iff_ne]
   rcases List.mem_cons.1 hy with rfl|hy
   ·exact e
   ·have:=h.1 y hy;omega
theorem sorted_flat (ids:List Int) (l:List PropV) (hi:ids.Pairwise (·<·)) (h:l.Pairwise fun x y=>x.id≤y.id) (hm:∀x∈l,x.id∈ids):(ids.flatMap fun i=>sel i l)=l:=by
 induction ids generalizing l with
 |nil=>
  have:l=[]:=List.eq_nil_iff_forall_not_mem.2 fun x hx=>by have:=hm x hx;simp at this
  subst this;rfl
 |cons i t ih=>
  rw[List.pairwise_cons] at hi
  rw[List.flatMap_cons]
  have hs:=split_min i l h (fun x hx=>by
   rcases List.mem_cons.1 (hm x hx) with e|e
   ·omega
   ·have:=hi.1 _ e;omega)
  have h2:=ih (l.filter fun x=> !(x.id==i)) hi.2 (h.filter _) (fun x hx=>by
   rw[List.mem_filter] at hx
   rcases List.mem_cons.1 (hm x hx.1) with e|e
   ·simp[e] at hx
   ·exact e)
  have h3:(t.flatMap fun j=>sel j (l.filter fun x=> !(x.id==i)))=t.flatMap fun j=>sel j l:=by
   rw[List.flatMap_def,List.flatMap_def]
   congr 1
   apply List.map_congr_left
   intro j hj
   have hij:i<j:=hi.1 j hj
   unfold sel
   rw[List.filter_filter]
   apply List.filter_congr
   intro x _
   by_cases e:x.id=j
   ·subst e;simp;omega
   ·simp[e]
  rw[h3] at h2
  rw[h2,hs]
theorem ProperL.le {kind:Int} {l:List PropV} (h:ProperL kind l):l.Pairwise fun x y=>x.id≤y.id:=h.ord.imp fun h=>by rcases h with h|h<;>omega
theorem ProperL.flat {kind:Int} {l:List PropV} (h:ProperL kind l):(idsZ.flatMap fun i=>sel i l)=l:=
 sorted_flat idsZ l (by decide) h.le fun x hx=>by
  have:=kindOf_known (h.ok x hx).k0
  simp only[idsZ,List.mem_cons,List.mem_nil_iff,or_false]
  exact this
theorem ProperL.one {kind:Int} {l:List PropV} (h:ProperL kind l) (i:Int) (h38:i≠38) (h11:i≠11∨kind≠3):sel i l=(fld i l).toList:=by
 have hp:(sel i l).Pairwise (ordR kind):=h.ord.filter _
 have hm:∀x∈sel i l,x.id=i:=fun x hx=>by simpa [sel] using (List.mem_filter.1 hx).2
 unfold fld
 rw[←sel]
 rcases e:sel i l with _|⟨x,_|⟨y,t⟩⟩
 ·rfl
 ·rfl
 ·exfalso
  rw[e] at hp hm
  have h1:=hm x (by simp)
  have h2:=hm y (by simp)
  rw[List.pairwise_cons] at hp
  rcases hp.1 y (by simp) with h|⟨_,h|h⟩<;>omega
theorem fld_mem {i:Int} {l:List PropV} {x:PropV} (h:fld i l=some x):x∈l∧x.id=i:=by
 unfold fld at h
 have:=List.mem_of_getLast? h
 simpa using List.mem_filter.1 this
def pktOf (kind:Int):Int:=if kind=16 then 99 else kind
theorem al_vpp {kind id:Int} (h:alB kind id=true):vpp id.toNat (pktOf kind)=true:=by
 unfold alB at h
 split at h
 ·rename_i e;subst e;simp only[List.contains_cons,List.contains_nil,Bool.or_eq_true,beq_iff_eq,Bool.false_eq_true,or_false] at h;rcases h with h|h|h|h|h|h|h|h|h<;>(subst h;decide)
 split at h
 ·rename_i e;subst e;simp only[List.contains_cons,List.contains_nil,Bool.or_eq_true,beq_iff_eq,Bool.false_eq_true,or_false] at h;rcases h with h|h|h|h|h|h|h|h|h|h|h|h|h|h|h|h|h<;>(subst h;decide)
 split at h
 ·rename_i e;subst e;simp only[List.contains_cons,List.contains_nil,Bool.or_eq_true,beq_iff_eq,Bool.false_eq_true,or_false] at h;rcases h with h|h|h|h|h|h|h|h<;>(subst h;decide)
 split at h
 ·rename_i e;simp only[List.contains_cons,List.contains_nil,Bool.or_eq_true,beq_iff_eq,Bool.false_eq_true,or_false] at h;rcases e with e|e|e|e|e|e<;>(subst e;rcases h with h|h<;>(subst h;decide))
 split at h
 ·rename_i e;subst e;simp only[List.contains_cons,List.contains_nil,Bool.or_eq_true,beq_iff_eq,Bool.false_eq_true,or_false] at h;rcases h with h|h<;>(subst h;decide)
 split at h
 ·rename_i e;subst e;simp only[List.contains_cons,List.contains_nil,Bool.or_eq_true,beq_iff_eq,Bool.false_eq_true,or_false] at h;subst h;decide
 split at h
 ·rename_i e;subst e;simp only[List.contains_cons,List.contains_nil,Bool.or_eq_true,beq_iff_eq,Bool.false_eq_true,or_false] at h;rcases h with h|h|h|h<;>(subst h;decide)
 split at h
 ·rename_i e;subst e;simp only[List.contains_cons,List.contains_nil,Bool.or_eq_true,beq_iff_eq,Bool.false_eq_true,or_false] at h;rcases h with h|h|h|h<;>(subst h;decide)
 split at h
 ·rename_i e;subst e;simp only[List.contains_cons,List.contains_nil,Bool.or_eq_true,beq_iff_eq,Bool.false_eq_true,or_false] at h;rcases h with h|h|h|h|h|h|h<;>(subst h;decide)
 ·cases h
def sOf (l:List PropV) (k:Nat):List UInt8:=if k=0∨27<k then[] else encL (sel (idsZ.getD (k-1) 0) l)
theorem pre_sOf {kind:Int} {l:List PropV} (h:ProperL kind l):pre (sOf l) 27=encL l:=by
 have h1:encL l=idsZ.flatMap fun i=>encL (sel i l):=by
  conv=>lhs;rw[←h.flat]
  unfold encL
  rw[List.flatMap_assoc]
 rw[h1]
 simp[pre,sOf,idsZ,List.getD]
section
variable {kind:Int} {l:List PropV}
theorem encP_le {x:PropV} (h:PropOK x):(encP x).length≤200000:=by
 have h6:=h.k6;have h7:=h.k7;have h8:=h.k8;have h5:=h.k5
 unfold encP
 by_cases e1:kindOf x.id=1
 ·simp[e1]
 rw[if_neg e1]
 by_cases e2:kindOf x.id=2
 ·simp[e2,be2]
 rw[if_neg e2]
 by_cases e4:kindOf x.id=4
 ·simp[e4,be4]
 rw[if_neg e4]
 by_cases e5:kindOf x.id=5
 ·have:=vlen_le x.n (h5 e5).2;simp[e5];omega
 rw[if_neg e5]
 by_cases e8:kindOf x.id=8
 ·have h1:=(h8 e8).1.1;have h2:=(h8 e8).2.1
  rw[if_pos e8];simp[lp_length];omega
 rw[if_neg e8]
 simp only[List.length_cons,lp_length,Lib.size_eq,Array.length_toList]
 by_cases e6:kindOf x.id=6
 ·have:=(h6 e6).1.1;simp at*;omega
 by_cases e7:kindOf x.id=7
 ·have:=(h7 e7).2;simp at*;omega
 ·exfalso
  have:=h.k0
  unfold kindOf at*
  repeat' split at this
  all_goals simp_all
theorem sOf_le (h:ProperL kind l) (k:Nat):(sOf l k).length≤4000000:=by
 unfold sOf
 split
 ·simp
 ·have h1:=flat_le (sel (idsZ.getD (k-1) 0) l) encP 200000 (fun x hx=>encP_le (h.ok x (List.mem_filter.1 hx).1))
  have h2:(sel (idsZ.getD (k-1) 0) l).length≤l.length:=List.length_filter_le _ _
  have h3:=h.len
  have h4:(sel (idsZ.getD (k-1) 0) l).length*200000≤20*200000:=Nat.mul_le_mul_right _ (by omega)
  unfold encL
  omega
theorem sOf_one (h:ProperL kind l) (i:Int) (k:Nat) (hk:idsZ.getD (k-1) 0=i) (hk2:¬(k=0∨27<k)) (h38:i≠38) (h11:i≠11):
 (fld i l=none∧sOf l k=[])∨∃x,fld i l=some x∧x.id=i∧PropOK x∧vpp i.toNat (pktOf kind)=true∧sOf l k=encP x:=by
 have h1:=h.one i h38 (.inl h11)
 unfold sOf
 rw[if_neg hk2,hk,h1]
 rcases e:fld i l with _|x
 ·exact .inl ⟨rfl,rfl⟩
 ·obtain⟨hm,hi⟩:=fld_mem e
  exact .inr ⟨x,rfl,hi,h.ok x hm,by have:=al_vpp (h.al x hm);rwa [hi] at this,by simp[encL]⟩
variable (h:ProperL kind l) (pc:Nat→Value)
theorem pc_eq {l:List PropV} {cs:Array Value} {pc:Nat→Value} (hs:∀j,4≤j→j<37→cs[j]?=some (cellV l j)) (hc:∀j,j<37→cs[j]?=some (pc j)) (j:Nat) (h4:4≤j) (hj:j<37):pc j=cellV l j:=by
 have h1:=hs j h4 hj
 rw[hc j hj] at h1
 injection h1
theorem pByteF {l:List PropV} (h:ProperL kind l) (pc:Nat→Value) (hc:∀j,4≤j→j<37→pc j=cellV l j) (i:Int) (f v k:Nat) (hk:kindOf i=1) (h25:i≠25) (hf:idOf f=i) (hv:idOf v=i) (hf4:4≤f∧f<37) (hv4:4≤v∧v<37)
 (ef:∀o,valOf f o=.bool o.isSome) (ev:∀o,valOf v o=.int .u8 (match o with|none=>0|some x=>(x.n:Int))) (hki:idsZ.getD (k-1) 0=i) (hk2:¬(k=0∨27<k):=by decide):PByteF (pktOf kind) i.toNat (pc f) (pc v) (sOf l k):=by
 rw[hc f hf4.1 hf4.2,hc v hv4.1 hv4.2,cellV,cellV,hf,hv,ef,ev]
 rcases sOf_one h i k hki hk2 (by rintro rfl;revert hk;decide) (by rintro rfl;revert hk;decide) with⟨e,hs⟩|⟨x,e,hi,ok,hvp,hs⟩
 ·rw[e];exact .inl ⟨rfl,hs⟩
 ·have hn:=(ok.k1 (by rw[hi];exact hk)).1
  rw[e,hs]
  have hu:(UInt8.ofNat x.n).toNat=x.n:=by rw[UInt8.toNat_ofNat'];omega
  exact .inr ⟨rfl,hvp,UInt8.ofNat x.n,by rw[hu],by omega,by simp[encP,hi,hk]⟩
theorem pByte {l:List PropV} (h:ProperL kind l) (pc:Nat→Value) (hc:∀j,4≤j→j<37→pc j=cellV l j) (i:Int) (v k:Nat) (hk:i=25) (hv:idOf v=i) (hv4:4≤v∧v<37)
 (ev:∀o,valOf v o=.int .u8 (match o with|none=>0|some x=>(x.n:Int))) (hki:idsZ.getD (k-1) 0=i) (hk2:¬(k=0∨27<k):=by decide):PByte (pktOf kind) i.toNat (pc v) (sOf l k):=by
 subst hk
 rw[hc v hv4.1 hv4.2,cellV,hv,ev]
 rcases sOf_one h 25 k hki hk2 (by decide) (by decide) with⟨e,hs⟩|⟨x,e,hi,ok,hvp,hs⟩
 ·rw[e];exact .inl ⟨rfl,hs⟩
 ·have hn:=(ok.k1 (by rw[hi];rfl))
  rw[e,hs]
  have hu:(UInt8.ofNat x.n).toNat=x.n:=by rw[UInt8.toNat_ofNat'];omega
  have h0:0<x.n:=by rcases hn.2 with h|h;exact h;exact absurd hi h
  exact .inr ⟨hvp,UInt8.ofNat x.n,by rw[hu],by omega,by simp[encP,hi,kindOf]⟩
theorem pWordF {l:List PropV} (h:ProperL kind l) (pc:Nat→Value) (hc:∀j,4≤j→j<37→pc j=cellV l j) (i:Int) (f v k:Nat) (hk:kindOf i=2) (hf:idOf f=i) (hv:idOf v=i) (hf4:4≤f∧f<37) (hv4:4≤v∧v<37)
 (ef:∀o,valOf f o=.bool o.isSome) (ev:∀o,valOf v o=.int .u16 (match o with|none=>0|some x=>(x.n:Int))) (hki:idsZ.getD (k-1) 0=i) (hk2:¬(k=0∨27<k):=by decide):PWordF (pktOf kind) i.toNat (pc f) (pc v) (sOf l k):=by
 rw[hc f hf4.1 hf4.2,hc v hv4.1 hv4.2,cellV,cellV,hf,hv,ef,ev]
 rcases sOf_one h i k hki hk2 (by rintro rfl;revert hk;decide) (by rintro rfl;revert hk;decide) with⟨e,hs⟩|⟨x,e,hi,ok,hvp,hs⟩
 ·rw[e];exact .inl ⟨rfl,hs⟩
 ·have hn:=(ok.k2 (by rw[hi];exact hk)).1
  rw[e,hs]
  exact .inr ⟨rfl,hvp,x.n,rfl,by omega,by simp[encP,hi,hk]⟩
theorem pWordFP {l:List PropV} (h:ProperL kind l) (pc:Nat→Value) (hc:∀j,4≤j→j<37→pc j=cellV l j) (i:Int) (f v k:Nat) (hk:kindOf i=2) (h19:i≠19) (hf:idOf f=i) (hv:idOf v=i) (hf4:4≤f∧f<37) (hv4:4≤v∧v<37)
 (ef:∀o,valOf f o=.bool o.isSome) (ev:∀o,valOf v o=.int .u16 (match o with|none=>0|some x=>(x.n:Int))) (hki:idsZ.getD (k-1) 0=i) (hk2:¬(k=0∨27<k):=by decide):PWordFP (pktOf kind) i.toNat (pc f) (pc v) (sOf l k):=by
 rw[hc f hf4.1 hf4.2,hc v hv4.1 hv4.2,cellV,cellV,hf,hv,ef,ev]
 rcases sOf_one h i k hki hk2 (by rintro rfl;revert hk;decide) (by rintro rfl;revert hk;decide) with⟨e,hs⟩|⟨x,e,hi,ok,hvp,hs⟩
 ·rw[e];exact .inl ⟨rfl,hs⟩
 ·have hn:=ok.k2 (by rw[hi];exact hk)
  have h0:0<x.n:=by rcases hn.2 with h|h;exact h;exact absurd (hi.symm.trans h) h19
  rw[e,hs]
  exact .inr ⟨rfl,hvp,x.n,rfl,h0,by omega,by simp[encP,hi,hk]⟩
theorem pWord {l:List PropV} (h:ProperL kind l) (pc:Nat→Value) (hc:∀j,4≤j→j<37→pc j=cellV l j) (i:Int) (v k:Nat) (hk:kindOf i=2) (h19:i≠19) (hv:idOf v=i) (hv4:4≤v∧v<37)
 (ev:∀o,valOf v o=.int .u16 (match o with|none=>0|some x=>(x.n:Int))) (hki:idsZ.getD (k-1) 0=i) (hk2:¬(k=0∨27<k):=by decide):PWord (pktOf kind) i.toNat (pc v) (sOf l k):=by
 rw[hc v hv4.1 hv4.2,cellV,hv,ev]
 rcases sOf_one h i k hki hk2 (by rintro rfl;revert hk;decide) (by rintro rfl;revert hk;decide) with⟨e,hs⟩|⟨x,e,hi,ok,hvp,hs⟩
 ·rw[e];exact .inl ⟨rfl,hs⟩
 ·have hn:=ok.k2 (by rw[hi];exact hk)
  have h0:0<x.n:=by rcases hn.2 with h|h;exact h;exact absurd (hi.symm.trans h) h19
  rw[e,hs]
  exact .inr ⟨hvp,x.n,rfl,h0,by omega,by simp[encP,hi,hk]⟩
theorem pLongF {l:List PropV} (h:ProperL kind l) (pc:Nat→Value) (hc:∀j,4≤j→j<37→pc j=cellV l j) (i:Int) (f v k:Nat) (hk:kindOf i=4) (hf:idOf f=i) (hv:idOf v=i) (hf4:4≤f∧f<37) (hv4:4≤v∧v<37)
 (ef:∀o,valOf f o=.bool o.isSome) (ev:∀o,valOf v o=.int .u32 (match o with|none=>0|some x=>(x.n:Int))) (hki:idsZ.getD (k-1) 0=i) (hk2:¬(k=0∨27<k):=by decide):PLongF (pktOf kind) i.toNat (pc f) (pc v) (sOf l k):=by
 rw[hc f hf4.1 hf4.2,hc v hv4.1 hv4.2,cellV,cellV,hf,hv,ef,ev]
 rcases sOf_one h i k hki hk2 (by rintro rfl;revert hk;decide) (by rintro rfl;revert hk;decide) with⟨e,hs⟩|⟨x,e,hi,ok,hvp,hs⟩
 ·rw[e];exact .inl ⟨rfl,hs⟩
 ·have hn:=(ok.k4 (by rw[hi];exact hk)).1
  rw[e,hs]
  exact .inr ⟨rfl,hvp,x.n,rfl,by omega,by simp[encP,hi,hk]⟩
theorem pLong {l:List PropV} (h:ProperL kind l) (pc:Nat→Value) (hc:∀j,4≤j→j<37→pc j=cellV l j) (i:Int) (v k:Nat) (hk:kindOf i=4) (h17:i≠17) (hv:idOf v=i) (hv4:4≤v∧v<37)
 (ev:∀o,valOf v o=.int .u32 (match o with|none=>0|some x=>(x.n:Int))) (hki:idsZ.getD (k-1) 0=i) (hk2:¬(k=0∨27<k):=by decide):PLong (pktOf kind) i.toNat (pc v) (sOf l k):=by
 rw[hc v hv4.1 hv4.2,cellV,hv,ev]
 rcases sOf_one h i k hki hk2 (by rintro rfl;revert hk;decide) (by rintro rfl;revert hk;decide) with⟨e,hs⟩|⟨x,e,hi,ok,hvp,hs⟩
 ·rw[e];exact .inl ⟨rfl,hs⟩
 ·have hn:=ok.k4 (by rw[hi];exact hk)
  have h0:0<x.n:=by rcases hn.2 with h|h;exact h;exact absurd (hi.symm.trans h) h17
  rw[e,hs]
  exact .inr ⟨hvp,x.n,rfl,h0,by omega,by simp[encP,hi,hk]⟩
theorem pText {l:List PropV} (h:ProperL kind l) (pc:Nat→Value) (hc:∀j,4≤j→j<37→pc j=cellV l j) (i:Int) (v k:Nat) (hk:kindOf i=6) (hv:idOf v=i) (hv4:4≤v∧v<37)
 (ev:∀o,valOf v o=.string (match o with|none=>⟨#[]⟩|some x=>x.text)) (hki:idsZ.getD (k-1) 0=i) (hk2:¬(k=0∨27<k):=by decide):PText (pktOf kind) i.toNat (pc v) (sOf l k):=by
 rw[hc v hv4.1 hv4.2,cellV,hv,ev]
 rcases sOf_one h i k hki hk2 (by rintro rfl;revert hk;decide) (by rintro rfl;revert hk;decide) with⟨e,hs⟩|⟨x,e,hi,ok,hvp,hs⟩
 ·rw[e];exact .inl ⟨rfl,hs⟩
 ·have hn:=ok.k6 (by rw[hi];exact hk)
  rw[e,hs]
  have hi8:i.toNat=8→x.id=8:=fun h=>by rw[hi];omega
  exact .inr ⟨hvp,x.text,rfl,hn.2.1,by have:=hn.1.1;omega,fun h=>hn.2.2 (hi8 h),by simp[encP,hi,hk]⟩
theorem pData {B:Nat} {w:World} {b:Nat→Option Nat} {cs:Array Value} {l:List PropV} (h:ProperL kind l) (hp:PSt B w b l cs) (i:Int) (v k:Nat) (hk:kindOf i=7) (cv:Value) (bb:Option Nat) (hd:PDat w (fld i l) (some cv) bb) (hb:∀q,bb=some q→q<w.heap.size)
 (hki:idsZ.getD (k-1) 0=i) (hk2:¬(k=0∨27<k):=by decide):PData w (pktOf kind) i.toNat cv (sOf l k):=by
 rcases sOf_one h i k hki hk2 (by rintro rfl;revert hk;decide) (by rintro rfl;revert hk;decide) with⟨e,hs⟩|⟨x,e,hi,ok,hvp,hs⟩
 ·rw[e] at hd;injection hd.1 with hd1;exact .inl ⟨_,_,hd1,hs⟩
 ·rw[e] at hd
  obtain⟨A,c,h1,h2,h3⟩:=hd
  injection h1 with h1
  have hn:=ok.k7 (by rw[hi];exact hk)
  rw[hs]
  refine .inr ⟨hvp,A,x.text.size,c,x.text.data.toList,h1,h2,fun a ha=>hb _ (by rw[←h3,ha];rfl),hn.1,by omega,by simp[encP,hi,hk]⟩
theorem pNums {B:Nat} {w:World} {b:Nat→Option Nat} {cs:Array Value} {l:List PropV} (h:ProperL kind l) (hp:PSt B w b l cs) (cv:Value) (hv:cs[1]?=some cv):PNums w (pktOf kind) cv (sOf l 6):=by
 obtain⟨A,c,h1,h2,h3⟩:=hp.nm
 rw[hv] at h1
 injection h1 with h1
 refine⟨A,c,numsOf l,h1,own_rd h2,fun a ha=>(hp.lt 1 a.block (by decide) (by rw[←h3,ha];rfl)).2,?_,?_,?_,?_⟩
 ·intro n hn
  simp only[numsOf,List.mem_map,List.mem_filter,beq_iff_eq] at hn
  obtain⟨x,⟨hm,hi⟩,rfl⟩:=hn
  exact(h.ok x hm).k5 (by rw[hi];rfl)
 ·have:=numsOf_le l;have:=h.len;omega
 ·intro hne
  obtain⟨n,hn⟩:=List.exists_mem_of_ne_nil _ hne
  simp only[numsOf,List.mem_map,List.mem_filter,beq_iff_eq] at hn
  obtain⟨x,⟨hm,hi⟩,_⟩:=hn
  have:=al_vpp (h.al x hm)
  rwa [hi] at this
 ·show encL (sel 11 l)=_
  unfold encL numsOf sel
  rw[List.flatMap_map]
  rw[List.flatMap_def,List.flatMap_def]
  congr 1
  apply List.map_congr_left
  intro x hx
  simp only[List.mem_filter,beq_iff_eq] at hx
  simp[encP,hx.2,kindOf]
theorem pUsers {B:Nat} {w:World} {b:Nat→Option Nat} {cs:Array Value} {l:List PropV} (h:ProperL kind l) (hp:PSt B w b l cs) (cv:Value) (hv:cs[3]?=some cv):PUsers w (pktOf kind) cv (sOf l 23):=by
 obtain⟨A,c,h1,h2,h3⟩:=hp.us
 rw[hv] at h1
 injection h1 with h1
 refine⟨A,c,usersOf l,h1,own_rd h2,fun a ha=>(hp.lt 3 a.block (by decide) (by rw[←h3,ha];rfl)).2,?_,?_,?_,?_⟩
 ·intro u hu
  simp only[usersOf,List.mem_map,List.mem_filter,beq_iff_eq] at hu
  obtain⟨x,⟨hm,hi⟩,rfl⟩:=hu
  have:=(h.ok x hm).k8 (by rw[hi];rfl)
  have h1:=this.1.1
  have h2:=this.2.1
  exact⟨by simp only;omega,by simp only;omega⟩
 ·have:=usersOf_le l;have:=h.len;omega
 ·intro hne
  obtain⟨n,hn⟩:=List.exists_mem_of_ne_nil _ hne
  simp only[usersOf,List.mem_map,List.mem_filter,beq_iff_eq] at hn
  obtain⟨x,⟨hm,hi⟩,_⟩:=hn
  have:=al_vpp (h.al x hm)
  rwa [hi] at this
 ·show encL (sel 38 l)=_
  unfold encL usersOf sel
  rw[List.flatMap_map]
  rw[List.flatMap_def,List.flatMap_def]
  congr 1
  apply List.map_congr_left
  intro x hx
  simp only[List.mem_filter,beq_iff_eq] at hx
  simp[encP,encU,hx.2,kindOf]
theorem pAll {B:Nat} {w:World} {b:Nat→Option Nat} {cs:Array Value} {l:List PropV} (h:ProperL kind l) (hp:PSt B w b l cs) (pc:Nat→Value) (hpc:∀j,j<37→cs[j]?=some (pc j)):PAll w (pktOf kind) pc (sOf l):=
 have hc:∀j,4≤j→j<37→pc j=cellV l j:=pc_eq hp.sc hpc
 {
  hl:=sOf_le h
  h1:=pByteF h pc hc 1 20 19 1 rfl (by decide) rfl rfl (by decide) (by decide) (fun _=>rfl) (fun _=>rfl) rfl
  h2:=pLong h pc hc 2 11 2 rfl (by decide) rfl (by decide) (fun _=>rfl) rfl
  h3:=pText h pc hc 3 4 3 rfl rfl (by decide) (fun _=>rfl) rfl
  h4:=pText h pc hc 8 5 4 rfl rfl (by decide) (fun _=>rfl) rfl
  h5:=pData h hp 9 0 5 rfl (pc 0) (b 0) (by have:=hp.d0;rwa [hpc 0 (by decide)] at this) (fun q hq=>(hp.lt 0 q (by decide) hq).2) rfl
  h6:=pNums h hp (pc 1) (hpc 1 (by decide))
  h7:=pLongF h pc hc 17 21 12 7 rfl rfl rfl (by decide) (by decide) (fun _=>rfl) (fun _=>rfl) rfl
  h8:=pText h pc hc 18 6 8 rfl rfl (by decide) (fun _=>rfl) rfl
  h9:=pWordF h pc hc 19 22 15 9 rfl rfl rfl (by decide) (by decide) (fun _=>rfl) (fun _=>rfl) rfl
  h10:=pText h pc hc 21 7 10 rfl rfl (by decide) (fun _=>rfl) rfl
  h11:=pData h hp 22 2 11 rfl (pc 2) (b 2) (by have:=hp.d2;rwa [hpc 2 (by decide)] at this) (fun q hq=>(hp.lt 2 q (by decide) hq).2) rfl
  h12:=pByteF h pc hc 23 24 23 12 rfl (by decide) rfl rfl (by decide) (by decide) (fun _=>rfl) (fun _=>rfl) rfl
  h13:=pLong h pc hc 24 13 13 rfl (by decide) rfl (by decide) (fun _=>rfl) rfl
  h14:=pByte h pc hc 25 25 14 rfl rfl (by decide) (fun _=>rfl) rfl
  h15:=pText h pc hc 26 8 15 rfl rfl (by decide) (fun _=>rfl) rfl
  h16:=pText h pc hc 28 9 16 rfl rfl (by decide) (fun _=>rfl) rfl
  h17:=pText h pc hc 31 10 17 rfl rfl (by decide) (fun _=>rfl) rfl
  h18:=pWord h pc hc 33 16 18 rfl (by decide) rfl (by decide) (fun _=>rfl) rfl
  h19:=pWord h pc hc 34 17 19 rfl (by decide) rfl (by decide) (fun _=>rfl) rfl
  h20:=pWordFP h pc hc 35 26 18 20 rfl (by decide) rfl rfl (by decide) (by decide) (fun _=>rfl) (fun _=>rfl) rfl
  h21:=pByteF h pc hc 36 28 27 21 rfl (by decide) rfl rfl (by decide) (by decide) (fun _=>rfl) (fun _=>rfl) rfl
  h22:=pByteF h pc hc 37 30 29 22 rfl (by decide) rfl rfl (by decide) (by decide) (fun _=>rfl) (fun _=>rfl) rfl
  h23:=pUsers h hp (pc 3) (hpc 3 (by decide))
  h24:=pLong h pc hc 39 14 24 rfl (by decide) rfl (by decide) (fun _=>rfl) rfl
  h25:=pByteF h pc hc 40 32 31 25 rfl (by decide) rfl rfl (by decide) (by decide) (fun _=>rfl) (fun _=>rfl) rfl
  h26:=pByteF h pc hc 41 34 33 26 rfl (by decide) rfl rfl (by decide) (by decide) (fun _=>rfl) (fun _=>rfl) rfl
  h27:=pByteF h pc hc 42 36 35 27 rfl (by decide) rfl rfl (by decide) (by decide) (fun _=>rfl) (fun _=>rfl) rfl
 }
end
def TextL (l:List UInt8):Prop:=Lib.validD l=true∧∀u∈l,u≠0
theorem textL_nil:TextL []:=⟨Lib.validD_nil,by simp⟩
theorem ne0 {u:UInt8} (h:0<u.toNat):u≠0:=by rintro rfl;simp at h
theorem zH5 {p:Prop} (h:p:=by
 rw[hN] at hb;exact absurd ⟨rfl,rfl⟩ hb
 ):p:=h
theorem textL_step (l:List UInt8) (hne:l≠[]) (h0:(Lib.decodeL l).1≠0) (hb:¬((Lib.decodeL l).1=65533∧(Lib.decodeL l).2=1)) (ht:TextL (l.drop (Lib.decodeL l).2)):TextL l:=by
 refine⟨by rw[Lib.validD_step l hne,if_neg hb];exact ht.1,?_⟩
 have hN:=Lib.decodeL_N l
 obtain⟨b0,t,rfl⟩:=List.exists_cons_of_ne_nil hne
 have hrest:∀k,(Lib.decodeL (b0::t)).2=k→∀u∈(b0::t).drop k,u≠0:=fun k hk=>by rw[←hk];exact ht.2
 simp only[List.getD_cons_zero,List.getD_cons_succ,List.length_cons] at hN
 unfold Lib.decodeN at hN
 have one:∀u∈(b0::t).drop 1,u≠0→True:=fun _ _ _=>trivial
 split at hN
 ·rw[hN] at h0 hb
  have h2:=hrest 1 (by rw[hN])
  intro u hu
  rcases List.mem_cons.1 hu with rfl|hu
  ·exact ne0 (by simp only at h0;omega)
  ·exact h2 u (by simpa using hu)
 split at hN
 ·rename_i h1 hc
  split at hN
  ·have h2:=hrest 2 (by rw[hN])
   rcases t with _|⟨b1,t⟩
   ·simp at hc
   ·simp only[List.getD_cons_zero] at hc
    intro u hu
    simp only[List.mem_cons] at hu
    rcases hu with rfl|rfl|hu
    ·exact ne0 (by omega)
    ·exact ne0 (by omega)
    ·exact h2 u (by simpa using hu)
  ·exact zH5
 split at hN
 ·rename_i h1 _ hc
  split at hN
  ·have h2:=hrest 3 (by rw[hN])
   rcases t with _|⟨b1,_|⟨b2,t⟩⟩
   ·simp at hc
   ·simp at hc
   ·simp only[List.getD_cons_zero,List.getD_cons_succ] at hc
    intro u hu
    simp only[List.mem_cons] at hu
    rcases hu with rfl|rfl|rfl|hu
    ·exact ne0 (by omega)
    ·exact ne0 (by omega)
    ·exact ne0 (by omega)
    ·exact h2 u (by simpa using hu)
  ·exact zH5
 split at hN
 ·rename_i h1 _ _ hc
  split at hN
  ·have h2:=hrest 4 (by rw[hN])
   rcases t with _|⟨b1,_|⟨b2,_|⟨b3,t⟩⟩⟩
   ·simp at hc
   ·simp at hc
   ·simp at hc
   ·simp only[List.getD_cons_zero,List.getD_cons_succ] at hc
    intro u hu
    simp only[List.mem_cons] at hu
    rcases hu with rfl|rfl|rfl|rfl|hu
    ·exact ne0 (by omega)
    ·exact ne0 (by omega)
    ·exact ne0 (by omega)
    ·exact ne0 (by omega)
    ·exact h2 u (by simpa using hu)
  ·exact zH5
 ·exact zH5
theorem bom_width (l:List UInt8) (h:l.take 3=[239,191,189]):(Lib.decodeL l).2=3:=by
 obtain⟨t,rfl⟩:∃t,l=239::191::189::t:=by
  match l,h with
  |a::b::c::t,h=>simp at h;obtain⟨rfl,rfl,rfl⟩:=h;exact⟨t,rfl⟩
 rw[Lib.decodeL_N]
 simp[Lib.decodeN]
theorem text_step (s:ByteArray) (pos:Nat) (hp:pos<s.size) (h0:(Utf8.decode s pos).1≠0) (hb:(Utf8.decode s pos).1=65533→(s.data.toList.drop pos).take 3=[239,191,189])
 (ht:TextL (s.data.toList.drop (pos+(Utf8.decode s pos).2))):TextL (s.data.toList.drop pos):=by
 have e:=Lib.decodeL_drop s pos
 rw[←e] at h0 hb ht
 rw[←List.drop_drop] at ht
 refine textL_step _ (fun h=>?_) h0 (fun h=>?_) ht
 ·have:=congrArg List.length h
  simp at this
  have e2:s.size=s.data.size:=rfl
  omega
 ·have:=bom_width _ (hb h.1)
  omega
theorem textOK_of {s:ByteArray} (h1:s.size≤65535) (h2:TextL s.data.toList):TextOK s:=⟨h1,h2.1,h2.2⟩
theorem valid_s (w:World) (b o c:Nat) (xs:List UInt8) (hr:RB w b o xs) (hcap:xs.length≤c) (hl:xs.length≤1099511627776) (hv:Lib.validD xs=true) (hT:Lib.Utf8Tabs 28 29 w):
 Calls prog 113 #[.slice (some ⟨b,o,none⟩) xs.length c] w fun e w'=>e=.returned (.bool true)∧Keeps [] w w':=valid_c w b o c xs hr hcap hl hv hT
def HdrOut (w:World) (g:Nat) (cs:Array Value) (t q:Int) (dup ret:Bool) (w':World):Prop:=
 ∃cs',Blk w' g 86 cs'∧cs'.size=108∧(∀j,j<93∨96<j→cs'[j]?=cs[j]?)∧cs'[93]?=some (.int .u8 t)∧cs'[94]?=some (.int .u8 q)∧cs'[95]?=some (.bool dup)∧cs'[96]?=some (.bool ret)∧Keeps [g] w w'
theorem hdrOut_one {w:World} {g:Nat} {cs:Array Value} (t:Int) (hb:Blk w g 86 cs) (hz:cs.size=108) (c94:w.cell? ⟨g,94,none⟩=some (.int .u8 0)) (c95:w.cell? ⟨g,95,none⟩=some (.bool false)) (c96:w.cell? ⟨g,96,none⟩=some (.bool false)):
 HdrOut w g cs t 0 false false (w.setCell ⟨g,93,none⟩ (.int .u8 t)):=by
 rw[hb.cell] at c94 c95 c96
 refine⟨_,hb.set_ 93 _,by simpa using hz,fun j hj=>?_,?_,?_,?_,?_,Keeps.setCell _ ⟨g,93,none⟩ _⟩
 ·rw[Array.getElem?_setIfInBounds,if_neg (by omega)]
 ·rw[Array.getElem?_setIfInBounds,if_pos rfl,if_pos (by omega)]
 ·rw[Array.getElem?_setIfInBounds,if_neg (by omega)];exact c94
 ·rw[Array.getElem?_setIfInBounds,if_neg (by omega)];exact c95
 ·rw[Array.getElem?_setIfInBounds,if_neg (by omega)];exact c96
theorem hdrOut_two {w:World} {g:Nat} {cs:Array Value} (t q:Int) (hb:Blk w g 86 cs) (hz:cs.size=108) (c95:w.cell? ⟨g,95,none⟩=some (.bool false)) (c96:w.cell? ⟨g,96,none⟩=some (.bool false)):
 HdrOut w g cs t q false false ((w.setCell ⟨g,93,none⟩ (.int .u8 t)).setCell ⟨g,94,none⟩ (.int .u8 q)):=by
 rw[hb.cell] at c95 c96
 refine⟨_,(hb.set_ 93 _).set_ 94 _,by simpa using hz,fun j hj=>?_,?_,?_,?_,?_,(Keeps.setCell _ ⟨g,93,none⟩ _).trans (Keeps.setCell _ ⟨g,94,none⟩ _) (by simp)⟩
 ·rw[Array.getElem?_setIfInBounds,if_neg (by omega),Array.getElem?_setIfInBounds,if_neg (by omega)]
 ·rw[Array.getElem?_setIfInBounds,if_neg (by omega),Array.getElem?_setIfInBounds,if_pos rfl,if_pos (by omega)]
 ·rw[Array.getElem?_setIfInBounds,if_pos rfl,if_pos (by simp;omega)]
 ·rw[Array.getElem?_setIfInBounds,if_neg (by omega),Array.getElem?_setIfInBounds,if_neg (by omega)];exact c95
 ·rw[Array.getElem?_setIfInBounds,if_neg (by omega),Array.getElem?_setIfInBounds,if_neg (by omega)];exact c96
theorem hdrOut_pub {w:World} {g:Nat} {cs:Array Value} (t q:Int) (dup ret:Bool) (hb:Blk w g 86 cs) (hz:cs.size=108):
 HdrOut w g cs t q dup ret ((((w.setCell ⟨g,93,none⟩ (.int .u8 t)).setCell ⟨g,95,none⟩ (.bool dup)).setCell ⟨g,94,none⟩ (.int .u8 q)).setCell ⟨g,96,none⟩ (.bool ret)):=by
 refine⟨_,(((hb.set_ 93 _).set_ 95 _).set_ 94 _).set_ 96 _,by simpa using hz,fun j hj=>?_,?_,?_,?_,?_,(((Keeps.setCell _ ⟨g,93,none⟩ _).trans (Keeps.setCell _ ⟨g,95,none⟩ _) (by simp)).trans (Keeps.setCell _ ⟨g,94,none⟩ _) (by simp)).trans (Keeps.setCell _ ⟨g,96,none⟩ _) (by simp)⟩
 ·simp only[Array.getElem?_setIfInBounds]
  rw[if_neg (by omega),if_neg (by omega),if_neg (by omega),if_neg (by omega)]
 all_goals simp[Array.getElem?_setIfInBounds,hz]
theorem zH0 {p:Prop} (h:p:=by
 have HO:=hH ho
 clear ho
 go_enter func31,ntmps31
 go_wp2_with fail
 go_ret
 exact⟨rfl,HO.o⟩
 ):p:=h
theorem hdrDec1_c (w:World) (g:Nat) (cs:Array Value) (hb:Blk w g 86 cs) (hz:cs.size=108) (c93:w.cell? ⟨g,93,none⟩=some (.int .u8 0)) (c94:w.cell? ⟨g,94,none⟩=some (.int .u8 0)) (c95:w.cell? ⟨g,95,none⟩=some (.bool false)) (c96:w.cell? ⟨g,96,none⟩=some (.bool false)):
 Calls prog 31 #[.pointer (some ⟨g,92,none⟩),.int .u8 16] w fun e w'=>e=.returned .nilIface∧HdrOut w g cs 1 0 false false w':=by
 have f93:=hb.frozen 93
 have f94:=hb.frozen 94
 have ho:=hdrOut_one 1 hb hz c94 c95 c96
 exact zH0
theorem hdrDec2_c (w:World) (g:Nat) (cs:Array Value) (hb:Blk w g 86 cs) (hz:cs.size=108) (c93:w.cell? ⟨g,93,none⟩=some (.int .u8 0)) (c94:w.cell? ⟨g,94,none⟩=some (.int .u8 0)) (c95:w.cell? ⟨g,95,none⟩=some (.bool false)) (c96:w.cell? ⟨g,96,none⟩=some (.bool false)):
 Calls prog 31 #[.pointer (some ⟨g,92,none⟩),.int .u8 32] w fun e w'=>e=.returned .nilIface∧HdrOut w g cs 2 0 false false w':=by
 have f93:=hb.frozen 93
 have f94:=hb.frozen 94
 have ho:=hdrOut_one 2 hb hz c94 c95 c96
 exact zH0
theorem hdrDec4_c (w:World) (g:Nat) (cs:Array Value) (hb:Blk w g 86 cs) (hz:cs.size=108) (c93:w.cell? ⟨g,93,none⟩=some (.int .u8 0)) (c94:w.cell? ⟨g,94,none⟩=some (.int .u8 0)) (c95:w.cell? ⟨g,95,none⟩=some (.bool false)) (c96:w.cell? ⟨g,96,none⟩=some (.bool false)):
 Calls prog 31 #[.pointer (some ⟨g,92,none⟩),.int .u8 64] w fun e w'=>e=.returned .nilIface∧HdrOut w g cs 4 0 false false w':=by
 have f93:=hb.frozen 93
 have f94:=hb.frozen 94
 have ho:=hdrOut_one 4 hb hz c94 c95 c96
 exact zH0
theorem hdrDec5_c (w:World) (g:Nat) (cs:Array Value) (hb:Blk w g 86 cs) (hz:cs.size=108) (c93:w.cell? ⟨g,93,none⟩=some (.int .u8 0)) (c94:w.cell? ⟨g,94,none⟩=some (.int .u8 0)) (c95:w.cell? ⟨g,95,none⟩=some (.bool false)) (c96:w.cell? ⟨g,96,none⟩=some (.bool false)):
 Calls prog 31 #[.pointer (some ⟨g,92,none⟩),.int .u8 80] w fun e w'=>e=.returned .nilIface∧HdrOut w g cs 5 0 false false w':=by
 have f93:=hb.frozen 93
 have f94:=hb.frozen 94
 have ho:=hdrOut_one 5 hb hz c94 c95 c96
 exact zH0
theorem hdrDec6_c (w:World) (g:Nat) (cs:Array Value) (hb:Blk w g 86 cs) (hz:cs.size=108) (c93:w.cell? ⟨g,93,none⟩=some (.int .u8 0)) (c94:w.cell? ⟨g,94,none⟩=some (.int .u8 0)) (c95:w.cell? ⟨g,95,none⟩=some (.bool false)) (c96:w.cell? ⟨g,96,none⟩=some (.bool false)):
 Calls prog 31 #[.pointer (some ⟨g,92,none⟩),.int .u8 98] w fun e w'=>e=.returned .nilIface∧HdrOut w g cs 6 1 false false w':=by
 have f93:=hb.frozen 93
 have f94:=hb.frozen 94
 have ho:=hdrOut_two 6 1 hb hz c95 c96
 exact zH0
theorem hdrDec7_c (w:World) (g:Nat) (cs:Array Value) (hb:Blk w g 86 cs) (hz:cs.size=108) (c93:w.cell? ⟨g,93,none⟩=some (.int .u8 0)) (c94:w.cell? ⟨g,94,none⟩=some (.int .u8 0)) (c95:w.cell? ⟨g,95,none⟩=some (.bool false)) (c96:w.cell? ⟨g,96,none⟩=some (.bool false)):
 Calls prog 31 #[.pointer (some ⟨g,92,none⟩),.int .u8 112] w fun e w'=>e=.returned .nilIface∧HdrOut w g cs 7 0 false false w':=by
 have f93:=hb.frozen 93
 have f94:=hb.frozen 94
 have ho:=hdrOut_one 7 hb hz c94 c95 c96
 exact zH0
theorem hdrDec8_c (w:World) (g:Nat) (cs:Array Value) (hb:Blk w g 86 cs) (hz:cs.size=108) (c93:w.cell? ⟨g,93,none⟩=some (.int .u8 0)) (c94:w.cell? ⟨g,94,none⟩=some (.int .u8 0)) (c95:w.cell? ⟨g,95,none⟩=some (.bool false)) (c96:w.cell? ⟨g,96,none⟩=some (.bool false)):
 Calls prog 31 #[.pointer (some ⟨g,92,none⟩),.int .u8 130] w fun e w'=>e=.returned .nilIface∧HdrOut w g cs 8 1 false false w':=by
 have f93:=hb.frozen 93
 have f94:=hb.frozen 94
 have ho:=hdrOut_two 8 1 hb hz c95 c96
 exact zH0
theorem hdrDec9_c (w:World) (g:Nat) (cs:Array Value) (hb:Blk w g 86 cs) (hz:cs.size=108) (c93:w.cell? ⟨g,93,none⟩=some (.int .u8 0)) (c94:w.cell? ⟨g,94,none⟩=some (.int .u8 0)) (c95:w.cell? ⟨g,95,none⟩=some (.bool false)) (c96:w.cell? ⟨g,96,none⟩=some (.bool false)):
 Calls prog 31 #[.pointer (some ⟨g,92,none⟩),.int .u8 144] w fun e w'=>e=.returned .nilIface∧HdrOut w g cs 9 0 false false w':=by
 have f93:=hb.frozen 93
 have f94:=hb.frozen 94
 have ho:=hdrOut_one 9 hb hz c94 c95 c96
 exact zH0
theorem hdrDec10_c (w:World) (g:Nat) (cs:Array Value) (hb:Blk w g 86 cs) (hz:cs.size=108) (c93:w.cell? ⟨g,93,none⟩=some (.int .u8 0)) (c94:w.cell? ⟨g,94,none⟩=some (.int .u8 0)) (c95:w.cell? ⟨g,95,none⟩=some (.bool false)) (c96:w.cell? ⟨g,96,none⟩=some (.bool false)):
 Calls prog 31 #[.pointer (some ⟨g,92,none⟩),.int .u8 162] w fun e w'=>e=.returned .nilIface∧HdrOut w g cs 10 1 false false w':=by
 have f93:=hb.frozen 93
 have f94:=hb.frozen 94
 have ho:=hdrOut_two 10 1 hb hz c95 c96
 exact zH0
theorem hdrDec11_c (w:World) (g:Nat) (cs:Array Value) (hb:Blk w g 86 cs) (hz:cs.size=108) (c93:w.cell? ⟨g,93,none⟩=some (.int .u8 0)) (c94:w.cell? ⟨g,94,none⟩=some (.int .u8 0)) (c95:w.cell? ⟨g,95,none⟩=some (.bool false)) (c96:w.cell? ⟨g,96,none⟩=some (.bool false)):
 Calls prog 31 #[.pointer (some ⟨g,92,none⟩),.int .u8 176] w fun e w'=>e=.returned .nilIface∧HdrOut w g cs 11 0 false false w':=by
 have f93:=hb.frozen 93
 have f94:=hb.frozen 94
 have ho:=hdrOut_one 11 hb hz c94 c95 c96
 exact zH0
theorem hdrDec12_c (w:World) (g:Nat) (cs:Array Value) (hb:Blk w g 86 cs) (hz:cs.size=108) (c93:w.cell? ⟨g,93,none⟩=some (.int .u8 0)) (c94:w.cell? ⟨g,94,none⟩=some (.int .u8 0)) (c95:w.cell? ⟨g,95,none⟩=some (.bool false)) (c96:w.cell? ⟨g,96,none⟩=some (.bool false)):
 Calls prog 31 #[.pointer (some ⟨g,92,none⟩),.int .u8 192] w fun e w'=>e=.returned .nilIface∧HdrOut w g cs 12 0 false false w':=by
 have f93:=hb.frozen 93
 have f94:=hb.frozen 94
 have ho:=hdrOut_one 12 hb hz c94 c95 c96
 exact zH0
theorem hdrDec13_c (w:World) (g:Nat) (cs:Array Value) (hb:Blk w g 86 cs) (hz:cs.size=108) (c93:w.cell? ⟨g,93,none⟩=some (.int .u8 0)) (c94:w.cell? ⟨g,94,none⟩=some (.int .u8 0)) (c95:w.cell? ⟨g,95,none⟩=some (.bool false)) (c96:w.cell? ⟨g,96,none⟩=some (.bool false)):
 Calls prog 31 #[.pointer (some ⟨g,92,none⟩),.int .u8 208] w fun e w'=>e=.returned .nilIface∧HdrOut w g cs 13 0 false false w':=by
 have f93:=hb.frozen 93
 have f94:=hb.frozen 94
 have ho:=hdrOut_one 13 hb hz c94 c95 c96
 exact zH0
theorem hdrDec14_c (w:World) (g:Nat) (cs:Array Value) (hb:Blk w g 86 cs) (hz:cs.size=108) (c93:w.cell? ⟨g,93,none⟩=some (.int .u8 0)) (c94:w.cell? ⟨g,94,none⟩=some (.int .u8 0)) (c95:w.cell? ⟨g,95,none⟩=some (.bool false)) (c96:w.cell? ⟨g,96,none⟩=some (.bool false)):
 Calls prog 31 #[.pointer (some ⟨g,92,none⟩),.int .u8 224] w fun e w'=>e=.returned .nilIface∧HdrOut w g cs 14 0 false false w':=by
 have f93:=hb.frozen 93
 have f94:=hb.frozen 94
 have ho:=hdrOut_one 14 hb hz c94 c95 c96
 exact zH0
theorem hdrDec15_c (w:World) (g:Nat) (cs:Array Value) (hb:Blk w g 86 cs) (hz:cs.size=108) (c93:w.cell? ⟨g,93,none⟩=some (.int .u8 0)) (c94:w.cell? ⟨g,94,none⟩=some (.int .u8 0)) (c95:w.cell? ⟨g,95,none⟩=some (.bool false)) (c96:w.cell? ⟨g,96,none⟩=some (.bool false)):
 Calls prog 31 #[.pointer (some ⟨g,92,none⟩),.int .u8 240] w fun e w'=>e=.returned .nilIface∧HdrOut w g cs 15 0 false false w':=by
 have f93:=hb.frozen 93
 have f94:=hb.frozen 94
 have ho:=hdrOut_one 15 hb hz c94 c95 c96
 exact zH0
theorem hdrDec3_000_c (w:World) (g:Nat) (cs:Array Value) (hb:Blk w g 86 cs) (hz:cs.size=108) (c93:w.cell? ⟨g,93,none⟩=some (.int .u8 0)) (c94:w.cell? ⟨g,94,none⟩=some (.int .u8 0)) (c95:w.cell? ⟨g,95,none⟩=some (.bool false)) (c96:w.cell? ⟨g,96,none⟩=some (.bool false)):
 Calls prog 31 #[.pointer (some ⟨g,92,none⟩),.int .u8 48] w fun e w'=>e=.returned .nilIface∧HdrOut w g cs 3 0 false false w':=by
 have f93:=hb.frozen 93
 have f94:=hb.frozen 94
 have f95:=hb.frozen 95
 have f96:=hb.frozen 96
 have ho:=hdrOut_pub 3 0 false false hb hz
 exact zH0
theorem hdrDec3_001_c (w:World) (g:Nat) (cs:Array Value) (hb:Blk w g 86 cs) (hz:cs.size=108) (c93:w.cell? ⟨g,93,none⟩=some (.int .u8 0)) (c94:w.cell? ⟨g,94,none⟩=some (.int .u8 0)) (c95:w.cell? ⟨g,95,none⟩=some (.bool false)) (c96:w.cell? ⟨g,96,none⟩=some (.bool false)):
 Calls prog 31 #[.pointer (some ⟨g,92,none⟩),.int .u8 49] w fun e w'=>e=.returned .nilIface∧HdrOut w g cs 3 0 false true w':=by
 have f93:=hb.frozen 93
 have f94:=hb.frozen 94
 have f95:=hb.frozen 95
 have f96:=hb.frozen 96
 have ho:=hdrOut_pub 3 0 false true hb hz
 exact zH0
theorem hdrDec3_100_c (w:World) (g:Nat) (cs:Array Value) (hb:Blk w g 86 cs) (hz:cs.size=108) (c93:w.cell? ⟨g,93,none⟩=some (.int .u8 0)) (c94:w.cell? ⟨g,94,none⟩=some (.int .u8 0)) (c95:w.cell? ⟨g,95,none⟩=some (.bool false)) (c96:w.cell? ⟨g,96,none⟩=some (.bool false)):
 Calls prog 31 #[.pointer (some ⟨g,92,none⟩),.int .u8 50] w fun e w'=>e=.returned .nilIface∧HdrOut w g cs 3 1 false false w':=by
 have f93:=hb.frozen 93
 have f94:=hb.frozen 94
 have f95:=hb.frozen 95
 have f96:=hb.frozen 96
 have ho:=hdrOut_pub 3 1 false false hb hz
 exact zH0
theorem hdrDec3_101_c (w:World) (g:Nat) (cs:Array Value) (hb:Blk w g 86 cs) (hz:cs.size=108) (c93:w.cell? ⟨g,93,none⟩=some (.int .u8 0)) (c94:w.cell? ⟨g,94,none⟩=some (.int .u8 0)) (c95:w.cell? ⟨g,95,none⟩=some (.bool false)) (c96:w.cell? ⟨g,96,none⟩=some (.bool false)):
 Calls prog 31 #[.pointer (some ⟨g,92,none⟩),.int .u8 51] w fun e w'=>e=.returned .nilIface∧HdrOut w g cs 3 1 false true w':=by
 have f93:=hb.frozen 93
 have f94:=hb.frozen 94
 have f95:=hb.frozen 95
 have f96:=hb.frozen 96
 have ho:=hdrOut_pub 3 1 false true hb hz
 exact zH0
theorem hdrDec3_110_c (w:World) (g:Nat) (cs:Array Value) (hb:Blk w g 86 cs) (hz:cs.size=108) (c93:w.cell? ⟨g,93,none⟩=some (.int .u8 0)) (c94:w.cell? ⟨g,94,none⟩=some (.int .u8 0)) (c95:w.cell? ⟨g,95,none⟩=some (.bool false)) (c96:w.cell? ⟨g,96,none⟩=some (.bool false)):
 Calls prog 31 #[.pointer (some ⟨g,92,none⟩),.int .u8 58] w fun e w'=>e=.returned .nilIface∧HdrOut w g cs 3 1 true false w':=by
 have f93:=hb.frozen 93
 have f94:=hb.frozen 94
 have f95:=hb.frozen 95
 have f96:=hb.frozen 96
 have ho:=hdrOut_pub 3 1 true false hb hz
 exact zH0
theorem hdrDec3_111_c (w:World) (g:Nat) (cs:Array Value) (hb:Blk w g 86 cs) (hz:cs.size=108) (c93:w.cell? ⟨g,93,none⟩=some (.int .u8 0)) (c94:w.cell? ⟨g,94,none⟩=some (.int .u8 0)) (c95:w.cell? ⟨g,95,none⟩=some (.bool false)) (c96:w.cell? ⟨g,96,none⟩=some (.bool false)):
 Calls prog 31 #[.pointer (some ⟨g,92,none⟩),.int .u8 59] w fun e w'=>e=.returned .nilIface∧HdrOut w g cs 3 1 true true w':=by
 have f93:=hb.frozen 93
 have f94:=hb.frozen 94
 have f95:=hb.frozen 95
 have f96:=hb.frozen 96
 have ho:=hdrOut_pub 3 1 true true hb hz
 exact zH0
theorem hdrDec3_200_c (w:World) (g:Nat) (cs:Array Value) (hb:Blk w g 86 cs) (hz:cs.size=108) (c93:w.cell? ⟨g,93,none⟩=some (.int .u8 0)) (c94:w.cell? ⟨g,94,none⟩=some (.int .u8 0)) (c95:w.cell? ⟨g,95,none⟩=some (.bool false)) (c96:w.cell? ⟨g,96,none⟩=some (.bool false)):
 Calls prog 31 #[.pointer (some ⟨g,92,none⟩),.int .u8 52] w fun e w'=>e=.returned .nilIface∧HdrOut w g cs 3 2 false false w':=by
 have f93:=hb.frozen 93
 have f94:=hb.frozen 94
 have f95:=hb.frozen 95
 have f96:=hb.frozen 96
 have ho:=hdrOut_pub 3 2 false false hb hz
 exact zH0
theorem hdrDec3_201_c (w:World) (g:Nat) (cs:Array Value) (hb:Blk w g 86 cs) (hz:cs.size=108) (c93:w.cell? ⟨g,93,none⟩=some (.int .u8 0)) (c94:w.cell? ⟨g,94,none⟩=some (.int .u8 0)) (c95:w.cell? ⟨g,95,none⟩=some (.bool false)) (c96:w.cell? ⟨g,96,none⟩=some (.bool false)):
 Calls prog 31 #[.pointer (some ⟨g,92,none⟩),.int .u8 53] w fun e w'=>e=.returned .nilIface∧HdrOut w g cs 3 2 false true w':=by
 have f93:=hb.frozen 93
 have f94:=hb.frozen 94
 have f95:=hb.frozen 95
 have f96:=hb.frozen 96
 have ho:=hdrOut_pub 3 2 false true hb hz
 exact zH0
theorem hdrDec3_210_c (w:World) (g:Nat) (cs:Array Value) (hb:Blk w g 86 cs) (hz:cs.size=108) (c93:w.cell? ⟨g,93,none⟩=some (.int .u8 0)) (c94:w.cell? ⟨g,94,none⟩=some (.int .u8 0)) (c95:w.cell? ⟨g,95,none⟩=some (.bool false)) (c96:w.cell? ⟨g,96,none⟩=some (.bool false)):
 Calls prog 31 #[.pointer (some ⟨g,92,none⟩),.int .u8 60] w fun e w'=>e=.returned .nilIface∧HdrOut w g cs 3 2 true false w':=by
 have f93:=hb.frozen 93
 have f94:=hb.frozen 94
 have f95:=hb.frozen 95
 have f96:=hb.frozen 96
 have ho:=hdrOut_pub 3 2 true false hb hz
 exact zH0
theorem hdrDec3_211_c (w:World) (g:Nat) (cs:Array Value) (hb:Blk w g 86 cs) (hz:cs.size=108) (c93:w.cell? ⟨g,93,none⟩=some (.int .u8 0)) (c94:w.cell? ⟨g,94,none⟩=some (.int .u8 0)) (c95:w.cell? ⟨g,95,none⟩=some (.bool false)) (c96:w.cell? ⟨g,96,none⟩=some (.bool false)):
 Calls prog 31 #[.pointer (some ⟨g,92,none⟩),.int .u8 61] w fun e w'=>e=.returned .nilIface∧HdrOut w g cs 3 2 true true w':=by
 have f93:=hb.frozen 93
 have f94:=hb.frozen 94
 have f95:=hb.frozen 95
 have f96:=hb.frozen 96
 have ho:=hdrOut_pub 3 2 true true hb hz
 exact zH0
def RBuf (w:World) (bb xb:Nat) (xs:List UInt8):Prop:=∃o c,Blk w bb 111 #[.slice (some ⟨xb,o,none⟩) xs.length c]∧RB w xb o xs∧xs.length≤c∧xb≠bb
theorem readByte_c (w:World) (bb xb:Nat) (u:UInt8) (xs:List UInt8) (hB:RBuf w bb xb (u::xs)) (hl:xs.length≤1099511627776):
 Calls prog 133 #[.pointer (some ⟨bb,0,none⟩)] w fun e w'=>e=.returned (.tuple #[.int .u8 (u.toNat:Int),.nilIface])∧RBuf w' bb xb xs∧Keeps [bb] w w':=by
 obtain⟨o,c,hb,hcl,hc,hne⟩:=hB
 have h0:=hcl.at0 u rfl
 have cb:w.cell? ⟨bb,0,none⟩=some (.slice (some ⟨xb,o,none⟩) (xs.length+1) c):=by rw[hb.cell];rfl
 have fb:w.frozen? ⟨bb,0,none⟩=false:=hb.frozen 0
 have hz:¬((xs.length:Int)+1=0):=by omega
 have hz2:(0:Int)<(xs.length:Int)+1:=by omega
 simp only[List.length_cons] at hc
 have HB:=hH hb
 have HC:=hH hcl
 clear hb hcl
 by_cases hc1:c=1
 ·subst hc1
  have hx:xs=[]:=List.eq_nil_of_length_eq_zero (by omega)
  subst hx
  go_enter func133,ntmps133
  go_wp2_with fail
  go_ret2
  exact⟨rfl,⟨_,_,HB.o.set_ 0 _,fun k u hu=>by simp at hu,by simp,hne⟩,Keeps.setCell _ ⟨bb,0,none⟩ _⟩
 ·go_enter func133,ntmps133
  go_wp2_with fail
  go_ret2
  exact⟨rfl,⟨o+1,c-1,HB.o.set_ 0 _,(HC.o.drop 1).keep (Keeps.setCell _ ⟨bb,0,none⟩ _) (by simpa using hne),by omega,hne⟩,Keeps.setCell _ ⟨bb,0,none⟩ _⟩
theorem newBuffer_c (w:World) (b o:Nat) (c:Nat) (xs:List UInt8) (hr:RB w b o xs) (hc:xs.length≤c) (hA:b<w.heap.size):
 Calls prog 62 #[.slice (some ⟨b,o,none⟩) xs.length c] w fun e w'=>e=.returned (.pointer (some ⟨w.heap.size,0,none⟩))∧RBuf w' w.heap.size b xs∧Keeps [] w w'∧w.heap.size<w'.heap.size:=by
 have HR:=hH hr
 clear hr
 go_enter func62,ntmps62
 go_wp2_with fail
 go_ret
 exact⟨rfl,⟨o,c,Blk.new _ _ _,HR.o.keep (Keeps.alloc _ _) (by simp),hc,by omega⟩,Keeps.alloc _ _,by simp⟩
theorem and127:∀x:Fin 256,bits .and .u8 ((x.val:Nat):Int) 127=((x.val % 128:Nat):Int):=by decide+kernel
theorem and128:∀x:Fin 256,bits .and .u8 ((x.val:Nat):Int) 128=(if x.val<128 then 0 else 128):=by decide+kernel
theorem or_round (v m i:Nat) (hv:v<128^ i) (hs:v+m*128^ i<268435456):bits BinOp.or IntKind.u32 (v:Int) ((m:Int)*2^ (7*i) % 4294967296)=((v+m*128^ i:Nat):Int):=by
 have h7:(2:Nat)^ (7*i)=128^ i:=by rw[Nat.pow_mul]
 have e0:((m*2^ (7*i):Nat):Int)=(m:Int)*2^ (7*i):=by rw[Int.natCast_mul,Int.natCast_pow];rfl
 have e:((m:Int)*2^ (7*i) % 4294967296)=((m*128^ i:Nat):Int):=by
  rw[←e0,h7]
  generalize m*128^ i=q at hs
  omega
 rw[e,u32_or_nat v (m*128^ i) (by omega) (by omega),or_high v m (7*i) (128^ i) h7.symm hv]
 omega
def DLRel (w:World) (bb xb n:Nat) (rest:List UInt8) (gk:Nat) (s5 s6 s3:Value) (wr:World):Prop:=
 ∃m v i:Nat,s5=.int .u32 ((7*i:Nat):Int)∧s6=.int .u32 ((v:Nat):Int)∧s3=.int .i64 ((i+1:Nat):Int)∧i<4∧m<128^ (4-i)∧v<128^ i∧v+m*128^ i=n∧4-i<gk∧i+(vlen m).length=(vlen n).length∧
  RBuf wr bb xb (vlen m++rest)∧Keeps [bb] w wr
theorem decodeLength_c (w:World) (bb xb n:Nat) (rest:List UInt8) (hn:n<268435456) (hB:RBuf w bb xb (vlen n++rest)) (hl:rest.length≤1000000000):
 Calls prog 61 #[.iface 109 (.pointer (some ⟨bb,0,none⟩))] w fun e w'=>e=.returned (.tuple #[.int .i64 (n:Int),.int .i64 ((vlen n).length:Int),.nilIface])∧RBuf w' bb xb rest∧Keeps [bb] w w':=by
 have HB:=hH hB
 clear hB
 have hm61:∀w:World,(method 287 109 (.pointer (some ⟨bb,0,none⟩)) "ReadByte").run prog w=.ok (133,.pointer (some ⟨bb,0,none⟩)) w:=fun _=>by kernel_rfl
 go_enter func61,ntmps61
 go_wp2_with fail
 go_loopg [3,5,6] 6 (fun gk s3 s5 s6 wr=>DLRel w bb xb n rest gk s5 s6 s3 wr)
 case atStart=>exact⟨n,0,0,rfl,rfl,rfl,by omega,by simpa using hn,by omega,by omega,by omega,by omega,HB.o,Keeps.refl _ _⟩
 case round=>
  obtain⟨m,v,i,rfl,rfl,rfl,hi,hm,hv,hsum,hgk,hlen,hbr,hkw⟩:=hrel
  have hml:m<268435456:=by
   have h1:m*128^ i≤n:=by omega
   have h2:m*1≤m*128^ i:=Nat.mul_le_mul_left _ (Nat.pos_of_ne_zero (by simp))
   omega
  by_cases hlo:m<128
  ·rw[vlen_lo hlo] at hbr hlen
   have hu:(UInt8.ofNat m).toNat=m:=by rw[UInt8.toNat_ofNat'];omega
   have h127:bits .and .u8 ((m:Nat):Int) 127=((m:Nat):Int):=by have:=and127 ⟨m,by omega⟩;simp only at this;rw[this,Nat.mod_eq_of_lt hlo]
   have h128:bits .and .u8 ((m:Nat):Int) 128=0:=by have:=and128 ⟨m,by omega⟩;simp only at this;rw[this,if_pos hlo]
   have hor:=or_round v m i hv (by omega)
   rw[hsum] at hor
   have hgt:¬((268435455:Int)<(n:Int)):=by omega
   have hgd:decide ((268435455:Int)<(n:Int))=false:=decide_eq_false hgt
   have hrb:=readByte_c wr bb xb (UInt8.ofNat m) rest hbr (by omega)
   rw[hu] at hrb
   have HRB:=hH hrb
   have HKW:=hH hkw
   have HLEN:=hH hlen
   clear hrb hbr hkw hlen hu HB hsum hm hv
   go_wp2_with fail
   refine HRB.o.mono ?_
   rintro e w' ⟨rfl,hb',hk'⟩
   go_wp2_with fail
   go_ret3
   exact⟨by rw[←HLEN.o];simp,hb',HKW.o.trans hk' (by simp)⟩
  ·have hi3:i<3:=by
    rcases Nat.lt_or_ge i 3 with h|h
    ·exact h
    ·have:i=3:=by omega
     subst this
     simp at hm
     omega
   rw[vlen_hi (by omega)] at hbr hlen
   have hu:(UInt8.ofNat (m % 128+128)).toNat=m % 128+128:=by rw[UInt8.toNat_ofNat'];omega
   have h127:bits .and .u8 ((m % 128+128:Nat):Int) 127=((m % 128:Nat):Int):=by have:=and127 ⟨m % 128+128,by omega⟩;simp only at this;rw[this];omega
   have h128:bits .and .u8 ((m % 128+128:Nat):Int) 128=128:=by have:=and128 ⟨m % 128+128,by omega⟩;simp only at this;rw[this,if_neg (by omega)]
   have hpi:128^ (i+1)=128^ i*128:=Nat.pow_succ _ _
   have hms:m=m / 128*128+m % 128:=by omega
   have hsum2:v+m % 128*128^ i+m / 128*128^ (i+1)=n:=by
    rw[←hsum,hpi]
    have:m*128^ i=m / 128*(128^ i*128)+m % 128*128^ i:=by
     conv=>lhs;rw[hms]
     rw[Nat.add_mul,Nat.mul_assoc,Nat.mul_comm 128]
    omega
   have hv2:v+m % 128*128^ i<128^ (i+1):=by
    rw[hpi]
    have h1:m % 128*128^ i≤127*128^ i:=Nat.mul_le_mul_right _ (by omega)
    omega
   have hm2:m / 128<128^ (4-(i+1)):=by
    have e:4-i=(4-(i+1))+1:=by omega
    rw[e,Nat.pow_succ] at hm
    exact Nat.div_lt_of_lt_mul (by rw[Nat.mul_comm];exact hm)
   obtain⟨x,hx⟩:∃x,m % 128+128=x:=⟨_,rfl⟩
   obtain⟨y,hy⟩:∃y,m % 128=y:=⟨_,rfl⟩
   obtain⟨v2,hv2e⟩:∃v2,v+m % 128*128^ i=v2:=⟨_,rfl⟩
   have hor:=or_round v (m % 128) i hv (by omega)
   rw[hv2e] at hor hsum2 hv2
   have hgt:¬((268435455:Int)<(v2:Int)):=by omega
   have hgd:decide ((268435455:Int)<(v2:Int))=false:=decide_eq_false hgt
   have hrl:(vlen (m / 128)++rest).length≤1099511627776:=by have:=vlen_le (m / 128) (by omega);simp;omega
   have hrb:=readByte_c wr bb xb (UInt8.ofNat (m % 128+128)) (vlen (m / 128)++rest) (by simpa using hbr) hrl
   rw[hu] at hrb
   rw[hx] at hrb h127 h128
   rw[hy] at hor h127
   have HRB:=hH hrb
   have HKW:=hH hkw
   have HLEN:=hH hlen
   have HS2:=hH hsum2
   have HV2:=hH hv2
   have HM2:=hH hm2
   obtain⟨g',rfl⟩:∃g',gk=g'+1:=⟨gk-1,by omega⟩
   have hxb:x<256:=by omega
   have hyb:y<128:=by omega
   clear hrb hbr hkw hlen hu HB hsum hm hv hsum2 hv2 hm2 hpi hms hv2e hx hy hrl
   go_wp2_with fail
   refine HRB.o.mono ?_
   rintro e w' ⟨rfl,hb',hk'⟩
   go_wp2_with fail
   go_roundg g'
   case measure=>omega
   case rel=>exact⟨m / 128,v2,i+1,by go_num,rfl,by go_num,by omega,HM2.o,HV2.o,HS2.o,by omega,by have:=HLEN.o;simp at this;omega,hb',HKW.o.trans hk' (by simp)⟩
theorem rb_rd {w:World} {b o:Nat} {xs:List UInt8} (h:RB w b o xs):Rd w 1 (some ⟨b,o,none⟩) xs.length (bvs xs):=
 ⟨by simp[bvs_length],fun _=>⟨b,o,rfl,fun j u hu=>by
  rw[bvs_get] at hu
  obtain⟨x,hx,rfl⟩:=Option.map_eq_some_iff.1 hu
  exact h j x hx⟩⟩
theorem rd_rb {w:World} {b o:Nat} {xs:List UInt8} (h:Rd w 1 (some ⟨b,o,none⟩) xs.length (bvs xs)):RB w b o xs:=by
 intro k u hu
 obtain⟨b',o',h1,hc⟩:=h.2 (by have:=(List.getElem?_eq_some_iff.1 hu).1;omega)
 injection h1 with h1
 injection h1 with h1 h2
 subst h1 h2
 exact hc k _ (by rw[bvs_get,hu];rfl)
theorem tabs_keep {w w':World} {S:List Nat} (h:Lib.Utf8Tabs 28 29 w) (k:Keeps S w w') (h28:28∉S) (h29:29∉S):Lib.Utf8Tabs 28 29 w':=
 ⟨fun c hc=>k.some_ (h.1 c hc) h28,fun i hi=>⟨k.some_ (h.2 i hi).1 h29,k.some_ (h.2 i hi).2 h29⟩⟩
theorem validUTF8_c (w:World) (b o c:Nat) (xs:List UInt8) (hr:RB w b o xs) (hcap:xs.length≤c) (hl:xs.length≤1099511627776) (hv:Lib.validD xs=true) (h0:∀u∈xs,u≠0) (hT:Lib.Utf8Tabs 28 29 w):
 Calls prog 109 #[.slice (some ⟨b,o,none⟩) xs.length c] w fun e w'=>e=.returned (.bool true)∧Keeps [] w w':=by
 have h1:=hH (valid_s w b o c xs hr hcap hl hv hT)
 have h2:=hH (fun (w':World) (k:Keeps [] w w')=>hasNull_c w' (some ⟨b,o,none⟩) c xs (rb_rd (hr.keep k (by simp))) hl h0)
 clear hr hv h0 hT
 go_enter func109,ntmps109
 go_wp2_with fail
 go_fit (h1.o)
 rintro e w1 ⟨rfl,hk1⟩
 go_wp2_with fail
 go_fit (h2.o w1 hk1)
 rintro e w2 ⟨rfl,rfl⟩
 go_wp2_with fail
 go_ret
 exact⟨rfl,hk1⟩
def StrOut (w:World) (t:ByteArray) (k:Nat) (e:Ending) (w':World):Prop:=e=.returned (.tuple #[.string t,.int .i64 (k:Int),.nilIface])∧Keeps [] w w'
theorem ba_eq (t:ByteArray):(⟨t.data.toList.toArray⟩:ByteArray)=t:=by cases t;simp
theorem zH1 {p:Prop} (h:p:=by
 go_enter func95,ntmps95
 go_wp2_with fail
 go_fit (h1.o)
 rintro e w1 ⟨rfl,m,rfl⟩
 go_wp2_with fail
 go_fit (h2.o _ (Keeps.drewN w m))
 rintro e w2 ⟨rfl,hk2⟩
 go_wp2_with fail
 go_fit (h3.o _ ((Keeps.drewN w m).trans hk2 (by simp)))
 rintro e w3 ⟨rfl,rfl⟩
 go_wp2_with fail
 go_ret3
 exact⟨by simp,(Keeps.drewN w m).trans hk2 (by simp)⟩
 ):p:=h
theorem decodeString_c (w:World) (b o:Nat) (c:Nat) (xs rest:List UInt8) (t:ByteArray) (k:Nat) (hr:RB w b o xs) (hx:xs.drop k=lp t.data.toList++rest) (hv:t.size≤65535) (hl:xs.length≤1099511627776) (hcap:xs.length≤c)
 (hu:Lib.validD t.data.toList=true) (h0:∀u∈t.data.toList,u≠0) (hT:Lib.Utf8Tabs 28 29 w):
 Calls prog 95 #[.slice (some ⟨b,o,none⟩) xs.length c,.int .i64 (k:Int)] w (StrOut w t (k+2+t.size)):=by
 have hk:=drop_le hx (by simp[lp,be2])
 simp only[lp_length] at hk
 have hlen:t.data.toList.length=t.size:=tl_len t
 have h1:=hH (decodeBytes_c w b o c xs t.data.toList rest k (rb_rd hr) hx (by omega) hl hcap)
 have hd:RB w b (o+(k+2)) t.data.toList:=by
  intro j u hj
  have:=hr (k+2+j) u (by rw[Nat.add_assoc,←List.getElem?_drop,hx,lp,List.append_assoc];simp only[be2,List.cons_append,List.nil_append];rw[show 2+j=j+1+1 by omega,List.getElem?_cons_succ,List.getElem?_cons_succ,List.getElem?_append_left (List.getElem?_eq_some_iff.1 hj).1,hj])
  rw[show o+(k+2)+j=o+(k+2+j) by omega]
  exact this
 by_cases hck:c=k+2
 ·have ht0:t.data.toList=[]:=List.eq_nil_of_length_eq_zero (by omega)
  have hd0:RB w b o t.data.toList:=by rw[ht0];intro j u hj;simp at hj
  rw[if_pos hck] at h1
  have h2:=hH (fun (w':World) (k':Keeps [] w w')=>validUTF8_c w' b o (c-(k+2)) t.data.toList (hd0.keep k' (by simp)) (by omega) (by omega) hu h0 (tabs_keep hT k' (by simp) (by simp)))
  have h3:=hH (fun (w':World) (k':Keeps [] w w')=>bytesToString_c w' (some ⟨b,o,none⟩) (c-(k+2)) t.data.toList (rb_rd (hd0.keep k' (by simp))))
  rw[ba_eq] at h3
  rw[hlen] at h1 h2 h3
  clear hr hx hu h0 hT hd hd0 ht0 hck hlen
  exact zH1
 ·rw[if_neg hck] at h1
  have h2:=hH (fun (w':World) (k':Keeps [] w w')=>validUTF8_c w' b (o+(k+2)) (c-(k+2)) t.data.toList (hd.keep k' (by simp)) (by omega) (by omega) hu h0 (tabs_keep hT k' (by simp) (by simp)))
  have h3:=hH (fun (w':World) (k':Keeps [] w w')=>bytesToString_c w' (some ⟨b,o+(k+2),none⟩) (c-(k+2)) t.data.toList (rb_rd (hd.keep k' (by simp))))
  rw[ba_eq] at h3
  rw[hlen] at h1 h2 h3
  clear hr hx hu h0 hT hd hck hlen
  exact zH1
def RDat (xb:Nat) (w:World) (o:Option PropV) (v:Option Value):Prop:=
 match o with
 |none=>v=some (.slice none 0 0)
 |some x=>∃A c,v=some (.slice A x.text.size c)∧Rd w 1 A x.text.size (bvs x.text.data.toList)∧∀a,A=some a→a.block=xb
structure RSt (B xb:Nat) (w:World) (o:Nat) (l:List PropV) (cs:Array Value):Prop where
 sc:∀j,4≤j→j<37→cs[o+j]?=some (cellV l j)
 d0:RDat xb w (fld 9 l) cs[o]?
 d2:RDat xb w (fld 22 l) cs[o+2]?
 nm:∃A c,cs[o+1]?=some (.slice A (numsOf l).length c)∧w.ownsRow 0 3 1 (.slice A (numsOf l).length c) (numsOf l).length ((numsOf l).map fun (n:Nat)=>.int .i64 (n:Int))∧∀k,A.map (·.block)=some k→B≤k
 us:∃A c,cs[o+3]?=some (.slice A (usersOf l).length c)∧w.ownsRow 0 124 2 (.slice A (usersOf l).length c) (usersOf l).length ((usersOf l).flatMap fun u=>[.string u.1,.string u.2])∧∀k,A.map (·.block)=some k→B≤k
section
variable {B xb:Nat} {w w':World} {o:Nat} {l:List PropV} {cs cs':Array Value} {S:List Nat}
theorem RDat.keep {p:Option PropV} {v:Option Value} (h:RDat xb w p v) (k:Keeps S w w') (hn:xb∉S):RDat xb w' p v:=by
 cases p with
 |none=>exact h
 |some x=>
  obtain⟨A,c,h1,h2,h3⟩:=h
  exact⟨A,c,h1,h2.keep k (fun a ha=>by rw[h3 a ha];exact hn),h3⟩
theorem RSt.keep (h:RSt B xb w o l cs) (k:Keeps S w w') (hn:xb∉S) (hS:∀x∈S,x<B∨w.heap.size≤x):RSt B xb w' o l cs:=by
 obtain⟨A1,c1,x1,x2,x3⟩:=h.nm
 obtain⟨A3,c3,y1,y2,y3⟩:=h.us
 refine⟨h.sc,h.d0.keep k hn,h.d2.keep k hn,⟨A1,c1,x1,ownsRow_keep x2 k ?_,x3⟩,⟨A3,c3,y1,ownsRow_keep y2 k ?_,y3⟩⟩
 ·intro q hq hm
  rw[own_slice] at hq
  have:=x3 q hq
  have:=own_lt x2 q hq
  rcases hS q hm with h|h<;>omega
 ·intro q hq hm
  rw[own_slice] at hq
  have:=y3 q hq
  have:=own_lt y2 q hq
  rcases hS q hm with h|h<;>omega
theorem RSt.scal {x:PropV} (h:RSt B xb w o l cs) (h4:∀j,j<4→cs'[o+j]?=cs[o+j]?)
 (hsc:∀j,4≤j→j<37→cs'[o+j]?=some (cellV (l++[x]) j)) (h9:x.id≠9) (h22:x.id≠22) (h11:x.id≠11) (h38:x.id≠38):RSt B xb w o (l++[x]) cs':=by
 have h40:=h4 0 (by omega)
 rw[Nat.add_zero] at h40
 refine⟨hsc,?_,?_,?_,?_⟩
 ·rw[fld_app,if_neg h9,h40];exact h.d0
 ·rw[fld_app,if_neg h22,h4 2 (by omega)];exact h.d2
 ·rw[numsOf_app,if_neg h11,h4 1 (by omega)];exact h.nm
 ·rw[usersOf_app,if_neg h38,h4 3 (by omega)];exact h.us
theorem RSt.one {x:PropV} (h:RSt B xb w o l cs) (hz:o+37≤cs.size) (i:Int) (a:Nat) (v:Value) (hx:x.id=i) (ha:4≤a) (ha2:a<37) (hia:idOf a=i)
 (htab:∀j,j<37→j≠a→idOf j≠i) (hv:v=valOf a (some x)):RSt B xb w o (l++[x]) (cs.setIfInBounds (o+a) v):=by
 have t0:=htab 0 (by omega) (by omega)
 have t1:=htab 1 (by omega) (by omega)
 have t2:=htab 2 (by omega) (by omega)
 have t3:=htab 3 (by omega) (by omega)
 refine h.scal (fun j hj=>by rw[Array.getElem?_setIfInBounds,if_neg (by omega)]) (fun j h1 h2=>?_) (fun e=>t0 (by rw[←hx,e];rfl)) (fun e=>t2 (by rw[←hx,e];rfl)) (fun e=>t1 (by rw[←hx,e];rfl)) (fun e=>t3 (by rw[←hx,e];rfl))
 rw[Array.getElem?_setIfInBounds,cellV_app]
 by_cases e:a=j
 ·subst e;rw[if_pos rfl,if_pos (by omega),if_pos (by rw[hx,hia]),hv]
 ·rw[if_neg (by omega),if_neg (by rw[hx];exact fun h=>htab j h2 (Ne.symm e) h.symm)];exact h.sc j h1 h2
theorem RSt.two {x:PropV} (h:RSt B xb w o l cs) (hz:o+37≤cs.size) (i:Int) (a f:Nat) (v u:Value) (hx:x.id=i) (ha:4≤a) (ha2:a<37) (hf:4≤f) (hf2:f<37) (haf:a≠f) (hia:idOf a=i) (hif:idOf f=i)
 (htab:∀j,j<37→j≠a→j≠f→idOf j≠i) (hv:v=valOf a (some x)) (hu:u=valOf f (some x)):RSt B xb w o (l++[x]) ((cs.setIfInBounds (o+a) v).setIfInBounds (o+f) u):=by
 have t0:=htab 0 (by omega) (by omega) (by omega)
 have t1:=htab 1 (by omega) (by omega) (by omega)
 have t2:=htab 2 (by omega) (by omega) (by omega)
 have t3:=htab 3 (by omega) (by omega) (by omega)
 refine h.scal (fun j hj=>by rw[Array.getElem?_setIfInBounds,if_neg (by omega),Array.getElem?_setIfInBounds,if_neg (by omega)]) (fun j h1 h2=>?_) (fun e=>t0 (by rw[←hx,e];rfl)) (fun e=>t2 (by rw[←hx,e];rfl)) (fun e=>t1 (by rw[←hx,e];rfl)) (fun e=>t3 (by rw[←hx,e];rfl))
 rw[Array.getElem?_setIfInBounds,cellV_app]
 by_cases e:f=j
 ·subst e;rw[if_pos rfl,if_pos (by simp;omega),if_pos (by rw[hx,hif]),hu]
 ·rw[if_neg (by omega),Array.getElem?_setIfInBounds]
  by_cases e2:a=j
  ·subst e2;rw[if_pos rfl,if_pos (by omega),if_pos (by rw[hx,hia]),hv]
  ·rw[if_neg (by omega),if_neg (by rw[hx];exact fun h=>htab j h2 (Ne.symm e2) (Ne.symm e) h.symm)];exact h.sc j h1 h2
theorem zH4 {p:Prop} (h:p:=by
 rw[fld_app,Array.getElem?_setIfInBounds]
 simp only[hx,if_true];rw[if_pos (by omega)];exact⟨A,c,rfl,hr,hA⟩
 ):p:=h
theorem zH8 {p:Prop} (h:p:=by
 rw[usersOf_app,hx,if_neg (by omega),Array.getElem?_setIfInBounds,if_neg (by omega)];exact h.us
 ):p:=h
theorem zH9 {p:Prop} (h:p:=by
 rw[numsOf_app,hx,if_neg (by omega),Array.getElem?_setIfInBounds,if_neg (by omega)];exact h.nm
 ):p:=h
theorem RSt.data0 {x:PropV} (h:RSt B xb w o l cs) (hz:o+37≤cs.size) (hx:x.id=9) (A:Option Addr) (c:Nat) (hr:Rd w 1 A x.text.size (bvs x.text.data.toList)) (hA:∀a,A=some a→a.block=xb):RSt B xb w o (l++[x]) (cs.setIfInBounds o (.slice A x.text.size c)):=by
 refine⟨fun j h1 h2=>?_,?_,?_,?_,?_⟩
 ·rw[Array.getElem?_setIfInBounds,if_neg (by omega),cellV_app,if_neg]
  ·exact h.sc j h1 h2
  ·rw[hx]
   have ht:∀j,j<37→4≤j→(9:Int)≠idOf j:=by decide
   exact ht j h2 h1
 ·exact zH4
 ·rw[fld_app,Array.getElem?_setIfInBounds,hx,if_neg (by omega),if_neg (by omega)];exact h.d2
 ·exact zH9
 ·exact zH8
theorem RSt.data2 {x:PropV} (h:RSt B xb w o l cs) (hz:o+37≤cs.size) (hx:x.id=22) (A:Option Addr) (c:Nat) (hr:Rd w 1 A x.text.size (bvs x.text.data.toList)) (hA:∀a,A=some a→a.block=xb):RSt B xb w o (l++[x]) (cs.setIfInBounds (o+2) (.slice A x.text.size c)):=by
 refine⟨fun j h1 h2=>?_,?_,?_,?_,?_⟩
 ·rw[Array.getElem?_setIfInBounds,if_neg (by omega),cellV_app,if_neg]
  ·exact h.sc j h1 h2
  ·rw[hx]
   have ht:∀j,j<37→4≤j→(22:Int)≠idOf j:=by decide
   exact ht j h2 h1
 ·rw[fld_app,Array.getElem?_setIfInBounds,hx,if_neg (by omega),if_neg (by omega)];exact h.d0
 ·exact zH4
 ·exact zH9
 ·exact zH8
theorem ownsRow_ne {w:World} {e t:TypeId} {s1 s2 n1 n2:Nat} {v1 v2:Value} {x1 x2:List Value} (h1:w.ownsRow 0 e s1 v1 n1 x1) (h2:w.ownsRow 0 t s2 v2 n2 x2) (hne:e≠t):∀k,v1.ownBlock=some k→v2.ownBlock≠some k:=by
 intro k hk
 rcases h1.2 with⟨rfl,_⟩|⟨g',cap,cur,rfl,_,hh,_⟩
 ·simp[Value.ownBlock] at hk
 ·simp[Value.ownBlock] at hk
  subst hk
  exact fun h=>own_ne h2 (show Blk w g' e cur from hh) (Ne.symm hne) g' h rfl
theorem zH2 {p:Prop} (h:p:=by
 refine⟨A3,c3,y1,ownsRow_keep y2 k ?_,y3⟩
 intro q hq hm
 cases e:A0.map (·.block) with
 |none=>rw[e] at hm;simp at hm
 |some r=>rw[e] at hm;simp at hm;subst hm;exact ownsRow_ne y2 h0 (by decide) q hq (by rw[own_slice,e])
 ):p:=h
theorem zH3 {p:Prop} (h:p:=by
 intro hm
 cases e:A0.map (·.block) with
 |none=>rw[e] at hm;simp at hm
 |some q=>rw[e] at hm;simp at hm;subst hm;have:=hB0 _ e;omega
 ):p:=h
theorem zH6 {p:Prop} (h:p:=by
 rw[fld_app,Array.getElem?_setIfInBounds,hx,if_neg (by omega),if_neg (by omega)];exact h.d0.keep k hnx
 ):p:=h
theorem zH7 {p:Prop} (h:p:=by
 rw[fld_app,Array.getElem?_setIfInBounds,hx,if_neg (by omega),if_neg (by omega)];exact h.d2.keep k hnx
 ):p:=h
theorem RSt.row1 {x:PropV} {A:Option Addr} {c:Nat} {A0:Option Addr} {c0:Nat} (h:RSt B xb w o l cs) (hz:o+37≤cs.size) (hx:x.id=11)
 (h0:w.ownsRow 0 3 1 (.slice A0 (numsOf l).length c0) (numsOf l).length ((numsOf l).map fun (n:Nat)=>.int .i64 (n:Int))) (hB0:∀k,A0.map (·.block)=some k→B≤k) (k:Keeps (A0.map (·.block)).toList w w') (hxb:xb<B)
 (ho:w'.ownsRow 0 3 1 (.slice A ((numsOf l).length+1) c) ((numsOf l).length+1) (((numsOf l).map fun (n:Nat)=>.int .i64 (n:Int))++[.int .i64 (x.n:Int)])) (hB:∀k,A.map (·.block)=some k→B≤k):
 RSt B xb w' o (l++[x]) (cs.setIfInBounds (o+1) (.slice A ((numsOf l).length+1) c)):=by
 have hnx:xb∉(A0.map (·.block)).toList:=by
  exact zH3
 refine⟨fun j h1 h2=>?_,?_,?_,?_,?_⟩
 ·rw[Array.getElem?_setIfInBounds,if_neg (by omega),cellV_app,if_neg]
  ·exact h.sc j h1 h2
  ·rw[hx]
   have ht:∀j,j<37→4≤j→(11:Int)≠idOf j:=by decide
   exact ht j h2 h1
 ·exact zH6
 ·exact zH7
 ·rw[numsOf_app,hx,if_pos rfl,Array.getElem?_setIfInBounds,if_pos rfl,if_pos (by omega)]
  exact⟨A,c,by simp,by simpa using ho,hB⟩
 ·rw[usersOf_app,hx,if_neg (by omega),Array.getElem?_setIfInBounds,if_neg (by omega)]
  obtain⟨A3,c3,y1,y2,y3⟩:=h.us
  exact zH2
theorem RSt.row3 {x:PropV} {A:Option Addr} {c:Nat} {A0:Option Addr} {c0:Nat} (h:RSt B xb w o l cs) (hz:o+37≤cs.size) (hx:x.id=38)
 (h0:w.ownsRow 0 124 2 (.slice A0 (usersOf l).length c0) (usersOf l).length ((usersOf l).flatMap fun u=>[.string u.1,.string u.2])) (hB0:∀k,A0.map (·.block)=some k→B≤k) (k:Keeps (A0.map (·.block)).toList w w') (hxb:xb<B)
 (ho:w'.ownsRow 0 124 2 (.slice A ((usersOf l).length+1) c) ((usersOf l).length+1) (((usersOf l).flatMap fun u=>[.string u.1,.string u.2])++[.string x.text,.string x.other])) (hB:∀k,A.map (·.block)=some k→B≤k):
 RSt B xb w' o (l++[x]) (cs.setIfInBounds (o+3) (.slice A ((usersOf l).length+1) c)):=by
 have hnx:xb∉(A0.map (·.block)).toList:=by
  exact zH3
 refine⟨fun j h1 h2=>?_,?_,?_,?_,?_⟩
 ·rw[Array.getElem?_setIfInBounds,if_neg (by omega),cellV_app,if_neg]
  ·exact h.sc j h1 h2
  ·rw[hx]
   have ht:∀j,j<37→4≤j→(38:Int)≠idOf j:=by decide
   exact ht j h2 h1
 ·exact zH6
 ·exact zH7
 ·rw[numsOf_app,hx,if_neg (by omega),Array.getElem?_setIfInBounds,if_neg (by omega)]
  obtain⟨A3,c3,y1,y2,y3⟩:=h.nm
  exact zH2
 ·rw[usersOf_app,hx,if_pos rfl,Array.getElem?_setIfInBounds,if_pos rfl,if_pos (by omega)]
  exact⟨A,c,by simp,by simpa using ho,hB⟩
end
theorem encL_drop (l:List PropV) (k:Nat) (x:PropV) (hx:l[k]?=some x) (rest:List UInt8):(encL l++rest).drop (encL (l.take k)).length=encP x++(encL (l.drop (k+1))++rest):=by
 obtain⟨hk,rfl⟩:=List.getElem?_eq_some_iff.1 hx
 have h:l=l.take k++(l[k]::l.drop (k+1)):=by rw[List.getElem_cons_drop,List.take_append_drop]
 have e:encL l=encL (l.take k)++(encP l[k]++encL (l.drop (k+1))):=by
  conv=>lhs;rw[h]
  unfold encL
  rw[List.flatMap_append,List.flatMap_cons]
 rw[e,List.append_assoc,List.drop_left,List.append_assoc]
theorem drop_more {xs a b:List UInt8} {k:Nat} (h:xs.drop k=a++b) (m:Nat) (hm:a.length=m):xs.drop (k+m)=b:=by
 rw[←List.drop_drop,h,←hm,List.drop_left]
theorem encL_le {kind:Int} {l:List PropV} (h:ProperL kind l):(encL l).length≤20*200000:=by
 have h1:∀x∈l,(encP x).length≤200000:=fun x hx=>encP_le (h.ok x hx)
 have h2:=flat_le l encP 200000 h1
 have h3:l.length*200000≤20*200000:=Nat.mul_le_mul_right _ h.len
 exact Nat.le_trans h2 h3
end Go.Proofs.YtkglmacaecmhdaaGreatDoor
