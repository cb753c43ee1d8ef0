/- FnRoad, part D: the walks of B7, X0, B8, C0, K0. -/
import Derived.Deep.DeepFit
import Derived.Defers
import Derived.Recover
import Derived.Laws.Pointers
import Derived.Deep.RegionHeld3
import Derived.Deep.MidRow
import Derived.Test.YtkglmacaecmhdaaGreatDoorA
set_option linter.unusedVariables false
set_option linter.unusedSimpArgs false
set_option maxHeartbeats 1000000
set_option maxRecDepth 100000
namespace Go.Proofs.YtkglmacaecmhdaaGreatDoor
open Go Go.RowKit Tryz
structure PropV where
 id:Int
 n:Nat
 text:ByteArray
 other:ByteArray
def PropV.cells (x:PropV):List Value:=[.int .i64 x.id,.int .u32 (x.n:Int),.string x.text,.string x.other]
def PropV.cellAt (u:PropV):Nat→Value
 |0=>.int .i64 u.id
 |1=>.int .u32 (u.n:Int)
 |2=>.string u.text
 |_=>.string u.other
theorem flat4_get (us:List PropV) (k:Nat) (u:PropV) (hu:us[k]?=some u) (j:Nat) (hj:j<4):(us.flatMap PropV.cells)[k*4+j]?=some (u.cellAt j):=by
 induction us generalizing k with
 |nil=>simp at hu
 |cons a l ih=>
  rcases k with _|k
  ·simp at hu;subst hu
   rw[List.flatMap_cons,List.getElem?_append_left (by simp[PropV.cells];omega)]
   obtain rfl|rfl|rfl|rfl:j=0∨j=1∨j=2∨j=3:=by omega
   all_goals simp[PropV.cells,PropV.cellAt]
  ·have:=ih k (by simpa using hu)
   rw[List.flatMap_cons,List.getElem?_append_right (by simp[PropV.cells];omega)]
   have e:(k+1)*4+j-(PropV.cells a).length=k*4+j:=by simp[PropV.cells];omega
   rw[e,this]
def fld (i:Int) (l:List PropV):Option PropV:=(l.filter fun x=>x.id==i).getLast?
theorem fld_app (i:Int) (l:List PropV) (x:PropV):fld i (l++[x])=if x.id=i then some x else fld i l:=by
 unfold fld
 rw[List.filter_append]
 by_cases h:x.id=i
 ·simp[h]
 ·simp[h]
def idOf:Nat→Int
 |0=>9|1=>11|2=>22|3=>38|4=>3|5=>8|6=>18|7=>21|8=>26|9=>28|10=>31|11=>2|12=>17|13=>24|14=>39
 |15=>19|16=>33|17=>34|18=>35|19=>1|20=>1|21=>17|22=>19|23=>23|24=>23|25=>25|26=>35|27=>36|28=>36|29=>37|30=>37
 |31=>40|32=>40|33=>41|34=>41|35=>42|_=>42
def valOf (j:Nat) (o:Option PropV):Value:=
 if j≤10 then .string (match o with|none=>⟨#[]⟩|some x=>x.text)
 else if j≤14 then .int .u32 (match o with|none=>0|some x=>(x.n:Int))
 else if j≤18 then .int .u16 (match o with|none=>0|some x=>(x.n:Int))
 else if j=20∨j=21∨j=22∨j=24∨j=26∨j=28∨j=30∨j=32∨j=34∨j=36 then .bool o.isSome
 else .int .u8 (match o with|none=>0|some x=>(x.n:Int))
def cellV (l:List PropV) (j:Nat):Value:=valOf j (fld (idOf j) l)
theorem cellV_app (l:List PropV) (x:PropV) (j:Nat):cellV (l++[x]) j=if x.id=idOf j then valOf j (some x) else cellV l j:=by
 unfold cellV
 rw[fld_app]
 by_cases h:x.id=idOf j<;>simp[h]
def numsOf (l:List PropV):List Nat:=(l.filter fun x=>x.id==11).map (·.n)
def usersOf (l:List PropV):List (ByteArray×ByteArray):=(l.filter fun x=>x.id==38).map fun x=>(x.text,x.other)
theorem numsOf_app (l:List PropV) (x:PropV):numsOf (l++[x])=if x.id=11 then numsOf l++[x.n] else numsOf l:=by
 unfold numsOf
 by_cases h:x.id=11<;>simp[h]
theorem usersOf_app (l:List PropV) (x:PropV):usersOf (l++[x])=if x.id=38 then usersOf l++[(x.text,x.other)] else usersOf l:=by
 unfold usersOf
 by_cases h:x.id=38<;>simp[h]
def PDat (w:World) (o:Option PropV) (v:Option Value) (b:Option Nat):Prop:=
 match o with
 |none=>v=some (.slice none 0 0)∧b=none
 |some x=>∃A c,v=some (.slice A x.text.size c)∧Rd w 1 A x.text.size (bvs x.text.data.toList)∧A.map (·.block)=b
structure PSt (B:Nat) (w:World) (b:Nat→Option Nat) (l:List PropV) (cs:Array Value):Prop where
 sz:cs.size=37
 sc:∀j,4≤j→j<37→cs[j]?=some (cellV l j)
 d0:PDat w (fld 9 l) cs[0]? (b 0)
 d2:PDat w (fld 22 l) cs[2]? (b 2)
 nm:∃A c,cs[1]?=some (.slice A (numsOf l).length c)∧w.ownsRow 0 3 1 (.slice A (numsOf l).length c) (numsOf l).length ((numsOf l).map fun (n:Nat)=>.int .i64 (n:Int))∧A.map (·.block)=b 1
 us:∃A c,cs[3]?=some (.slice A (usersOf l).length c)∧w.ownsRow 0 124 2 (.slice A (usersOf l).length c) (usersOf l).length ((usersOf l).flatMap fun u=>[.string u.1,.string u.2])∧A.map (·.block)=b 3
 sep:∀i j k,i<4→j<4→i≠j→b i=some k→b j≠some k
 lt:∀i k,i<4→b i=some k→B<k∧k<w.heap.size
theorem PDat.keep {w w':World} {o:Option PropV} {v:Option Value} {b:Option Nat} {S:List Nat} (h:PDat w o v b) (k:Keeps S w w') (hn:∀k,b=some k→k∉S):PDat w' o v b:=by
 cases o with
 |none=>exact h
 |some x=>
  obtain⟨A,c,h1,h2,h3⟩:=h
  exact⟨A,c,h1,h2.keep k (fun a ha=>hn a.block (by rw[←h3,ha];rfl)),h3⟩
theorem PSt.keep {B:Nat} {w w':World} {b:Nat→Option Nat} {l:List PropV} {cs:Array Value} (h:PSt B w b l cs) (k:Keeps [B] w w'):PSt B w' b l cs:=by
 have hn:∀i,i<4→∀k,b i=some k→k∉[B]:=fun i hi k hk=>by have:=(h.lt i k hi hk).1;simp;omega
 obtain⟨A1,c1,x1,x2,x3⟩:=h.nm
 obtain⟨A3,c3,y1,y2,y3⟩:=h.us
 exact {h with
  d0:=h.d0.keep k (hn 0 (by omega)),d2:=h.d2.keep k (hn 2 (by omega))
  nm:=⟨A1,c1,x1,ownsRow_keep x2 k (by rw[own_slice,x3];exact hn 1 (by omega)),x3⟩
  us:=⟨A3,c3,y1,ownsRow_keep y2 k (by rw[own_slice,y3];exact hn 3 (by omega)),y3⟩
  lt:=fun i j hi hj=>⟨(h.lt i j hi hj).1,Nat.lt_of_lt_of_le (h.lt i j hi hj).2 k.size⟩}
theorem PSt.scal {B:Nat} {w:World} {b:Nat→Option Nat} {l:List PropV} {cs cs':Array Value} {x:PropV} (h:PSt B w b l cs) (hsz:cs'.size=37) (h4:∀j,j<4→cs'[j]?=cs[j]?)
 (hsc:∀j,4≤j→j<37→cs'[j]?=some (cellV (l++[x]) j)) (h9:x.id≠9) (h22:x.id≠22) (h11:x.id≠11) (h38:x.id≠38):PSt B w b (l++[x]) cs':=by
 refine⟨hsz,hsc,?_,?_,?_,?_,h.sep,h.lt⟩
 ·rw[fld_app,if_neg h9,h4 0 (by omega)];exact h.d0
 ·rw[fld_app,if_neg h22,h4 2 (by omega)];exact h.d2
 ·rw[numsOf_app,if_neg h11,h4 1 (by omega)];exact h.nm
 ·rw[usersOf_app,if_neg h38,h4 3 (by omega)];exact h.us
theorem PSt.one {B:Nat} {w:World} {b:Nat→Option Nat} {l:List PropV} {cs:Array Value} {x:PropV} (h:PSt B w b l cs) (i:Int) (a:Nat) (v:Value) (hx:x.id=i) (ha:4≤a) (ha2:a<37) (hia:idOf a=i)
 (htab:∀j,j<37→j≠a→idOf j≠i) (hv:v=valOf a (some x)):PSt B w b (l++[x]) (cs.setIfInBounds a v):=by
 have hz:=h.sz
 have t0:=htab 0 (by omega) (by omega)
 have t1:=htab 1 (by omega) (by omega)
 have t2:=htab 2 (by omega) (by omega)
 have t3:=htab 3 (by omega) (by omega)
 refine h.scal (by simpa using hz) (fun j hj=>by rw[Array.getElem?_setIfInBounds,if_neg (by omega)]) (fun j h1 h2=>?_) (fun e=>t0 (by rw[←hx,e];rfl)) (fun e=>t2 (by rw[←hx,e];rfl)) (fun e=>t1 (by rw[←hx,e];rfl)) (fun e=>t3 (by rw[←hx,e];rfl))
 rw[Array.getElem?_setIfInBounds,cellV_app]
 by_cases e:a=j
 ·subst e;rw[if_pos rfl,if_pos (by omega),if_pos (by rw[hx,hia]),hv]
 ·rw[if_neg e,if_neg (by rw[hx];exact fun h=>htab j h2 (Ne.symm e) h.symm)];exact h.sc j h1 h2
theorem PSt.two {B:Nat} {w:World} {b:Nat→Option Nat} {l:List PropV} {cs:Array Value} {x:PropV} (h:PSt B w b l cs) (i:Int) (a f:Nat) (v u:Value) (hx:x.id=i) (ha:4≤a) (ha2:a<37) (hf:4≤f) (hf2:f<37) (haf:a≠f) (hia:idOf a=i) (hif:idOf f=i)
 (htab:∀j,j<37→j≠a→j≠f→idOf j≠i) (hv:v=valOf a (some x)) (hu:u=valOf f (some x)):PSt B w b (l++[x]) ((cs.setIfInBounds a v).setIfInBounds f u):=by
 have hz:=h.sz
 have t0:=htab 0 (by omega) (by omega) (by omega)
 have t1:=htab 1 (by omega) (by omega) (by omega)
 have t2:=htab 2 (by omega) (by omega) (by omega)
 have t3:=htab 3 (by omega) (by omega) (by omega)
 refine h.scal (by simpa using hz) (fun j hj=>by rw[Array.getElem?_setIfInBounds,if_neg (by omega),Array.getElem?_setIfInBounds,if_neg (by omega)]) (fun j h1 h2=>?_) (fun e=>t0 (by rw[←hx,e];rfl)) (fun e=>t2 (by rw[←hx,e];rfl)) (fun e=>t1 (by rw[←hx,e];rfl)) (fun e=>t3 (by rw[←hx,e];rfl))
 rw[Array.getElem?_setIfInBounds,cellV_app]
 by_cases e:f=j
 ·subst e;rw[if_pos rfl,if_pos (by simp;omega),if_pos (by rw[hx,hif]),hu]
 ·rw[if_neg e,Array.getElem?_setIfInBounds]
  by_cases e2:a=j
  ·subst e2;rw[if_pos rfl,if_pos (by omega),if_pos (by rw[hx,hia]),hv]
  ·rw[if_neg e2,if_neg (by rw[hx];exact fun h=>htab j h2 (Ne.symm e2) (Ne.symm e) h.symm)];exact h.sc j h1 h2
theorem zD0 {p:Prop} (h:p:=by
 rw[if_neg e1] at h1;have:=h.lt i k' hi h1;have:=k.size;omega
 ):p:=h
theorem zD3 {p:Prop} (h:p:=by
 rw[if_neg e2] at h2;exact h.sep i j k' hi hj hij h1 h2
 ):p:=h
theorem zD4 {p:Prop} (h:p:=by
 rw[usersOf_app,hx,if_neg (by omega),Array.getElem?_setIfInBounds,if_neg (by omega),if_neg (by omega)];exact hk.us
 ):p:=h
theorem zD5 {p:Prop} (h:p:=by
 rw[numsOf_app,hx,if_neg (by omega),Array.getElem?_setIfInBounds,if_neg (by omega),if_neg (by omega)];exact hk.nm
 ):p:=h
theorem zD6 {p:Prop} (h:p:=by
 rw[fld_app,Array.getElem?_setIfInBounds]
 simp only[hx,if_true,if_pos rfl,hz];exact⟨_,c,rfl,hr,rfl⟩
 ):p:=h
theorem zD7 {p:Prop} (h:p:=by
 rw[if_pos e1] at h1;rw[if_neg (by omega)] at h2
 have:=(h.lt j k' hj h2).2;injection h1 with h1;omega
 ):p:=h
theorem PSt.data0 {B:Nat} {w w':World} {b:Nat→Option Nat} {l:List PropV} {cs:Array Value} {x:PropV} (h:PSt B w b l cs) (hx:x.id=9) (hB:B<w.heap.size) (k:Keeps [] w w') (q c:Nat) (hq:w.heap.size≤q) (hq2:q<w'.heap.size)
 (hr:Rd w' 1 (some ⟨q,0,none⟩) x.text.size (bvs x.text.data.toList)):PSt B w' (fun j=>if j=0 then some q else b j) (l++[x]) (cs.setIfInBounds 0 (.slice (some ⟨q,0,none⟩) x.text.size c)):=by
 have hz:=h.sz
 have hk:=h.keep (k.mono (S':=[B]) (by simp))
 refine⟨by simpa using hz,fun j h1 h2=>?_,?_,?_,?_,?_,?_,?_⟩
 ·rw[Array.getElem?_setIfInBounds,if_neg (by omega),cellV_app,if_neg]
  ·exact h.sc j h1 h2
  ·rw[hx]
   have ht:∀j,j<37→4≤j→(9:Int)≠idOf j:=by decide
   exact ht j h2 h1
 ·exact zD6
 ·rw[fld_app,Array.getElem?_setIfInBounds]
  simp only[hx];rw[if_neg (by omega),if_neg (by omega),if_neg (by omega)];exact hk.d2
 ·exact zD5
 ·exact zD4
 ·intro i j k' hi hj hij h1 h2
  by_cases e1:i=0
  ·exact zD7
  ·rw[if_neg e1] at h1
   by_cases e2:j=0
   ·rw[if_pos e2] at h2;have:=(h.lt i k' hi h1).2;injection h2 with h2;omega
   ·exact zD3
 ·intro i k' hi h1
  by_cases e1:i=0
  ·rw[if_pos e1] at h1;injection h1 with h1;omega
  ·exact zD0
theorem PSt.data2 {B:Nat} {w w':World} {b:Nat→Option Nat} {l:List PropV} {cs:Array Value} {x:PropV} (h:PSt B w b l cs) (hx:x.id=22) (hB:B<w.heap.size) (k:Keeps [] w w') (q c:Nat) (hq:w.heap.size≤q) (hq2:q<w'.heap.size)
 (hr:Rd w' 1 (some ⟨q,0,none⟩) x.text.size (bvs x.text.data.toList)):PSt B w' (fun j=>if j=2 then some q else b j) (l++[x]) (cs.setIfInBounds 2 (.slice (some ⟨q,0,none⟩) x.text.size c)):=by
 have hz:=h.sz
 have hk:=h.keep (k.mono (S':=[B]) (by simp))
 refine⟨by simpa using hz,fun j h1 h2=>?_,?_,?_,?_,?_,?_,?_⟩
 ·rw[Array.getElem?_setIfInBounds,if_neg (by omega),cellV_app,if_neg]
  ·exact h.sc j h1 h2
  ·rw[hx]
   have ht:∀j,j<37→4≤j→(22:Int)≠idOf j:=by decide
   exact ht j h2 h1
 ·rw[fld_app,Array.getElem?_setIfInBounds]
  simp only[hx];rw[if_neg (by omega),if_neg (by omega),if_neg (by omega)];exact hk.d0
 ·exact zD6
 ·exact zD5
 ·exact zD4
 ·intro i j k' hi hj hij h1 h2
  by_cases e1:i=2
  ·exact zD7
  ·rw[if_neg e1] at h1
   by_cases e2:j=2
   ·rw[if_pos e2] at h2;have:=(h.lt i k' hi h1).2;injection h2 with h2;omega
   ·exact zD3
 ·intro i k' hi h1
  by_cases e1:i=2
  ·rw[if_pos e1] at h1;injection h1 with h1;omega
  ·exact zD0
theorem zD1 {p:Prop} (h:p:=by
 rw[fld_app,hx,if_neg (by omega),Array.getElem?_setIfInBounds,if_neg (by omega),if_neg (by omega)];exact h.d0.keep k (hn 0 (by omega) (by omega))
 ):p:=h
theorem zD2 {p:Prop} (h:p:=by
 rw[fld_app,hx,if_neg (by omega),Array.getElem?_setIfInBounds,if_neg (by omega),if_neg (by omega)];exact h.d2.keep k (hn 2 (by omega) (by omega))
 ):p:=h
theorem PSt.row1 {B:Nat} {w w':World} {b:Nat→Option Nat} {l:List PropV} {cs:Array Value} {x:PropV} {A:Option Addr} {c:Nat} (h:PSt B w b l cs) (hx:x.id=11) (hB:B<w.heap.size) (k:Keeps (b 1).toList w w')
 (ho:w'.ownsRow 0 3 1 (.slice A ((numsOf l).length+1) c) ((numsOf l).length+1) (((numsOf l).map fun (n:Nat)=>.int .i64 (n:Int))++[.int .i64 (x.n:Int)])) (hd:A.map (·.block)=b 1∨∃q,A.map (·.block)=some q∧w.heap.size≤q):
 PSt B w' (fun j=>if j=1 then A.map (·.block) else b j) (l++[x]) (cs.setIfInBounds 1 (.slice A ((numsOf l).length+1) c)):=by
 have hz:=h.sz
 have hn:∀i,i<4→i≠1→∀q,b i=some q→q∉(b 1).toList:=by
  intro i hi hne q hq hm
  cases e:b 1 with
  |none=>rw[e] at hm;simp at hm
  |some r=>rw[e] at hm;simp at hm;subst hm;exact h.sep 1 i q (by omega) hi (Ne.symm hne) e hq
 refine⟨by simpa using hz,fun j h1 h2=>?_,?_,?_,?_,?_,?_,?_⟩
 ·rw[Array.getElem?_setIfInBounds,if_neg (by omega),cellV_app,if_neg]
  ·exact h.sc j h1 h2
  ·rw[hx]
   have ht:∀j,j<37→4≤j→(11:Int)≠idOf j:=by decide
   exact ht j h2 h1
 ·exact zD1
 ·exact zD2
 ·rw[numsOf_app,hx,if_pos rfl,Array.getElem?_setIfInBounds,if_pos rfl,if_pos (by omega),if_pos rfl]
  refine⟨A,c,by simp,?_,rfl⟩
  simpa using ho
 ·rw[usersOf_app,hx,if_neg (by omega),Array.getElem?_setIfInBounds,if_neg (by omega),if_neg (by omega)]
  obtain⟨A1,c1,x1,x2,x3⟩:=h.us
  exact⟨A1,c1,x1,ownsRow_keep x2 k (by rw[own_slice,x3];exact hn 3 (by omega) (by omega)),x3⟩
 ·intro i j k' hi hj hij h1 h2
  have hf:∀r,r<4→r≠1→b r=some k'→A.map (·.block)≠some k':=by
   intro r hr hne hb he
   rcases hd with h3|⟨q,h3,h4⟩
   ·exact h.sep r 1 k' hr (by omega) hne hb (by rw[←h3,he])
   ·rw[h3] at he;injection he with he;have:=(h.lt r k' hr hb).2;omega
  by_cases e1:i=1
  ·rw[if_pos e1] at h1;rw[if_neg (by omega)] at h2
   exact hf j hj (by omega) h2 h1
  ·rw[if_neg e1] at h1
   by_cases e2:j=1
   ·rw[if_pos e2] at h2;exact hf i hi e1 h1 h2
   ·exact zD3
 ·intro i k' hi h1
  by_cases e1:i=1
  ·rw[if_pos e1] at h1
   refine⟨?_,own_lt ho k' h1⟩
   rcases hd with h3|⟨q,h3,h4⟩
   ·exact(h.lt 1 k' (by omega) (by rw[←h3,h1])).1
   ·rw[h3] at h1;injection h1 with h1;omega
  ·exact zD0
theorem PSt.row3 {B:Nat} {w w':World} {b:Nat→Option Nat} {l:List PropV} {cs:Array Value} {x:PropV} {A:Option Addr} {c:Nat} (h:PSt B w b l cs) (hx:x.id=38) (hB:B<w.heap.size) (k:Keeps (b 3).toList w w')
 (ho:w'.ownsRow 0 124 2 (.slice A ((usersOf l).length+1) c) ((usersOf l).length+1) (((usersOf l).flatMap fun u=>[.string u.1,.string u.2])++[.string x.text,.string x.other])) (hd:A.map (·.block)=b 3∨∃q,A.map (·.block)=some q∧w.heap.size≤q):
 PSt B w' (fun j=>if j=3 then A.map (·.block) else b j) (l++[x]) (cs.setIfInBounds 3 (.slice A ((usersOf l).length+1) c)):=by
 have hz:=h.sz
 have hn:∀i,i<4→i≠3→∀q,b i=some q→q∉(b 3).toList:=by
  intro i hi hne q hq hm
  cases e:b 3 with
  |none=>rw[e] at hm;simp at hm
  |some r=>rw[e] at hm;simp at hm;subst hm;exact h.sep 3 i q (by omega) hi (Ne.symm hne) e hq
 refine⟨by simpa using hz,fun j h1 h2=>?_,?_,?_,?_,?_,?_,?_⟩
 ·rw[Array.getElem?_setIfInBounds,if_neg (by omega),cellV_app,if_neg]
  ·exact h.sc j h1 h2
  ·rw[hx]
   have ht:∀j,j<37→4≤j→(38:Int)≠idOf j:=by decide
   exact ht j h2 h1
 ·exact zD1
 ·exact zD2
 ·rw[numsOf_app,hx,if_neg (by omega),Array.getElem?_setIfInBounds,if_neg (by omega),if_neg (by omega)]
  obtain⟨A1,c1,x1,x2,x3⟩:=h.nm
  exact⟨A1,c1,x1,ownsRow_keep x2 k (by rw[own_slice,x3];exact hn 1 (by omega) (by omega)),x3⟩
 ·rw[usersOf_app,hx,if_pos rfl,Array.getElem?_setIfInBounds,if_pos rfl,if_pos (by omega),if_pos rfl]
  refine⟨A,c,by simp,?_,rfl⟩
  simpa using ho
 ·intro i j k' hi hj hij h1 h2
  have hf:∀r,r<4→r≠3→b r=some k'→A.map (·.block)≠some k':=by
   intro r hr hne hb he
   rcases hd with h3|⟨q,h3,h4⟩
   ·exact h.sep r 3 k' hr (by omega) hne hb (by rw[←h3,he])
   ·rw[h3] at he;injection he with he;have:=(h.lt r k' hr hb).2;omega
  by_cases e1:i=3
  ·rw[if_pos e1] at h1;rw[if_neg (by omega)] at h2
   exact hf j hj (by omega) h2 h1
  ·rw[if_neg e1] at h1
   by_cases e2:j=3
   ·rw[if_pos e2] at h2;exact hf i hi e1 h1 h2
   ·exact zD3
 ·intro i k' hi h1
  by_cases e1:i=3
  ·rw[if_pos e1] at h1
   refine⟨?_,own_lt ho k' h1⟩
   rcases hd with h3|⟨q,h3,h4⟩
   ·exact(h.lt 3 k' (by omega) (by rw[←h3,h1])).1
   ·rw[h3] at h1;injection h1 with h1;omega
  ·exact zD0
theorem numsOf_le (l:List PropV):(numsOf l).length≤l.length:=by unfold numsOf;rw[List.length_map];exact List.length_filter_le _ _
theorem usersOf_le (l:List PropV):(usersOf l).length≤l.length:=by unfold usersOf;rw[List.length_map];exact List.length_filter_le _ _
theorem valOf_one (j:Nat) (o:Option PropV):(valOf j o).oneCell'=true:=by
 unfold valOf
 repeat' split
 all_goals rfl
theorem PDat.one1 {w:World} {o:Option PropV} {v:Value} {b:Option Nat} (h:PDat w o (some v) b):v.oneCell'=true:=by
 cases o with
 |none=>have:=h.1;injection this with this;subst this;rfl
 |some x=>obtain⟨A,c,h1,_⟩:=h;injection h1 with h1;subst h1;rfl
theorem PSt.one1 {B:Nat} {w:World} {b:Nat→Option Nat} {l:List PropV} {cs:Array Value} (h:PSt B w b l cs) (j:Nat) (v:Value) (hv:cs[j]?=some v):v.oneCell'=true:=by
 by_cases h4:4≤j
 ·have hj:j<37:=by rw[←h.sz];exact(Array.getElem?_eq_some_iff.1 hv).1
  have:=h.sc j h4 hj
  rw[hv] at this
  injection this with this
  subst this
  exact valOf_one _ _
 ·obtain rfl|rfl|rfl|rfl:j=0∨j=1∨j=2∨j=3:=by omega
  ·have:=h.d0;rw[hv] at this;exact this.one1
  ·obtain⟨A,c,h1,_⟩:=h.nm;rw[hv] at h1;injection h1 with h1;subst h1;rfl
  ·have:=h.d2;rw[hv] at this;exact this.one1
  ·obtain⟨A,c,h1,_⟩:=h.us;rw[hv] at h1;injection h1 with h1;subst h1;rfl
theorem Blk.set_self {w:World} {g j:Nat} {t:TypeId} {cs:Array Value} {v:Value} (h:Blk w g t cs) (hv:cs[j]?=some v):w.setCell ⟨g,j,none⟩ v=w:=by
 have h2:=h.set_ j v
 have hcs:cs.setIfInBounds j v=cs:=by
  apply Array.ext_getElem?
  intro i
  rw[Array.getElem?_setIfInBounds]
  by_cases e:j=i
  ·subst e
   have:=(Array.getElem?_eq_some_iff.1 hv).1
   rw[if_pos rfl,if_pos this,hv]
  ·rw[if_neg e]
 rw[hcs] at h2
 have hh:(w.setCell ⟨g,j,none⟩ v).heap=w.heap:=by
  apply Array.ext_getElem?
  intro k
  by_cases e:k=g
  ·subst e;exact h2.trans h.symm
  ·exact Below.heap_setCell w ⟨g,j,none⟩ v k e
 have he:w.setCell ⟨g,j,none⟩ v={w with heap:=(w.setCell ⟨g,j,none⟩ v).heap}:=rfl
 rw[he,hh]
theorem Blk.store_self {w:World} {g j:Nat} {t:TypeId} {cs:Array Value} {v:Value} (P:Program) (h:Blk w g t cs) (hv:cs[j]?=some v) (h1:v.oneCell'=true):(store ⟨g,j,none⟩ v).run P w=.ok () w:=by
 rw[run_store P w _ v _ h1,h.cell,hv,h.frozen,h.set_self hv]
 rfl
theorem clone_c (w:World) (A:Option Addr) (c:Nat) (ys:List UInt8) (hr:Rd w 1 A ys.length (bvs ys)) (hn:ys.length≤1099511627776):
 Calls prog 28 #[.slice A ys.length c] w (NewBytes w ys):=by
 obtain⟨i0,hi0,hz0,hz1,hz2⟩:=info_parts info5
 rcases A with _|a
 ·have h0:ys.length=0:=by
   rcases Nat.eq_zero_or_pos ys.length with h|h
   ·exact h
   ·obtain⟨b,o,h1,_⟩:=hr.2 h;cases h1
  have hy:ys=[]:=List.eq_nil_of_length_eq_zero h0
  subst hy
  clear hr hn h0
  have he:∀w:World,(binOp .eql 22 (.slice none ([]:List UInt8).length c) (.slice none 0 0)).run prog w=.ok (.bool true) w:=fun _=>rfl
  simp only[List.length_nil] at he ⊢
  go_enter func28,ntmps28
  go_wp2
  go_ret
  exact⟨none,0,rfl,Rd.none_ _ _,Keeps.refl _ _,by simp⟩
 ·obtain⟨n,hN⟩:∃n,ys.length=n:=⟨_,rfl⟩
  have HN:=hH hN
  rw[hN] at hr hn ⊢
  clear hN
  have ho:(w.alloc (.cells #[] 5)).ownsRow 0 5 1 (.slice (some ⟨w.heap.size,0,none⟩) 0 0) 0 []:=by simpa using own_blk (Blk.new w 5 #[]) 1 0 0 rfl (by omega) (by unfold maxLen;omega)
  have he:∀w:World,(binOp .eql 22 (.slice (some a) n c) (.slice none 0 0)).run prog w=.ok (.bool false) w:=fun _=>rfl
  have hr1:=hr.keep (Keeps.alloc w (.cells #[] 5)) (by simp)
  go_enter func28,ntmps28
  go_wp2_with (at_builtin;refine wpList_append_rd _ rfl (.tmp 5) (.tmp 6) 22 rfl 5 i0 _ 1 1 underlying22 hi0 hz0 hz1 hz2 rfl (by decide) (.slice (some ⟨w.heap.size,0,none⟩) 0 0) 0 _ rfl ho (some a) n c (bvs ys) rfl hr1 (bvs_one _) (by omega) (by unfold maxLen;omega) ?_;intro A1 c1 w2 ho1 hk1 hd1)
  go_ret
  show NewBytes w ys (.returned (.slice A1 n c1)) w2
  rw[Nat.zero_add,List.nil_append] at ho1
  rw[←HN.o] at ho1 ⊢
  refine⟨A1,c1,rfl,own_rd ho1,(Keeps.alloc w _).trans hk1 (by simp[own_slice]),fun a ha=>?_⟩
  have h1:=own_lt ho1 a.block (by rw[ha];rfl)
  subst ha
  refine⟨?_,h1⟩
  rw[own_slice] at hd1
  simp at hd1
  omega
def nvs (l:List Int):List Value:=l.map (.int .i64 ·)
def inside (m:Int) (ns:List Int):Bool:=ns.all fun n=>decide (0≤n∧n≤m)
theorem zD8 {p:Prop} (h:p:=by
 go_wp2_with fail
 go_ret
 exact⟨by have h:=HS.o (by simp;omega);rw[h];rfl,hkw⟩
 ):p:=h
theorem within_c (w:World) (m:Int) (A:Option Addr) (c:Nat) (ns:List Int) (hr:Rd w 1 A ns.length (nvs ns)) (hn:ns.length≤1099511627776):
 Calls prog 29 #[.int .i64 m,.slice A ns.length c] w fun e w'=>e=.returned (.bool (inside m ns))∧Keeps [] w w':=by
 have hcells:Hd (0<ns.length→∃b0 o0,A=some ⟨b0,o0,none⟩∧∀k x,ns[k]?=some x→w.cell? ⟨b0,o0+k,none⟩=some (.int .i64 x)):=by
  intro h0
  obtain⟨b0,o0,rfl,hcl⟩:=hr.2 h0
  exact⟨b0,o0,rfl,fun k x hx=>hcl k _ (by simp[nvs,hx])⟩
 clear hr
 go_enter func29,ntmps29
 go_wp2_with fail
 go_loopg [9] (ns.length+1) (fun gk i wr=>∃k,i=.int .i64 ((k:Nat):Int)∧k≤ns.length∧ns.length<gk+k∧Keeps [] w wr∧(ns.take k).all (fun n=>decide (0≤n∧n≤m))=true)
 case atStart=>exact⟨0,rfl,by omega,by omega,Keeps.refl _ _,rfl⟩
 case round=>
  obtain⟨k,rfl,hk,hgk,hkw,hall⟩:=hrel
  by_cases hlt:k<ns.length
  ·obtain⟨g',rfl⟩:∃g',gk=g'+1:=⟨gk-1,by omega⟩
   have hltz:(k:Int)<(ns.length:Int):=by omega
   obtain⟨b0,o0,rfl,hcl⟩:=hcells.o (by omega)
   obtain⟨x,hx⟩:∃x,ns[k]=x:=⟨_,rfl⟩
   have hcx:=hkw.some_ (hcl k x (by rw[List.getElem?_eq_getElem hlt,hx])) (by simp)
   clear hcl
   have htk:(ns.take (k+1)).all (fun n=>decide (0≤n∧n≤m))=decide (0≤x∧x≤m):=by
    rw[List.take_succ_eq_append_getElem hlt,List.all_append,hall,hx];simp
   have hsplit:decide (0≤x∧x≤m)=false→inside m ns=false:=by
    intro h
    unfold inside
    rw[List.all_eq_false]
    exact⟨x,by rw[←hx];exact List.getElem_mem _,by simpa using h⟩
   have HS:=hH hsplit
   have HT:=hH htk
   clear hsplit htk hall hx
   by_cases hx0:x<0
   ·exact zD8
   ·have hd0:decide (x<0)=false:=decide_eq_false hx0
    by_cases hxm:m<x
    ·exact zD8
    ·go_wp2_with fail
     go_roundg g'
     case measure=>omega
     case rel=>exact⟨k+1,by go_num,by omega,by omega,hkw,by rw[HT.o];simp;omega⟩
  ·go_wp2_with fail
   go_ret
   rw[List.take_of_length_le (by omega)] at hall
   exact⟨by rw[show inside m ns=true from hall];rfl,hkw⟩
structure WillV where
 topic:ByteArray
 payload:List UInt8
 qos:Int
 retain:Bool
 props:List PropV
structure SubP where
 filter:ByteArray
 qos:Int
 nl:Bool
 ap:Bool
 handling:Int
structure PkV where
 kind:Int
 version:Int
 dup:Bool
 retain:Bool
 qos:Int
 id:Int
 topic:ByteArray
 payload:List UInt8
 name:ByteArray
 level:Int
 client:ByteArray
 clean:Bool
 keep:Int
 will:List WillV
 user:List (List UInt8)
 pass:List (List UInt8)
 present:Bool
 code:Int
 codes:List Int
 subs:List SubP
 props:List PropV
def SubP.cells (u:SubP):List Value:=[.string u.filter,.int .i64 u.qos,.bool u.nl,.bool u.ap,.int .i64 u.handling]
def SubP.cellAt (u:SubP):Nat→Value
 |0=>.string u.filter
 |1=>.int .i64 u.qos
 |2=>.bool u.nl
 |3=>.bool u.ap
 |_=>.int .i64 u.handling
theorem flat5_get (us:List SubP) (k:Nat) (u:SubP) (hu:us[k]?=some u) (j:Nat) (hj:j<5):(us.flatMap SubP.cells)[k*5+j]?=some (u.cellAt j):=by
 induction us generalizing k with
 |nil=>simp at hu
 |cons a l ih=>
  rcases k with _|k
  ·simp at hu;subst hu
   rw[List.flatMap_cons,List.getElem?_append_left (by simp[SubP.cells];omega)]
   obtain rfl|rfl|rfl|rfl|rfl:j=0∨j=1∨j=2∨j=3∨j=4:=by omega
   all_goals simp[SubP.cells,SubP.cellAt]
  ·have:=ih k (by simpa using hu)
   rw[List.flatMap_cons,List.getElem?_append_right (by simp[SubP.cells];omega)]
   have e:(k+1)*5+j-(SubP.cells a).length=k*5+j:=by simp[SubP.cells];omega
   rw[e,this]
def SlAt (N:Nat→Prop) (w:World) (v:Value) (size n:Nat) (xs:List Value):Prop:=
 ∃A c,v=.slice A n c∧Rd w size A n xs∧n≤c∧∀a,A=some a→0<n→a.block<w.heap.size∧N a.block
def BytesAt (N:Nat→Prop) (w:World) (v:Value) (ys:List UInt8):Prop:=SlAt N w v 1 ys.length (bvs ys)
def PropsAt (N:Nat→Prop) (w:World) (v:Value) (l:List PropV):Prop:=SlAt N w v 4 l.length (l.flatMap PropV.cells)
def NumsAt (N:Nat→Prop) (w:World) (v:Value) (l:List Int):Prop:=SlAt N w v 1 l.length (nvs l)
def SubsAt (N:Nat→Prop) (w:World) (v:Value) (l:List SubP):Prop:=SlAt N w v 5 l.length (l.flatMap SubP.cells)
def BytessAt (N:Nat→Prop) (w:World) (v:Value) (l:List (List UInt8)):Prop:=
 ∃xs,SlAt N w v 1 l.length xs∧∀(i:Nat) ys,l[i]?=some ys→∃u,xs[i]?=some u∧BytesAt N w u ys
def WillAt (N:Nat→Prop) (w:World) (f:Nat→Option Value) (u:WillV):Prop:=
 f 0=some (.string u.topic)∧(∃v,f 1=some v∧BytesAt N w v u.payload)∧f 2=some (.int .i64 u.qos)∧f 3=some (.bool u.retain)∧∃v,f 4=some v∧PropsAt N w v u.props
def WillsAt (N:Nat→Prop) (w:World) (v:Value) (l:List WillV):Prop:=
 ∃xs,SlAt N w v 5 l.length xs∧∀(i:Nat) u,l[i]?=some u→WillAt N w (fun j=>xs[i*5+j]?) u
def PkV.cells (p:PkV) (v:Nat→Value):Array Value:=
 #[.int .i64 p.kind,.int .i64 p.version,.bool p.dup,.bool p.retain,.int .i64 p.qos,.int .i64 p.id,.string p.topic,v 7,.string p.name,.int .i64 p.level,
  .string p.client,.bool p.clean,.int .i64 p.keep,v 13,v 14,v 15,.bool p.present,.int .i64 p.code,v 18,v 19,v 20]
def PkV.sells (p:PkV) (v:Nat→Value):Array Value:=
 #[.int .i64 p.kind,.int .i64 p.version,.bool p.dup,.bool p.retain,.int .i64 p.qos,.int .i64 p.id,.string p.topic,v 7,
  .string p.client,.bool p.clean,.int .i64 p.keep,v 13,v 14,v 15,.bool p.present,.int .i64 p.code,v 18,v 19,v 20]
structure PkMem (N:Nat→Prop) (w:World) (p:PkV) (v:Nat→Value):Prop where
 m7:BytesAt N w (v 7) p.payload
 m13:WillsAt N w (v 13) p.will
 m14:BytessAt N w (v 14) p.user
 m15:BytessAt N w (v 15) p.pass
 m18:NumsAt N w (v 18) p.codes
 m19:SubsAt N w (v 19) p.subs
 m20:PropsAt N w (v 20) p.props
def AllB:Nat→Prop:=fun _=>True
section
variable {N N':Nat→Prop} {w w':World} {v:Value} {size n:Nat} {xs:List Value} {S:List Nat}
theorem Rd.keep0 {A:Option Addr} (h:Rd w size A n xs) (k:Keeps S w w') (hS:∀a,A=some a→0<n→a.block∉S):Rd w' size A n xs:=by
 rcases Nat.eq_zero_or_pos n with h0|h0
 ·exact⟨h.1,fun hp=>by omega⟩
 ·exact h.keep k (fun a ha=>hS a ha h0)
theorem SlAt.keep (h:SlAt N w v size n xs) (k:Keeps S w w') (hS:∀x∈S,N x→w.heap.size≤x):SlAt N w' v size n xs:=by
 obtain⟨A,c,h1,h2,h3,h4⟩:=h
 refine⟨A,c,h1,h2.keep0 k ?_,h3,fun a ha h0=>⟨Nat.lt_of_lt_of_le (h4 a ha h0).1 k.size,(h4 a ha h0).2⟩⟩
 intro a ha h0 hm
 have h5:=h4 a ha h0
 have:=hS _ hm h5.2
 omega
theorem SlAt.mono (h:SlAt N w v size n xs) (hN:∀b,b<w.heap.size→N b→N' b):SlAt N' w v size n xs:=by
 obtain⟨A,c,h1,h2,h3,h4⟩:=h
 exact⟨A,c,h1,h2,h3,fun a ha h0=>⟨(h4 a ha h0).1,hN _ (h4 a ha h0).1 (h4 a ha h0).2⟩⟩
theorem BytesAt.keep {ys:List UInt8} (h:BytesAt N w v ys) (k:Keeps S w w') (hS:∀x∈S,N x→w.heap.size≤x):BytesAt N w' v ys:=SlAt.keep h k hS
theorem PropsAt.keep {l:List PropV} (h:PropsAt N w v l) (k:Keeps S w w') (hS:∀x∈S,N x→w.heap.size≤x):PropsAt N w' v l:=SlAt.keep h k hS
theorem BytessAt.keep {l:List (List UInt8)} (h:BytessAt N w v l) (k:Keeps S w w') (hS:∀x∈S,N x→w.heap.size≤x):BytessAt N w' v l:=by
 obtain⟨xs,h1,h2⟩:=h
 exact⟨xs,h1.keep k hS,fun i ys hi=>by obtain⟨u,h3,h4⟩:=h2 i ys hi;exact⟨u,h3,h4.keep k hS⟩⟩
theorem WillAt.keep {f:Nat→Option Value} {u:WillV} (h:WillAt N w f u) (k:Keeps S w w') (hS:∀x∈S,N x→w.heap.size≤x):WillAt N w' f u:=by
 obtain⟨h0,⟨v1,h1,h1'⟩,h2,h3,v4,h4,h4'⟩:=h
 exact⟨h0,⟨v1,h1,h1'.keep k hS⟩,h2,h3,v4,h4,h4'.keep k hS⟩
theorem WillsAt.keep {l:List WillV} (h:WillsAt N w v l) (k:Keeps S w w') (hS:∀x∈S,N x→w.heap.size≤x):WillsAt N w' v l:=by
 obtain⟨xs,h1,h2⟩:=h
 exact⟨xs,h1.keep k hS,fun i u hi=>(h2 i u hi).keep k hS⟩
theorem BytesAt.mono {ys:List UInt8} (h:BytesAt N w v ys) (hN:∀b,b<w.heap.size→N b→N' b):BytesAt N' w v ys:=SlAt.mono h hN
theorem PropsAt.mono {l:List PropV} (h:PropsAt N w v l) (hN:∀b,b<w.heap.size→N b→N' b):PropsAt N' w v l:=SlAt.mono h hN
theorem WillAt.mono {f:Nat→Option Value} {u:WillV} (h:WillAt N w f u) (hN:∀b,b<w.heap.size→N b→N' b):WillAt N' w f u:=by
 obtain⟨h0,⟨v1,h1,h1'⟩,h2,h3,v4,h4,h4'⟩:=h
 exact⟨h0,⟨v1,h1,h1'.mono hN⟩,h2,h3,v4,h4,h4'.mono hN⟩
theorem PkMem.keep {p:PkV} {v:Nat→Value} (h:PkMem N w p v) (k:Keeps S w w') (hS:∀x∈S,N x→w.heap.size≤x):PkMem N w' p v:=
 ⟨h.m7.keep k hS,h.m13.keep k hS,h.m14.keep k hS,h.m15.keep k hS,SlAt.keep h.m18 k hS,SlAt.keep h.m19 k hS,h.m20.keep k hS⟩
theorem SlAt.none_ (N:Nat→Prop) (w:World) (size:Nat):SlAt N w (.slice none 0 0) size 0 []:=⟨none,0,rfl,Rd.none_ _ _,Nat.le_refl _,by simp⟩
end
theorem catch_idle (p:Addr) (w:World):
 CallsD prog 44 #[.pointer (some p)] .returning w fun e u' w'=>e=.returned (.tuple #[])∧u'=.returning∧w'=w:=by
 refine callsD_of_wpS func44 rfl fun c₀ cs hu=>?_
 apply wpS_seq
 apply wpS_region
 simp[wpOpsS,go_sem,recoverD,hu,ntmps44,Exit.thenS]
 refine wpS_cond (t:=false) (by simp[Act.eval,Array.replicate]) ?_
 simp only[Bool.false_eq_true,if_false]
 refine wpS_of_wp (wp_skip ?_)
 cases c₀
 simp_all [bodyPostS,results,Tryz.results44]
def TryOut (w:World) (b:Bool) (S:List Nat) (P:World→Prop) (e:Ending) (w':World):Prop:=
 e=.returned (.bool b)∧∃w2,P w2∧Keeps S (w.alloc (.cells #[.bool false] 4)) w2∧w'=w2.setCell ⟨w.heap.size,0,none⟩ (.bool b)
theorem try_c (w:World) (f:FuncId) (cap:Array Value) (b:Bool) (S:List Nat) (P:World→Prop) (hS:w.heap.size∉S) (hfe:∀w:World,(callFunc f cap).run prog w=.ok (.enter f cap) w)
 (h:Calls prog f cap (w.alloc (.cells #[.bool false] 4)) fun e w'=>e=.returned (.bool b)∧P w'∧Keeps S (w.alloc (.cells #[.bool false] 4)) w'):
 Calls prog 25 #[.func (.func f) #[] cap] w (TryOut w b S P):=by
 have H:=hH h
 clear h
 have hmf:∀(fn:Fn) (first cap:Array Value) (w:World),(Instr.makeFunc fn first cap).run prog w=.ok (.func fn first cap) w:=fun _ _ _ _=>rfl
 go_enter_defers func25,ntmps25
 go_wp2_with fail
 go_fit (H.o)
 rintro e w2 ⟨rfl,hP,hk⟩
 have hb:=(Blk.new w 4 #[.bool false]).keep hk hS
 have c0:w2.cell? ⟨w.heap.size,0,none⟩=some (.bool false):=by rw[hb.cell];rfl
 have f0:w2.frozen? ⟨w.heap.size,0,none⟩=false:=hb.frozen 0
 have HP:=hH hP
 have HK:=hH hk
 clear hP hk hb
 go_wp2_with fail
 refine leaves_cons (f:=44) (args:=#[.pointer (some ⟨w.heap.size,0,none⟩)]) (by simp) (by simp[go_sem]) ?_
 refine(catch_idle ⟨w.heap.size,0,none⟩ _).mono ?_
 rintro e u' w'' ⟨rfl,rfl,rfl⟩
 have hbb:((w2.setCell ⟨w.heap.size,0,none⟩ (.bool b))).cell? ⟨w.heap.size,0,none⟩=some (.bool b):=by go_simp
 simp[Leaves,settle,results,Tryz.results25,go_sem,hbb]
 exact⟨rfl,w2,HP.o,HK.o,rfl⟩
theorem blk_setCells {w:World} {g:Nat} {t:TypeId} (vs:List Value):∀(w:World) (o:Nat) (cs:Array Value),Blk w g t cs→o+vs.length≤cs.size→
 ∃cs',Blk (w.setCells g o vs) g t cs'∧cs'.size=cs.size∧Keeps [g] w (w.setCells g o vs)∧(∀j,j<o∨o+vs.length≤j→cs'[j]?=cs[j]?)∧∀j,j<vs.length→cs'[o+j]?=vs[j]?:=by
 induction vs with
 |nil=>exact fun w o cs h _=>⟨cs,h,rfl,Keeps.refl _ _,fun _ _=>rfl,fun j hj=>by simp at hj⟩
 |cons v r ih=>
  intro w o cs h hz
  simp only[List.length_cons] at hz
  obtain⟨cs',h1,h2,h3,h4,h5⟩:=ih (w.setCell ⟨g,o,none⟩ v) (o+1) (cs.setIfInBounds o v) (h.set_ o v) (by simp;omega)
  refine⟨cs',h1,by simpa using h2,(Keeps.setCell w ⟨g,o,none⟩ v).trans h3 (by simp),fun j hj=>?_,fun j hj=>?_⟩
  ·simp only[List.length_cons] at hj
   rw[h4 j (by omega),Array.getElem?_setIfInBounds,if_neg (by omega)]
  ·rcases j with _|j
   ·rw[h4 _ (by omega),Array.getElem?_setIfInBounds]
    simp;omega
   ·simp only[List.length_cons] at hj
    have:=h5 j (by omega)
    rw[show o+(j+1)=o+1+j by omega,this];rfl
theorem there_of {w:World} {g:Nat} {t:TypeId} {cs:Array Value} (h:Blk w g t cs) (o n:Nat) (hz:o+n≤cs.size):w.there g o n:=fun j hj=>
 ⟨by rw[h.cell,Array.getElem?_eq_getElem (by omega)];rfl,h.frozen _⟩
def pickO:List Bool→List Oper→Option Oper
 |false::_,o::_=>some o
 |true::r,_::os=>pickO r os
 |_,_=>none
def setN:List Bool→List Bool
 |false::r=>true::r
 |true::r=>true::setN r
 |[]=>[]
def idxN:List Bool→Nat
 |true::r=>idxN r+1
 |_=>0
theorem pickO_at:∀(l:List Bool) (os:List Oper) (o:Oper),pickO l os=some o→os[idxN l]?=some o∧l.set (idxN l) true=setN l
 |[],_,_,h=>by cases h
 |false::r,[],_,h=>by cases h
 |false::r,o::os,_,h=>⟨h,rfl⟩
 |true::r,[],_,h=>by cases h
 |true::r,o::os,o',h=>by
  have h2:=pickO_at r os o' h
  exact⟨h2.1,by show true::(r.set (idxN r) true)=_;rw[h2.2];rfl⟩
def okT (md:Region.Mode) (os:List Oper) (l:List Bool):Bool:=Region.noSelect os.toArray&&Region.free md os.toArray l.toArray (idxN l)&&(Region.ready md os.toArray l.toArray).contains (idxN l)
section
variable {P:Program} {os:List Oper} {Q:Exit→Act→World→Prop} {S:World→Prop} {md:Region.Mode} {l:List Bool} {fuel:Nat} {a:Act} {w:World} {op:Op} {ty:TypeId} {pos:String} {af:Array Edge} {g:Option (Nat×Bool)} {v:Value}
theorem tkW {d:Tmp} (hp:pickO l os=some ⟨some d,op,ty,pos,af,g⟩) (hc:okT md os l=true) (hQ:∀c a w,Q (.panic c) (a.put (some d) v) w→Q (.panic c) a w) (hw:Region.wanted ⟨some d,op,ty,pos,af,g⟩ (yielded os.toArray a.tmps)=true)
 (hv:∀w,S w→(execOp a.eval ⟨some d,op,ty,pos,af,g⟩).run P w=.ok (.value v) w) (hS:S w) (h:wpAnyH P md os.toArray Q S fuel (setN l).toArray (a.put (some d) v) w):wpAnyH P md os.toArray Q S (fuel+1) l.toArray a w:=by
 obtain⟨h1,h2⟩:=pickO_at _ _ _ hp
 unfold okT at hc
 simp only[Bool.and_eq_true] at hc
 refine wpAnyH_take (i:=idxN l) (oi:=⟨some d,op,ty,pos,af,g⟩) (v:=v) (by simpa using h1) hc.1.1 hc.1.2 hc.2 hQ (.inl ⟨hw,hv⟩) hS ?_
 rw[List.setIfInBounds_toArray,h2];exact h
theorem tkU {d:Option Tmp} (hp:pickO l os=some ⟨d,op,ty,pos,af,g⟩) (hc:okT md os l=true) (hQ:∀c a w,Q (.panic c) (a.put d undef) w→Q (.panic c) a w) (hw:Region.wanted ⟨d,op,ty,pos,af,g⟩ (yielded os.toArray a.tmps)=false)
 (hS:S w) (h:wpAnyH P md os.toArray Q S fuel (setN l).toArray (a.put d undef) w):wpAnyH P md os.toArray Q S (fuel+1) l.toArray a w:=by
 obtain⟨h1,h2⟩:=pickO_at _ _ _ hp
 unfold okT at hc
 simp only[Bool.and_eq_true] at hc
 refine wpAnyH_take (i:=idxN l) (oi:=⟨d,op,ty,pos,af,g⟩) (v:=undef) (by simpa using h1) hc.1.1 hc.1.2 hc.2 hQ (.inr ⟨hw,rfl⟩) hS ?_
 rw[List.setIfInBounds_toArray,h2];exact h
theorem tkC {d:Option Tmp} (hp:pickO l os=some ⟨d,op,ty,pos,af,g⟩) (hr:Region.ready md os.toArray l.toArray=[idxN l]) (hw:Region.wanted ⟨d,op,ty,pos,af,g⟩ (yielded os.toArray a.tmps)=true)
 (h:∀K':Act→World→Prop,Shut (∀a w,S w→(S w→wpAnyH P md os.toArray Q S fuel (setN l).toArray a w)→K' a w)→Oper.wp P ⟨d,op,ty,pos,af,g⟩ a w K' Q):wpAnyH P md os.toArray Q S (fuel+1) l.toArray a w:=by
 obtain⟨h1,h2⟩:=pickO_at _ _ _ hp
 refine wpAnyH_ready hr (by simp) (AllReadyH.cons (o:=⟨d,op,ty,pos,af,g⟩) (by simpa using h1) (fun K hK=>?_) AllReadyH.nil)
 rw[if_pos hw]
 refine h K ?_
 rw[List.setIfInBounds_toArray,h2] at hK
 exact hK
theorem tkx {d:Tmp} (h:wpAnyH P md os.toArray Q S fuel (setN l).toArray (a.put (some d) v) w) (hp:pickO l os=some ⟨some d,op,ty,pos,af,g⟩:=by rfl) (hc:okT md os l=true:=by kernel_rfl)
 (hQ:∀c a w,Q (.panic c) (a.put (some d) v) w→Q (.panic c) a w:=by exact fun _ _ _ h=>h) (hw:Region.wanted ⟨some d,op,ty,pos,af,g⟩ (yielded os.toArray a.tmps)=true:=by rfl) (hv:∀w,S w→(execOp a.eval ⟨some d,op,ty,pos,af,g⟩).run P w=.ok (.value v) w:=by intro w hSw;(try dsimp only at hSw);go_simp;all_goals with_reducible rfl) (hS:S w:=by assumption):wpAnyH P md os.toArray Q S (fuel+1) l.toArray a w:=tkW hp hc hQ hw hv hS h
theorem tku {d:Option Tmp} (h:wpAnyH P md os.toArray Q S fuel (setN l).toArray (a.put d undef) w) (hp:pickO l os=some ⟨d,op,ty,pos,af,g⟩:=by rfl) (hc:okT md os l=true:=by kernel_rfl) (hQ:∀c a w,Q (.panic c) (a.put d undef) w→Q (.panic c) a w:=by exact fun _ _ _ h=>h)
 (hw:Region.wanted ⟨d,op,ty,pos,af,g⟩ (yielded os.toArray a.tmps)=false:=by rfl) (hS:S w:=by assumption):wpAnyH P md os.toArray Q S (fuel+1) l.toArray a w:=tkU hp hc hQ hw hS h
theorem s1 {α:Type} (l:List α) (i:Nat) (a:α):l.toArray.setIfInBounds i a=(l.set i a).toArray:=List.setIfInBounds_toArray l i a
theorem s2 {α:Type} (a:α) (l:List α) (b:α):(a::l).set 0 b=b::l:=rfl
theorem s3 {α:Type} (a:α) (l:List α) (n:Nat) (b:α):(a::l).set (n+1) b=a::l.set n b:=rfl
theorem s4 {α:Type} (a:α) (l:List α):(a::l).length=l.length+1:=rfl
theorem s5 {α:Type}:([]:List α).length=0:=rfl
theorem s6 {α:Type} (n:Nat) (a:α):List.replicate (n+1) a=a::List.replicate n a:=rfl
theorem s7 {α:Type} (a:α):List.replicate 0 a=[]:=rfl
theorem tki (i:Nat) (d:Tmp) (h:wpAnyH P md os.toArray Q S fuel (l.toArray.setIfInBounds i true) (a.put (some d) v) w) (hp:os.toArray[i]?=some ⟨some d,op,ty,pos,af,g⟩:=by rfl) (h1:Region.noSelect os.toArray=true:=by kernel_rfl) (h2:Region.free md os.toArray l.toArray i=true:=by kernel_rfl) (h3:(Region.ready md os.toArray l.toArray).contains i=true:=by kernel_rfl)
 (hQ:∀c a w,Q (.panic c) (a.put (some d) v) w→Q (.panic c) a w:=by exact fun _ _ _ h=>h) (hw:Region.wanted ⟨some d,op,ty,pos,af,g⟩ (yielded os.toArray a.tmps)=true:=by rfl) (hv:∀w,S w→(execOp a.eval ⟨some d,op,ty,pos,af,g⟩).run P w=.ok (.value v) w:=by intro w hSw;(try dsimp only at hSw);go_simp;try with_reducible rfl) (hS:S w:=by assumption):wpAnyH P md os.toArray Q S (fuel+1) l.toArray a w:=
 wpAnyH_take (i:=i) (oi:=⟨some d,op,ty,pos,af,g⟩) (v:=v) hp h1 h2 h3 hQ (.inl ⟨hw,hv⟩) hS h
theorem tkc {d:Option Tmp} (h:∀K':Act→World→Prop,Shut (∀a w,S w→(S w→wpAnyH P md os.toArray Q S fuel (setN l).toArray a w)→K' a w)→Oper.wp P ⟨d,op,ty,pos,af,g⟩ a w K' Q) (hp:pickO l os=some ⟨d,op,ty,pos,af,g⟩:=by rfl) (hr:Region.ready md os.toArray l.toArray=[idxN l]:=by kernel_rfl)
 (hw:Region.wanted ⟨d,op,ty,pos,af,g⟩ (yielded os.toArray a.tmps)=true:=by rfl):wpAnyH P md os.toArray Q S (fuel+1) l.toArray a w:=tkC hp hr hw h
theorem tkStart {id:Nat} (hm:P.follows .mixedOrders=true) (hS:S w.drew) (h:S w.drew→wpAnyH P .any os.toArray Q S os.length (List.replicate os.length false).toArray a w.drew):(Code.region id os.toArray true).wp P Q a w:=
 wp_region_held_drew hm hS (by simpa using h)
theorem tkSt {id:Nat} {kp:World→Prop} (hS:∀w',kp w'→S w') (hk:kp w.drew) (hm:P.follows .mixedOrders=true) (h:S w.drew→wpAnyH P .any os.toArray Q S os.length (List.replicate os.length false).toArray a w.drew):(Code.region id os.toArray true).wp P Q a w:=tkStart hm (hS _ hk) h
theorem tkDone (hr:Region.ready md os.toArray l.toArray=[]) (h:Q .normal a w):wpAnyH P md os.toArray Q S fuel l.toArray a w:=wpAnyH_done hr h _
theorem wp_one {gg off:Nat} {t:TypeId} {cs:Array Value} {K:Act→World→Prop} {o:Oper} (hB:Blk w gg t cs) (hz:off+1≤cs.size) (tv:TypeId) (x y:Operand) (hop:o.op=.store tv x y)
 (hx:a.eval x=.pointer (some ⟨gg,off,none⟩)) (hy:a.eval y=v) (hi:(P.info? tv).map (·.size)=some 1) (h1:v.oneCell'=true) (h:K (a.put o.dst undef) (w.setCell ⟨gg,off,none⟩ v)):o.wp P a w K Q:=by
 have ht:=there_of hB off 1 hz
 have hc:v.cells=#[v]:=by cases v<;>first|rfl|cases h1
 have hrun:(storeVar tv ⟨gg,off,none⟩ v).run P w=.ok () (w.setCells gg off [v]):=by
  have:=run_storeCells_cells (P:=P) gg off [v] 0 w (fun j hj=>by simpa using (ht j (by simpa using hj)).1) (fun j hj=>by simpa using (ht j (by simpa using hj)).2) (fun x hx=>by simp at hx;subst hx;exact h1)
  cases hq:P.info? tv with
  |none=>simp[hq] at hi
  |some i=>
   have hs:i.size=1:=by simpa [hq] using hi
   simp only[Nat.add_zero] at this
   simp[storeVar,sizeOf,typeInfo,hq,hc,hs,this]
 unfold Oper.wp execOp
 simp only[hop,hx,hy,Instr.storeAt,Instr.sureAddr,Sem.run_bind,Sem.run_pure,Result.andThen_ok,hrun]
 exact h
end
end Go.Proofs.YtkglmacaecmhdaaGreatDoor
