/- FnRoad, part U: the walks of E0, E1. -/
import Derived.Test.YtkglmacaecmhdaaGreatDoorI
set_option linter.unusedVariables false
set_option linter.unusedSimpArgs false
set_option maxHeartbeats 8000000
set_option maxRecDepth 100000
namespace Go.Proofs.YtkglmacaecmhdaaGreatDoor
open Go Go.RowKit Tryz
def arr (f:Nat→Value):Array Value:=((List.range 108).map f).toArray
theorem arr_size (f:Nat→Value):(arr f).size=108:=by simp[arr]
theorem arr_get (f:Nat→Value) (j:Nat) (h:j<108):(arr f)[j]?=some (f j):=by
 simp[arr,List.getElem?_range h]
theorem arr_far (f:Nat→Value) (j:Nat) (h:108≤j):(arr f)[j]?=none:=by
 rw[Array.getElem?_eq_none];simp[arr];omega
theorem arr_ext {cs:Array Value} {f:Nat→Value} (hz:cs.size=108) (h:∀j,j<108→cs[j]?=some (f j)):cs=arr f:=by
 apply Array.ext_getElem?
 intro j
 rcases Nat.lt_or_ge j 108 with hj|hj
 ·rw[h j hj,arr_get f j hj]
 ·rw[arr_far f j hj,Array.getElem?_eq_none (by omega)]
theorem arr_of (cs:Array Value) (hz:cs.size=108):∃f,cs=arr f∧∀j,j<108→cs[j]?=some (f j):=
 ⟨fun j=>cs.getD j undef,arr_ext hz (fun j hj=>by simp[Array.getD,hz,hj]),fun j hj=>by simp[Array.getD,hz,hj]⟩
def upd (f:Nat→Value) (i:Nat) (v:Value):Nat→Value:=fun j=>if j=i then v else f j
theorem arr_set (f:Nat→Value) (i:Nat) (v:Value):(arr f).setIfInBounds i v=arr (upd f i v):=by
 refine arr_ext (by simp[arr_size]) (fun j hj=>?_)
 rw[Array.getElem?_setIfInBounds]
 unfold upd
 by_cases e:i=j
 ·subst e;rw[if_pos rfl,if_pos (by rw[arr_size];exact hj),if_pos rfl]
 ·rw[if_neg e,if_neg (Ne.symm e),arr_get f j hj]
noncomputable def z86:Nat→Value:=fun j=>Tryz.zeroCells86.getD j undef
noncomputable def dz (t q:Int) (dup ret:Bool) (ver:Int) (rem:Nat):Nat→Value:=
 upd (upd (upd (upd (upd (upd z86 103 (.int .u8 ver)) 93 (.int .u8 t)) 94 (.int .u8 q)) 95 (.bool dup)) 96 (.bool ret)) 92 (.int .i64 (rem:Int))
theorem dz_one (t q:Int) (dup ret:Bool) (ver:Int) (rem:Nat):∀j,j<108→(dz t q dup ret ver rem j).oneCell'=true:=by
 have h:((List.range 108).all fun j=>(z86 j).oneCell')=true:=by kernel_rfl
 intro j hj
 have h1:=List.all_eq_true.1 h j (by simpa using hj)
 simp only[dz,upd]
 repeat' split
 all_goals first|rfl|exact h1
theorem dz_zero (t q:Int) (dup ret:Bool) (ver:Int) (rem:Nat):(∀j,j<37→(arr (dz t q dup ret ver rem))[50+j]?=zero37[j]?)∧∀j,j<37→(arr (dz t q dup ret ver rem))[0+j]?=zero37[j]?:=by
 have h:∀j,j<37→dz t q dup ret ver rem (50+j)=z86 (50+j)∧dz t q dup ret ver rem (0+j)=z86 (0+j):=fun j hj=>by
  constructor<;>(simp only[dz,upd];rw[if_neg (by omega),if_neg (by omega),if_neg (by omega),if_neg (by omega),if_neg (by omega),if_neg (by omega)])
 have h2:∀j,j<37→some (z86 (50+j))=zero37[j]?∧some (z86 (0+j))=zero37[j]?:=by
  intro j hj
  obtain rfl|rfl|rfl|rfl|rfl|rfl|rfl|rfl|rfl|rfl|rfl|rfl|rfl|rfl|rfl|rfl|rfl|rfl|rfl|rfl|rfl|rfl|rfl|rfl|rfl|rfl|rfl|rfl|rfl|rfl|rfl|rfl|rfl|rfl|rfl|rfl|rfl:j=0∨j=1∨j=2∨j=3∨j=4∨j=5∨j=6∨j=7∨j=8∨j=9∨j=10∨j=11∨j=12∨j=13∨j=14∨j=15∨j=16∨j=17∨j=18∨j=19∨j=20∨j=21∨j=22∨j=23∨j=24∨j=25∨j=26∨j=27∨j=28∨j=29∨j=30∨j=31∨j=32∨j=33∨j=34∨j=35∨j=36:=by omega
  all_goals exact⟨rfl,rfl⟩
 exact⟨fun j hj=>by rw[arr_get _ _ (by omega),(h j hj).1];exact(h2 j hj).1,fun j hj=>by rw[arr_get _ _ (by omega),(h j hj).2];exact(h2 j hj).2⟩
theorem zU10 {p:Prop} (h:p:=by
 rw[arr_get _ _ (by omega)] at h1
 rw[←h1];congr 1
 simp only[dz,upd]
 repeat rw[if_neg (by omega)]
 ):p:=h
theorem pz {f:Nat→Value} {o:Nat} (ho:o=50∨o=0) (h:∀j,o≤j→j<o+37→f j=z86 j):∀j,j<37→(arr f)[o+j]?=zero37[j]?:=fun j hj=>by
 have hd:=dz_zero 0 0 false false 0 0
 rw[arr_get _ _ (by omega),h _ (by omega) (by omega)]
 rcases ho with rfl|rfl
 ·have h1:=hd.1 j hj
  exact zU10
 ·have h1:=hd.2 j hj
  exact zU10
theorem RSt.congr {B xb:Nat} {w:World} {o:Nat} {l:List PropV} {cs cs':Array Value} (h:RSt B xb w o l cs) (he:∀j,j<37→cs'[o+j]?=cs[o+j]?):RSt B xb w o l cs':=by
 have h0:=he 0 (by omega)
 rw[Nat.add_zero] at h0
 obtain⟨A1,c1,x1,x2⟩:=h.nm
 obtain⟨A3,c3,y1,y2⟩:=h.us
 exact⟨fun j h4 hj=>by rw[he j hj];exact h.sc j h4 hj,by rw[h0];exact h.d0,by rw[he 2 (by omega)];exact h.d2,⟨A1,c1,by rw[he 1 (by omega)];exact x1,x2⟩,⟨A3,c3,by rw[he 3 (by omega)];exact y1,y2⟩⟩
theorem RSt.upd {B xb:Nat} {w:World} {o i:Nat} {v:Value} {l:List PropV} {f:Nat→Value} (h:RSt B xb w o l (arr f)) (ho:o+37≤108) (hi:i<o∨o+37≤i):RSt B xb w o l (arr (upd f i v)):=
 h.congr fun j hj=>by
  rw[arr_get _ _ (by omega),arr_get _ _ (by omega)]
  unfold YtkglmacaecmhdaaGreatDoor.upd
  rw[if_neg (by omega)]
structure DSt (w0:World) (g xb o c n:Nat) (xs:List UInt8) (f:Nat→Value) (w:World):Prop where
 blk:Blk w g 86 (arr f)
 rb:RB w xb o xs
 tabs:Lib.Utf8Tabs 28 29 w
 keeps:Keeps [g] w0 w
 ne:xb≠g
 lo:29<g
 hx:xb<w0.heap.size
 hg:g<w0.heap.size
 hn:xs.length=n
 cap:n≤c
 len:n≤100000000
 one:∀j,j<108→(f j).oneCell'=true
theorem pos_step {xs a b:List UInt8} {k n:Nat} (m:Nat) (h:xs.drop k=a++b) (hm:a.length=m) (h0:0<m) (hn:xs.length=n):∃k',k+m=k'∧xs.drop k'=b∧k'≤n:=
 ⟨k+m,rfl,drop_more h m hm,by have:=drop_le h (by omega);omega⟩
section
variable {w0 w w':World} {g xb o c n:Nat} {xs:List UInt8} {f:Nat→Value}
theorem DSt.cell (D:DSt w0 g xb o c n xs f w) (j:Nat) (hj:j<108:=by omega):w.cell? ⟨g,j,none⟩=some (f j):=by rw[D.blk.cell,arr_get f j hj]
theorem DSt.cl (D:DSt w0 g xb o c n xs f w) (j:Nat) (v:Value) (h:f j=v:=by rfl) (hj:j<108:=by omega):w.cell? ⟨g,j,none⟩=some v:=by rw[D.cell j hj,h]
theorem DSt.frozen (D:DSt w0 g xb o c n xs f w) (j:Nat):w.frozen? ⟨g,j,none⟩=false:=D.blk.frozen j
theorem DSt.keep (D:DSt w0 g xb o c n xs f w) (k:Keeps [] w w'):DSt w0 g xb o c n xs f w':=
 {D with blk:=D.blk.keep k (by simp),rb:=D.rb.keep k (by simp),tabs:=tabs_keep D.tabs k (by simp) (by simp),keeps:=D.keeps.trans k (by simp)}
theorem Rd.put {A:Option Addr} {s k:Nat} {vs:List Value} (h:Rd w s A k vs) (hA:∀a,A=some a→a.block=xb) (hne:xb≠g) (j:Nat) (v:Value):Rd (w.setCell ⟨g,j,none⟩ v) s A k vs:=h.keep (Keeps.setCell w ⟨g,j,none⟩ v) (fun a ha=>by rw[hA a ha];simpa using hne)
theorem DSt.set (D:DSt w0 g xb o c n xs f w) (i:Nat) (v:Value) (h1:v.oneCell'=true:=by rfl):DSt w0 g xb o c n xs (upd f i v) (w.setCell ⟨g,i,none⟩ v):=
 {D with
  blk:=by rw[←arr_set];exact D.blk.set_ i v
  rb:=D.rb.keep (Keeps.setCell w ⟨g,i,none⟩ v) (by simpa using D.ne)
  tabs:=tabs_keep D.tabs (Keeps.setCell w ⟨g,i,none⟩ v) (by have:=D.lo;simp;omega) (by have:=D.lo;simp;omega)
  keeps:=D.keeps.trans (Keeps.setCell w ⟨g,i,none⟩ v) (by simp)
  one:=fun j hj=>by unfold upd;split;exact h1;exact D.one j hj}
theorem DSt.keep2 (D:DSt w0 g xb o c n xs f w) (S:List Nat) (k:Keeps S w w') (hS:∀x∈S,w0.heap.size≤x):DSt w0 g xb o c n xs f w':=by
 have hg:=D.hg
 have hx:=D.hx
 have hlo:=D.lo
 exact {D with
  blk:=D.blk.keep k (fun hm=>by have:=hS _ hm;omega),rb:=D.rb.keep k (fun hm=>by have:=hS _ hm;omega),tabs:=tabs_keep D.tabs k (fun hm=>by have:=hS _ hm;omega) (fun hm=>by have:=hS _ hm;omega),keeps:=D.keeps.trans k (fun x hx=>.inr (hS x hx))}
def DRd (w w0:World) (g xb o c n:Nat) (xs:List UInt8) (f:Nat→Value) (v:Value) (e:Ending) (w':World):Prop:=e=.returned v∧DSt w0 g xb o c n xs f w'∧Keeps [] w w'
theorem DSt.word (D:DSt w0 g xb o c n xs f w) {k k':Nat} (v:Nat) {rest:List UInt8} (hx:xs.drop k=be2 v++rest) (hk:k+2=k') (hv:v<65536):
 Calls prog 93 #[.slice (some ⟨xb,o,none⟩) n c,.int .i64 (k:Int)] w (DRd w w0 g xb o c n xs f (.tuple #[.int .u16 (v:Int),.int .i64 (k':Int),.nilIface])):=by
 subst hk
 have h:=decodeUint16_c w (some ⟨xb,o,none⟩) c xs rest k v (rb_rd D.rb) hx hv (by have:=D.len;have:=D.hn;omega) (by rw[D.hn];exact D.cap)
 rw[D.hn] at h
 exact h.mono fun _ _ h=>⟨h.1,D.keep h.keeps,h.keeps⟩
theorem DSt.byte (D:DSt w0 g xb o c n xs f w) {k k':Nat} (u:UInt8) {rest:List UInt8} (hx:xs.drop k=[u]++rest) (hk:k+1=k'):
 Calls prog 92 #[.slice (some ⟨xb,o,none⟩) n c,.int .i64 (k:Int)] w (DRd w w0 g xb o c n xs f (.tuple #[.int .u8 (u.toNat:Int),.int .i64 (k':Int),.nilIface])):=by
 subst hk
 have h:=decodeByte_c w (some ⟨xb,o,none⟩) c xs rest k u (rb_rd D.rb) hx (by have:=D.len;have:=D.hn;omega)
 rw[D.hn] at h
 exact h.mono fun _ _ h=>⟨h.1,h.2▸D,h.2▸Keeps.refl _ _⟩
theorem DSt.bool (D:DSt w0 g xb o c n xs f w) {k k':Nat} (u:Bool) {rest:List UInt8} (hx:xs.drop k=[UInt8.ofNat (bit u)]++rest) (hk:k+1=k'):
 Calls prog 96 #[.slice (some ⟨xb,o,none⟩) n c,.int .i64 (k:Int)] w (DRd w w0 g xb o c n xs f (.tuple #[.bool u,.int .i64 (k':Int),.nilIface])):=by
 subst hk
 have h:=decodeByteBool_c w (some ⟨xb,o,none⟩) c xs rest k u (rb_rd D.rb) hx (by have:=D.len;have:=D.hn;omega)
 rw[D.hn] at h
 exact h.mono fun _ _ h=>⟨h.1,h.2▸D,h.2▸Keeps.refl _ _⟩
theorem DSt.text (D:DSt w0 g xb o c n xs f w) {k k':Nat} (t:ByteArray) {rest:List UInt8} (hx:xs.drop k=lp t.data.toList++rest) (hk:k+(2+t.size)=k') (ht:TextOK t):
 Calls prog 95 #[.slice (some ⟨xb,o,none⟩) n c,.int .i64 (k:Int)] w (DRd w w0 g xb o c n xs f (.tuple #[.string t,.int .i64 (k':Int),.nilIface])):=by
 subst hk
 have h:=decodeString_c w xb o c xs rest t k D.rb hx ht.1 (by have:=D.len;have:=D.hn;omega) (by rw[D.hn];exact D.cap) ht.2.1 ht.2.2 D.tabs
 rw[D.hn,Nat.add_assoc] at h
 exact h.mono fun _ _ h=>⟨h.1,D.keep h.2,h.2⟩
def DDat (w w0:World) (g xb o c n:Nat) (xs:List UInt8) (f:Nat→Value) (ys:List UInt8) (k:Nat) (e:Ending) (w':World):Prop:=
 ∃A c',e=.returned (.tuple #[.slice A ys.length c',.int .i64 (k:Int),.nilIface])∧Rd w' 1 A ys.length (bvs ys)∧ys.length≤c'∧(∀a,A=some a→a.block=xb)∧DSt w0 g xb o c n xs f w'∧Keeps [] w w'
theorem rb_sub {w:World} {b o k:Nat} {xs ys rest:List UInt8} (h:RB w b o xs) (hx:xs.drop k=ys++rest):RB w b (o+k) ys:=fun j u hj=>by
 have:=h (k+j) u (by rw[←List.getElem?_drop,hx,List.getElem?_append_left (List.getElem?_eq_some_iff.1 hj).1,hj])
 rwa [Nat.add_assoc]
theorem DSt.data (D:DSt w0 g xb o c n xs f w) {k k':Nat} (ys:List UInt8) {rest:List UInt8} (hx:xs.drop k=lp ys++rest) (hk:k+(2+ys.length)=k') (hy:ys.length<65536):
 Calls prog 91 #[.slice (some ⟨xb,o,none⟩) n c,.int .i64 (k:Int)] w (DDat w w0 g xb o c n xs f ys k'):=by
 subst hk
 have hcap:=D.cap
 have hn:=D.hn
 have h:=decodeBytes_c w xb o c xs ys rest k (rb_rd D.rb) hx hy (by have:=D.len;omega) (by omega)
 rw[D.hn,Nat.add_assoc k 2 ys.length] at h
 refine h.mono fun e w' h=>?_
 have hk:=drop_le hx (by simp[lp,be2])
 simp only[lp_length] at hk
 have hd:=D.keep h.keeps
 have hxd:xs.drop (k+2)=ys++rest:=by
  rw[←List.drop_drop,hx,lp,List.append_assoc]
  rfl
 have hr:RB w' xb (o+(k+2)) ys:=rb_sub hd.rb hxd
 refine⟨_,_,h.1,?_,by omega,?_,hd,h.keeps⟩
 ·by_cases e:c=k+2
  ·have:ys=[]:=List.eq_nil_of_length_eq_zero (by omega)
   subst this
   exact⟨by simp[bvs],fun h0=>by simp at h0⟩
  ·rw[if_neg e];exact rb_rd hr
 ·intro a ha
  split at ha<;>(injection ha with ha;subst ha;rfl)
def encPL (l:List PropV):List UInt8:=vlen (encL l).length++encL l
theorem encPL_pos (l:List PropV):0<(encPL l).length:=by have:=vlen_pos (encL l).length;simp[encPL];omega
theorem encPL_two {l:List PropV} (h:l≠[]):2≤(encPL l).length:=by
 have h1:=vlen_pos (encL l).length
 have h2:0<(encL l).length:=by
  rcases l with _|⟨x,l⟩
  ·exact absurd rfl h
  ·simp[encL,encP]
 simp[encPL];omega
theorem encPL_nil:(encPL []).length=1:=by
 unfold encPL
 rw[show encL []=[] from rfl,List.length_nil,vlen_lo (by omega)]
 rfl
theorem RSt.put {B xb g o i:Nat} {w:World} {l:List PropV} {f:Nat→Value} {v:Value} (h:RSt B xb w o l (arr f)) (hne:xb≠g) (hg:g<B) (ho:o+37≤108) (hi:i<o∨o+37≤i):RSt B xb (w.setCell ⟨g,i,none⟩ v) o l (arr (YtkglmacaecmhdaaGreatDoor.upd f i v)):=
 (h.keep (Keeps.setCell w ⟨g,i,none⟩ v) (by simpa using hne) (by simp;omega)).upd ho hi
def DPr (w w0:World) (g bb xb o c n:Nat) (xs:List UInt8) (f:Nat→Value) (oo:Nat) (l:List PropV) (m:Nat) (e:Ending) (w':World):Prop:=
 e=.returned (.tuple #[.int .i64 (m:Int),.nilIface])∧∃f',DSt w0 g xb o c n xs f' w'∧(∀j,j<108→(j<oo∨oo+37≤j)→f' j=f j)∧RSt w0.heap.size xb w' oo l (arr f')∧Keeps [g,bb] w w'
def DNb (w w0:World) (g xb o c n:Nat) (xs:List UInt8) (f:Nat→Value) (ys:List UInt8) (e:Ending) (w':World):Prop:=
 ∃bb,e=.returned (.pointer (some ⟨bb,0,none⟩))∧RBuf w' bb xb ys∧w.heap.size≤bb∧DSt w0 g xb o c n xs f w'∧Keeps [] w w'
theorem DSt.newbuf (D:DSt w0 g xb o c n xs f w) {k:Nat} (hk:k≤n) {ys:List UInt8} (hy:xs.drop k=ys):
 Calls prog 62 #[.slice (some ⟨xb,o+k,none⟩) (n-k) (c-k)] w (DNb w w0 g xb o c n xs f ys):=by
 have hcap:=D.cap
 have hn:=D.hn
 subst hy
 have h:=newBuffer_c w xb (o+k) (c-k) (xs.drop k) (D.rb.drop k) (by simp;omega) (Nat.lt_of_lt_of_le D.hx D.keeps.size)
 have e:(xs.drop k).length=n-k:=by simp[hn]
 rw[e] at h
 exact h.mono fun _ _ h=>⟨_,h.1,h.2.1,Nat.le_refl _,D.keep h.2.2.1,h.2.2.1⟩
theorem cellV_one (l:List PropV) (j:Nat):(cellV l j).oneCell'=true:=by
 unfold cellV valOf
 repeat' split
 all_goals rfl
theorem RSt.one_ {B xb:Nat} {w:World} {o:Nat} {l:List PropV} {f:Nat→Value} (h:RSt B xb w o l (arr f)) (ho:o+37≤108):∀j,j<37→(f (o+j)).oneCell'=true:=by
 intro j hj
 have hg:∀k,k<37→(arr f)[o+k]?=some (f (o+k)):=fun k hk=>arr_get f (o+k) (by omega)
 have hd:∀k p,k<37→RDat xb w p (arr f)[o+k]?→(f (o+k)).oneCell'=true:=fun k p hk hr=>by
  rw[hg k hk] at hr
  cases p with
  |none=>rw[Option.some.inj hr];rfl
  |some x=>obtain⟨A,c,h1,_⟩:=hr;rw[Option.some.inj h1];rfl
 rcases Nat.lt_or_ge j 4 with h4|h4
 ·obtain rfl|rfl|rfl|rfl:j=0∨j=1∨j=2∨j=3:=by omega
  ·exact hd 0 _ (by omega) h.d0
  ·obtain⟨A,c,h1,_⟩:=h.nm
   rw[hg 1 (by omega)] at h1;rw[Option.some.inj h1];rfl
  ·exact hd 2 _ (by omega) h.d2
  ·obtain⟨A,c,h1,_⟩:=h.us
   rw[hg 3 (by omega)] at h1;rw[Option.some.inj h1];rfl
 ·have h1:=h.sc j h4 hj
  rw[hg j hj] at h1;rw[Option.some.inj h1];exact cellV_one l j
theorem DSt.props (D:DSt w0 g xb o c n xs f w) (oo:Nat) {bb:Nat} (kind:Int) {l:List PropV} {rest:List UInt8} (hP:ProperL kind l) (ho:oo+37≤108) (h0:∀j,j<37→(arr f)[oo+j]?=zero37[j]?)
 (hR:RBuf w bb xb (encPL l++rest)) (hbb:w0.heap.size≤bb) (hrest:rest.length≤100000000) {pk:Int} (hpk:pktOf kind=pk) {m:Nat} (hm:(encPL l).length=m):
 Calls prog 94 #[.pointer (some ⟨g,oo,none⟩),.int .u8 pk,.pointer (some ⟨bb,0,none⟩)] w (DPr w w0 g bb xb o c n xs f oo l m):=by
 subst hpk hm
 have hg:=D.hg
 have hlo:=D.lo
 have hz:=D.keeps.size
 unfold encPL at hR
 rw[List.append_assoc] at hR
 have e:(encPL l).length=(encL l).length+(vlen (encL l).length).length:=by simp[encPL];omega
 rw[e]
 refine(propDec_c w g oo bb xb (arr f) kind l rest hP D.blk (arr_size f) ho h0 hR (by omega) (Nat.lt_of_lt_of_le D.hx hz) D.ne hrest D.tabs hlo (by omega)).mono ?_
 rintro e w' ⟨rfl,cs',hb,hsz,hfar,hst,hk⟩
 obtain⟨f',rfl,hf'⟩:=arr_of cs' hsz
 refine⟨rfl,f',?_,fun j hj ho=>?_,hst.mono hz,hk⟩
 ·have hx:=D.hx
  exact {D with
   blk:=hb,rb:=D.rb.keep hk (by simp;exact⟨D.ne,by omega⟩),tabs:=tabs_keep D.tabs hk (by simp;omega) (by simp;omega)
   keeps:=D.keeps.trans hk (by simp;omega)
   one:=fun j hj=>by
    by_cases h:oo≤j∧j<oo+37
    ·have h1:=hst.one_ ho (j-oo) (by omega)
     rwa [show oo+(j-oo)=j by omega] at h1
    ·have h1:=hfar j (by omega)
     rw[arr_get _ _ hj,arr_get _ _ hj] at h1
     rw[Option.some.inj h1];exact D.one j hj}
 ·have:=hfar j ho
  rw[arr_get _ _ hj,arr_get _ _ hj] at this
  exact Option.some.inj this
end
def zp (k v:Int) (l:List PropV):PkV:=⟨k,v,false,false,0,0,⟨#[]⟩,[],⟨#[]⟩,0,⟨#[]⟩,false,0,[],[],[],false,0,[],[],l⟩
def codeB (l:List Int):List UInt8:=l.map fun n=>UInt8.ofNat n.toNat
def toV (id:Int) (s:SubP):SubV:=⟨s.filter,id,s.handling.toNat,s.qos.toNat,s.ap,s.nl⟩
def DatGot (xb:Nat) (w:World) (v:Value) (ys:List UInt8):Prop:=∃A c,v=.slice A ys.length c∧Rd w 1 A ys.length (bvs ys)∧∀a,A=some a→a.block=xb
def OptGot (xb:Nat) (w:World) (f:Nat→Value) (fl d:Nat) (l:List (List UInt8)):Prop:=(l=[]∧f fl=.bool false)∨∃ys,l=[ys]∧f fl=.bool true∧DatGot xb w (f d) ys
def WillGot (B xb:Nat) (w:World) (f:Nat→Value) (l:List WillV):Prop:=
 (l=[]∧f 47=.bool false)∨∃u,l=[u]∧f 47=.bool true∧f 42=.string u.topic∧DatGot xb w (f 40) u.payload∧f 46=.int .u8 u.qos∧f 48=.bool u.retain∧RSt B xb w 0 u.props (arr f)
structure PkGot (B xb:Nat) (w:World) (p:PkV) (f:Nat→Value):Prop where
 e93:f 93=.int .u8 p.kind
 e94:f 94=.int .u8 p.qos
 e95:f 95=.bool p.dup
 e96:f 96=.bool p.retain
 e103:f 103=.int .u8 p.version
 e102:f 102=.int .u16 p.id
 e90:f 90=.string p.topic
 e41:f 41=.string p.client
 e49:f 49=.bool p.clean
 e43:f 43=.int .u16 p.keep
 e104:f 104=.bool p.present
 e105:f 105=.int .u8 p.code
 e87:DatGot xb w (f 87) p.payload
 e39:DatGot xb w (f 39) p.name.data.toList
 st:RSt B xb w 50 p.props (arr f)
 will:WillGot B xb w f p.will
 user:OptGot xb w f 45 38 p.user
 pass:OptGot xb w f 44 37 p.pass
 codes:DatGot xb w (f 88) (codeB p.codes)
 subs:∃A c id,f 89=.slice A p.subs.length c∧Rd w 9 A p.subs.length (p.subs.flatMap fun s=>(toV id s).cells)∧∀a,A=some a→B≤a.block
 one:∀j,j<108→(f j).oneCell'=true
theorem subs_zero (B:Nat) (w:World) (v:Value) (h:v=.slice none 0 0):∃A c id,v=.slice A ([]:List SubP).length c∧Rd w 9 A ([]:List SubP).length (([]:List SubP).flatMap fun s=>(toV id s).cells)∧∀a,A=some a→B≤a.block:=⟨none,0,0,h,Rd.none_ _ _,by simp⟩
section
variable {B xb:Nat} {w w':World} {v:Value} {ys:List UInt8} {f:Nat→Value} {p:PkV} {S:List Nat}
theorem DatGot.keep (h:DatGot xb w v ys) (k:Keeps S w w') (hS:xb∉S):DatGot xb w' v ys:=by
 obtain⟨A,c,rfl,h2,h3⟩:=h
 exact⟨A,c,rfl,h2.keep k (fun a ha=>by rw[h3 a ha];exact hS),h3⟩
theorem OptGot.keep {a b:Nat} {l:List (List UInt8)} (h:OptGot xb w f a b l) (k:Keeps S w w') (hS:xb∉S):OptGot xb w' f a b l:=by
 rcases h with h|⟨ys,h1,h2,h3⟩
 ·exact .inl h
 ·exact .inr ⟨ys,h1,h2,h3.keep k hS⟩
theorem PkGot.keep (h:PkGot B xb w p f) (k:Keeps S w w') (hx:xb∉S) (hS:∀x∈S,x<B):PkGot B xb w' p f:=by
 obtain⟨A,c,id,h1,h2,h3⟩:=h.subs
 have hS2:∀x∈S,x<B∨w.heap.size≤x:=fun x hx=>.inl (hS x hx)
 refine {h with e87:=h.e87.keep k hx,e39:=h.e39.keep k hx,st:=h.st.keep k hx hS2,user:=h.user.keep k hx,pass:=h.pass.keep k hx,codes:=h.codes.keep k hx,subs:=⟨A,c,id,h1,h2.keep k (fun a ha hm=>by have:=h3 a ha;have:=hS _ hm;omega),h3⟩,will:=?_}
 rcases h.will with h|⟨u,a1,a2,a3,a4,a5,a6,a7⟩
 ·exact .inl h
 ·exact .inr ⟨u,a1,a2,a3,a4.keep k hx,a5,a6,a7.keep k hx hS2⟩
end
theorem PkGot.of {B xb:Nat} {w:World} {p:PkV} {f:Nat→Value} (one:∀j,j<108→(f j).oneCell'=true) (st:RSt B xb w 50 p.props (arr f):=by exact rst_zero _ _ _ _ _ (pz (.inl rfl) (fun j h1 h2=>by simp only[dz,upd];repeat rw[if_neg (by omega)])))
 (e93:f 93=.int .u8 p.kind:=by first|exact rfl|exact((hf1.o 93 (by omega) (by omega)).trans rfl)|exact((hf2.o 93 (by omega) (by omega)).trans ((hf1.o 93 (by omega) (by omega)).trans rfl)))
 (e94:f 94=.int .u8 p.qos:=by first|exact rfl|exact((hf1.o 94 (by omega) (by omega)).trans rfl)|exact((hf2.o 94 (by omega) (by omega)).trans ((hf1.o 94 (by omega) (by omega)).trans rfl)))
 (e95:f 95=.bool p.dup:=by first|exact rfl|exact((hf1.o 95 (by omega) (by omega)).trans rfl)|exact((hf2.o 95 (by omega) (by omega)).trans ((hf1.o 95 (by omega) (by omega)).trans rfl)))
 (e96:f 96=.bool p.retain:=by first|exact rfl|exact((hf1.o 96 (by omega) (by omega)).trans rfl)|exact((hf2.o 96 (by omega) (by omega)).trans ((hf1.o 96 (by omega) (by omega)).trans rfl)))
 (e103:f 103=.int .u8 p.version:=by first|exact rfl|exact((hf1.o 103 (by omega) (by omega)).trans rfl)|exact((hf2.o 103 (by omega) (by omega)).trans ((hf1.o 103 (by omega) (by omega)).trans rfl)))
 (e102:f 102=.int .u16 p.id:=by first|exact rfl|exact((hf1.o 102 (by omega) (by omega)).trans rfl)|exact((hf2.o 102 (by omega) (by omega)).trans ((hf1.o 102 (by omega) (by omega)).trans rfl)))
 (e90:f 90=.string p.topic:=by first|exact rfl|exact((hf1.o 90 (by omega) (by omega)).trans rfl)|exact((hf2.o 90 (by omega) (by omega)).trans ((hf1.o 90 (by omega) (by omega)).trans rfl)))
 (e41:f 41=.string p.client:=by first|exact rfl|exact((hf1.o 41 (by omega) (by omega)).trans rfl)|exact((hf2.o 41 (by omega) (by omega)).trans rfl)|exact((hf2.o 41 (by omega) (by omega)).trans ((hf1.o 41 (by omega) (by omega)).trans rfl)))
 (e49:f 49=.bool p.clean:=by first|exact rfl|exact((hf1.o 49 (by omega) (by omega)).trans rfl)|exact((hf2.o 49 (by omega) (by omega)).trans ((hf1.o 49 (by omega) (by omega)).trans rfl)))
 (e43:f 43=.int .u16 p.keep:=by first|exact rfl|exact((hf1.o 43 (by omega) (by omega)).trans rfl)|exact((hf2.o 43 (by omega) (by omega)).trans ((hf1.o 43 (by omega) (by omega)).trans rfl)))
 (e104:f 104=.bool p.present:=by first|exact rfl|exact((hf1.o 104 (by omega) (by omega)).trans rfl)|exact((hf2.o 104 (by omega) (by omega)).trans ((hf1.o 104 (by omega) (by omega)).trans rfl)))
 (e105:f 105=.int .u8 p.code:=by first|exact rfl|exact((hf1.o 105 (by omega) (by omega)).trans rfl)|exact((hf2.o 105 (by omega) (by omega)).trans ((hf1.o 105 (by omega) (by omega)).trans rfl)))
 (e87:DatGot xb w (f 87) p.payload:=by first|exact⟨none,0,rfl,Rd.none_ _ _,by simp⟩|exact⟨none,0,((hf1.o 87 (by omega) (by omega)).trans rfl),Rd.none_ _ _,by simp⟩|exact⟨none,0,((hf2.o 87 (by omega) (by omega)).trans ((hf1.o 87 (by omega) (by omega)).trans rfl)),Rd.none_ _ _,by simp⟩|exact⟨_,_,congrArg (fun m=>Value.slice _ m _) hly.symm,by rw[hy0];exact⟨by simp[bvs],fun h=>by simp at h⟩,fun a ha=>by injection ha with ha;subst ha;rfl⟩)
 (e39:DatGot xb w (f 39) p.name.data.toList:=by first|exact⟨none,0,rfl,Rd.none_ _ _,by simp⟩|exact⟨none,0,((hf1.o 39 (by omega) (by omega)).trans rfl),Rd.none_ _ _,by simp⟩|exact⟨none,0,((hf2.o 39 (by omega) (by omega)).trans ((hf1.o 39 (by omega) (by omega)).trans rfl)),Rd.none_ _ _,by simp⟩)
 (will:WillGot B xb w f p.will:=by first|exact .inl ⟨rfl,rfl⟩|exact .inl ⟨rfl,((hf1.o 47 (by omega) (by omega)).trans rfl)⟩|exact .inl ⟨rfl,((hf2.o 47 (by omega) (by omega)).trans ((hf1.o 47 (by omega) (by omega)).trans rfl))⟩)
 (user:OptGot xb w f 45 38 p.user:=by first|exact .inl ⟨rfl,rfl⟩|exact .inl ⟨rfl,((hf1.o 45 (by omega) (by omega)).trans rfl)⟩|exact .inl ⟨rfl,((hf2.o 45 (by omega) (by omega)).trans ((hf1.o 45 (by omega) (by omega)).trans rfl))⟩)
 (pass:OptGot xb w f 44 37 p.pass:=by first|exact .inl ⟨rfl,rfl⟩|exact .inl ⟨rfl,((hf1.o 44 (by omega) (by omega)).trans rfl)⟩|exact .inl ⟨rfl,((hf2.o 44 (by omega) (by omega)).trans ((hf1.o 44 (by omega) (by omega)).trans rfl))⟩)
 (codes:DatGot xb w (f 88) (codeB p.codes):=by first|exact⟨none,0,rfl,Rd.none_ _ _,by simp⟩|exact⟨none,0,((hf1.o 88 (by omega) (by omega)).trans rfl),Rd.none_ _ _,by simp⟩|exact⟨none,0,((hf2.o 88 (by omega) (by omega)).trans ((hf1.o 88 (by omega) (by omega)).trans rfl)),Rd.none_ _ _,by simp⟩|exact⟨_,_,congrArg (fun m=>Value.slice _ m _) hly.symm,by rw[hy0];exact⟨by simp[bvs],fun h=>by simp at h⟩,fun a ha=>by injection ha with ha;subst ha;rfl⟩)
 (subs:∃A c id,f 89=.slice A p.subs.length c∧Rd w 9 A p.subs.length (p.subs.flatMap fun s=>(toV id s).cells)∧∀a,A=some a→B≤a.block:=by first|exact subs_zero _ _ _ rfl|exact subs_zero _ _ _ ((hf1.o 89 (by omega) (by omega)).trans rfl)|exact subs_zero _ _ _ ((hf2.o 89 (by omega) (by omega)).trans ((hf1.o 89 (by omega) (by omega)).trans rfl))):PkGot B xb w p f:=
 ⟨e93,e94,e95,e96,e103,e102,e90,e41,e49,e43,e104,e105,e87,e39,st,will,user,pass,codes,subs,one⟩
def DOut (w:World) (g xb:Nat) (q:PkV) (e:Ending) (w':World):Prop:=e=.returned .nilIface∧∃f,Blk w' g 86 (arr f)∧PkGot w.heap.size xb w' q f∧Keeps [g] w w'
theorem zU1 {p:Prop} (h:p:=by
 rintro e w4 ⟨rfl,f1,D,hfar,hst,kk2⟩
 have hf1:=hH hfar
 have HST1:=hH hst
 have HD4:=hH D
 clear D hfar hst kk2
 refine hK.out _ _ (hS HD4.o ((hf1.o 93 (by omega) (by omega)).trans (rfl))) (fun hHeld=>?_)
 clear hK K
 simp only[setN,Act.put,s1,s2,s3]
 repeat((first|refine tkx ?_|refine tku ?_);simp only[setN,Act.put,s1,s2,s3])
 refine tkDone (by kernel_rfl) ?_
 clear hHeld hS
 go_wp2_with fail
 have hkf:=HD4.o.keeps
 go_ret
 rw[←HQ.o]
 refine⟨rfl,_,HD4.o.blk,?_,hkf⟩
 exact PkGot.of HD4.o.one (st:=HST1.o)
 ):p:=h
theorem authDec_c (w:World) (g xb o c n rem:Nat) (xs:List UInt8) (qs:Int) (dup ret:Bool) (code:UInt8) (l:List PropV) (D:DSt w g xb o c n xs (dz 15 qs dup ret 5 rem) w) (hxs:xs=[code]++(encPL l++([]))) (hP:ProperL 15 l):
 Calls prog 77 #[.pointer (some ⟨g,0,none⟩),.slice (some ⟨xb,o,none⟩) n c] w (DOut w g xb ({zp 15 5 l with qos:=qs,dup:=dup,retain:=ret,code:=(code.toNat:Int)})):=by
 have d0:xs.drop 0=[code]++(encPL l++([])):=hxs
 have hcap:=D.cap
 have hxl:=D.len
 have hn:=D.hn
 have HD0:=hH D
 clear D hxs
 obtain⟨k1,e1,d1,l1⟩:=pos_step (1) d0 (rfl) (by omega) hn
 obtain⟨k2,e2,d2,l2⟩:=pos_step ((encPL l).length) d1 (rfl) (encPL_pos _) hn
 have HX0:=hH d0
 have HX1:=hH d1
 have HX2:=hH d2
 have HE1:=hH e1
 have HE2:=hH e2
 clear d0 d1 d2 e1 e2
 obtain⟨q,hq⟩:∃q,({zp 15 5 l with qos:=qs,dup:=dup,retain:=ret,code:=(code.toNat:Int)}:PkV)=q:=⟨_,rfl⟩
 rw[hq]
 have HQ:=hH hq
 have HNN:=hH hn
 clear hq hn
 have HP:=hH hP
 clear hP
 go_enter func77,ntmps77
 go_wp2_with fail
 go_fit (HD0.o.byte code HX0.o HE1.o)
 rintro e w1 ⟨rfl,D,kk⟩
 have HD1:=hH D
 clear D kk
 have cw1_105:=HD1.o.cell 105
 have fw1_105:=HD1.o.frozen 105
 go_wp2_with fail
 have HD2:=hH ((HD1.o.set 105 (.int .u8 (code.toNat:Int))))
 generalize (w1).setCell ⟨g,105,none⟩ (.int .u8 (code.toNat:Int))=w2 at*
 have hS:∀{f:Nat→Value} {w':World},DSt w g xb o c n xs f w'→f 93=.int .u8 15→w'.cell? ⟨g,93,none⟩=some (.int .u8 15):=fun D h=>by rw[D.cell 93,h]
 have hln:k1<n:=by have h1:=drop_le HX1.o (encPL_pos _);have h2:=encPL_pos (l);have:=HNN.o;omega
 have hnc:¬c=k1:=by omega
 obtain⟨pm,hpm⟩:∃m,(encPL (l)).length=m:=⟨_,rfl⟩
 have HPM:=hH hpm
 have hka:(k1:Int)+(pm:Int)=(k2:Int):=by have:=HE2.o;omega
 clear hpm
 refine tkStart (S:=fun w'=>w'.cell? ⟨g,93,none⟩=some (.int .u8 15)) (by kernel_rfl) (hS (HD2.o.keep (Keeps.drew w2)) (rfl)) (fun hHeld=>?_)
 simp only[s4,s5,Nat.reduceAdd,s6,s7]
 repeat((first|refine tkx ?_|refine tku ?_);simp only[setN,Act.put,s1,s2,s3])
 refine tkc fun K hK=>?_
 go_simp
 refine(DSt.newbuf (HD2.o.keep (Keeps.drew w2)) l1 HX1.o).mono ?_
 rintro e w3 ⟨bb,rfl,rb,hbb,D,kk1⟩
 have HRB:=hH rb
 have HD3:=hH D
 have HK1:=hH kk1
 clear D rb kk1
 refine hK.out _ _ (hS HD3.o (rfl)) (fun hHeld=>?_)
 clear hK K
 simp only[setN,Act.put,s1,s2,s3]
 repeat((first|refine tkx ?_|refine tku ?_);simp only[setN,Act.put,s1,s2,s3])
 refine tkc fun K hK=>?_
 go_simp
 refine(DSt.props HD3.o 50 15 HP.o (by omega) (pz (.inl rfl) (fun j h1 h2=>by simp only[dz,upd];repeat rw[if_neg (by omega)])) HRB.o (Nat.le_trans HD2.o.keeps.size hbb) (by simp) (pk:=15) (by rfl) HPM.o).mono ?_
 exact zU1
theorem zU2 {p:Prop} (h:p:=by
 rintro e w6 ⟨rfl,f1,D,hfar,hst,kk2⟩
 have hf1:=hH hfar
 have HST1:=hH hst
 have HD6:=hH D
 clear D hfar hst kk2
 refine hK.out _ _ (hS HD6.o ((hf1.o 93 (by omega) (by omega)).trans (rfl))) (fun hHeld=>?_)
 clear hK K
 simp only[setN,Act.put,s1,s2,s3]
 repeat((first|refine tkx ?_|refine tku ?_);simp only[setN,Act.put,s1,s2,s3])
 refine tkDone (by kernel_rfl) ?_
 clear hHeld hS
 go_wp2_with fail
 have hkf:=HD6.o.keeps
 go_ret
 rw[←HQ.o]
 refine⟨rfl,_,HD6.o.blk,?_,hkf⟩
 exact PkGot.of HD6.o.one (st:=HST1.o)
 ):p:=h
theorem connackDec5_c (w:World) (g xb o c n rem:Nat) (xs:List UInt8) (qs:Int) (dup ret:Bool) (sp:Bool) (code:UInt8) (l:List PropV) (D:DSt w g xb o c n xs (dz 2 qs dup ret 5 rem) w) (hxs:xs=[UInt8.ofNat (bit sp)]++([code]++(encPL l++([])))) (hP:ProperL 2 l):
 Calls prog 64 #[.pointer (some ⟨g,0,none⟩),.slice (some ⟨xb,o,none⟩) n c] w (DOut w g xb ({zp 2 5 l with qos:=qs,dup:=dup,retain:=ret,present:=sp,code:=(code.toNat:Int)})):=by
 have d0:xs.drop 0=[UInt8.ofNat (bit sp)]++([code]++(encPL l++([]))):=hxs
 have hcap:=D.cap
 have hxl:=D.len
 have hn:=D.hn
 have HD0:=hH D
 clear D hxs
 obtain⟨k1,e1,d1,l1⟩:=pos_step (1) d0 (rfl) (by omega) hn
 obtain⟨k2,e2,d2,l2⟩:=pos_step (1) d1 (rfl) (by omega) hn
 obtain⟨k3,e3,d3,l3⟩:=pos_step ((encPL l).length) d2 (rfl) (encPL_pos _) hn
 have HX0:=hH d0
 have HX1:=hH d1
 have HX2:=hH d2
 have HX3:=hH d3
 have HE1:=hH e1
 have HE2:=hH e2
 have HE3:=hH e3
 clear d0 d1 d2 d3 e1 e2 e3
 obtain⟨q,hq⟩:∃q,({zp 2 5 l with qos:=qs,dup:=dup,retain:=ret,present:=sp,code:=(code.toNat:Int)}:PkV)=q:=⟨_,rfl⟩
 rw[hq]
 have HQ:=hH hq
 have HNN:=hH hn
 clear hq hn
 have HP:=hH hP
 clear hP
 go_enter func64,ntmps64
 go_wp2_with fail
 go_fit (HD0.o.bool sp HX0.o HE1.o)
 rintro e w1 ⟨rfl,D,kk⟩
 have HD1:=hH D
 clear D kk
 have cw1_104:=HD1.o.cell 104
 have fw1_104:=HD1.o.frozen 104
 go_wp2_with fail
 have HD2:=hH ((HD1.o.set 104 (.bool sp)))
 generalize (w1).setCell ⟨g,104,none⟩ (.bool sp)=w2 at*
 go_fit (HD2.o.byte code HX1.o HE2.o)
 rintro e w3 ⟨rfl,D,kk⟩
 have HD3:=hH D
 clear D kk
 have cw3_105:=HD3.o.cell 105
 have fw3_105:=HD3.o.frozen 105
 have cw3_103:=HD3.o.cl 103 (.int .u8 5)
 go_wp2_with fail
 have HD4:=hH ((HD3.o.set 105 (.int .u8 (code.toNat:Int))))
 generalize (w3).setCell ⟨g,105,none⟩ (.int .u8 (code.toNat:Int))=w4 at*
 have hS:∀{f:Nat→Value} {w':World},DSt w g xb o c n xs f w'→f 93=.int .u8 2→w'.cell? ⟨g,93,none⟩=some (.int .u8 2):=fun D h=>by rw[D.cell 93,h]
 have hln:k2<n:=by have h1:=drop_le HX2.o (encPL_pos _);have h2:=encPL_pos (l);have:=HNN.o;omega
 have hnc:¬c=k2:=by omega
 obtain⟨pm,hpm⟩:∃m,(encPL (l)).length=m:=⟨_,rfl⟩
 have HPM:=hH hpm
 have hka:(k2:Int)+(pm:Int)=(k3:Int):=by have:=HE3.o;omega
 clear hpm
 refine tkStart (S:=fun w'=>w'.cell? ⟨g,93,none⟩=some (.int .u8 2)) (by kernel_rfl) (hS (HD4.o.keep (Keeps.drew w4)) (rfl)) (fun hHeld=>?_)
 simp only[s4,s5,Nat.reduceAdd,s6,s7]
 repeat((first|refine tkx ?_|refine tku ?_);simp only[setN,Act.put,s1,s2,s3])
 refine tkc fun K hK=>?_
 go_simp
 refine(DSt.newbuf (HD4.o.keep (Keeps.drew w4)) l2 HX2.o).mono ?_
 rintro e w5 ⟨bb,rfl,rb,hbb,D,kk1⟩
 have HRB:=hH rb
 have HD5:=hH D
 have HK1:=hH kk1
 clear D rb kk1
 refine hK.out _ _ (hS HD5.o (rfl)) (fun hHeld=>?_)
 clear hK K
 simp only[setN,Act.put,s1,s2,s3]
 repeat((first|refine tkx ?_|refine tku ?_);simp only[setN,Act.put,s1,s2,s3])
 refine tkc fun K hK=>?_
 go_simp
 refine(DSt.props HD5.o 50 2 HP.o (by omega) (pz (.inl rfl) (fun j h1 h2=>by simp only[dz,upd];repeat rw[if_neg (by omega)])) HRB.o (Nat.le_trans HD4.o.keeps.size hbb) (by simp) (pk:=2) (by rfl) HPM.o).mono ?_
 exact zU2
theorem zU9 {p:Prop} (h:p:=by
 have hkf:=HD4.o.keeps
 go_ret
 rw[←HQ.o]
 refine⟨rfl,_,HD4.o.blk,?_,hkf⟩
 exact PkGot.of HD4.o.one
 ):p:=h
theorem zU6 {p:Prop} (h:p:=by
 go_wp2_with fail
 have HD4:=hH ((HD3.o.set 105 (.int .u8 (code.toNat:Int))))
 generalize (w3).setCell ⟨g,105,none⟩ (.int .u8 (code.toNat:Int))=w4 at*
 exact zU9
 ):p:=h
theorem connackDec4_c (w:World) (g xb o c n rem:Nat) (xs:List UInt8) (qs:Int) (dup ret:Bool) (sp:Bool) (code:UInt8) (D:DSt w g xb o c n xs (dz 2 qs dup ret 4 rem) w) (hxs:xs=[UInt8.ofNat (bit sp)]++([code]++([]))):
 Calls prog 64 #[.pointer (some ⟨g,0,none⟩),.slice (some ⟨xb,o,none⟩) n c] w (DOut w g xb ({zp 2 4 [] with qos:=qs,dup:=dup,retain:=ret,present:=sp,code:=(code.toNat:Int)})):=by
 have d0:xs.drop 0=[UInt8.ofNat (bit sp)]++([code]++([])):=hxs
 have hcap:=D.cap
 have hxl:=D.len
 have hn:=D.hn
 have HD0:=hH D
 clear D hxs
 obtain⟨k1,e1,d1,l1⟩:=pos_step (1) d0 (rfl) (by omega) hn
 obtain⟨k2,e2,d2,l2⟩:=pos_step (1) d1 (rfl) (by omega) hn
 have HX0:=hH d0
 have HX1:=hH d1
 have HX2:=hH d2
 have HE1:=hH e1
 have HE2:=hH e2
 clear d0 d1 d2 e1 e2
 obtain⟨q,hq⟩:∃q,({zp 2 4 [] with qos:=qs,dup:=dup,retain:=ret,present:=sp,code:=(code.toNat:Int)}:PkV)=q:=⟨_,rfl⟩
 rw[hq]
 have HQ:=hH hq
 have HNN:=hH hn
 clear hq hn
 go_enter func64,ntmps64
 go_wp2_with fail
 go_fit (HD0.o.bool sp HX0.o HE1.o)
 rintro e w1 ⟨rfl,D,kk⟩
 have HD1:=hH D
 clear D kk
 have cw1_104:=HD1.o.cell 104
 have fw1_104:=HD1.o.frozen 104
 go_wp2_with fail
 have HD2:=hH ((HD1.o.set 104 (.bool sp)))
 generalize (w1).setCell ⟨g,104,none⟩ (.bool sp)=w2 at*
 go_fit (HD2.o.byte code HX1.o HE2.o)
 rintro e w3 ⟨rfl,D,kk⟩
 have HD3:=hH D
 clear D kk
 have cw3_105:=HD3.o.cell 105
 have fw3_105:=HD3.o.frozen 105
 have cw3_103:=HD3.o.cl 103 (.int .u8 4)
 exact zU6
theorem zU3 {p:Prop} (h:p:=by
 have hkf:=HD2.o.keeps
 go_ret
 rw[←HQ.o]
 refine⟨rfl,_,HD2.o.blk,?_,hkf⟩
 exact PkGot.of HD2.o.one
 ):p:=h
theorem discDec5_c (w:World) (g xb o c n rem:Nat) (xs:List UInt8) (qs:Int) (dup ret:Bool) (code:UInt8) (l:List PropV) (D:DSt w g xb o c n xs (dz 14 qs dup ret 5 rem) w) (hxs:xs=[code]++(encPL l++([]))) (hP:ProperL 14 l) (hrem:rem=n):
 Calls prog 76 #[.pointer (some ⟨g,0,none⟩),.slice (some ⟨xb,o,none⟩) n c] w (DOut w g xb ({zp 14 5 l with qos:=qs,dup:=dup,retain:=ret,code:=(code.toNat:Int)})):=by
 have d0:xs.drop 0=[code]++(encPL l++([])):=hxs
 have hcap:=D.cap
 have hxl:=D.len
 have hn:=D.hn
 have HD0:=hH D
 clear D hxs
 obtain⟨k1,e1,d1,l1⟩:=pos_step (1) d0 (rfl) (by omega) hn
 obtain⟨k2,e2,d2,l2⟩:=pos_step ((encPL l).length) d1 (rfl) (encPL_pos _) hn
 have HX0:=hH d0
 have HX1:=hH d1
 have HX2:=hH d2
 have HE1:=hH e1
 have HE2:=hH e2
 clear d0 d1 d2 e1 e2
 obtain⟨q,hq⟩:∃q,({zp 14 5 l with qos:=qs,dup:=dup,retain:=ret,code:=(code.toNat:Int)}:PkV)=q:=⟨_,rfl⟩
 rw[hq]
 have HQ:=hH hq
 have HNN:=hH hn
 clear hq hn
 have HP:=hH hP
 clear hP
 have hpp:=encPL_pos l
 have hr1:(1:Int)<(rem:Int):=by have:=HE1.o;have:=HE2.o;omega
 have cw_103:=HD0.o.cl 103 (.int .u8 5)
 have cw_92:=HD0.o.cl 92 (.int .i64 (rem:Int))
 go_enter func76,ntmps76
 go_wp2_with fail
 go_fit (HD0.o.byte code HX0.o HE1.o)
 rintro e w1 ⟨rfl,D,kk⟩
 have HD1:=hH D
 clear D kk
 have cw1_105:=HD1.o.cell 105
 have fw1_105:=HD1.o.frozen 105
 have cw1_92:=HD1.o.cl 92 (.int .i64 (rem:Int))
 have HR:Hd (rem=1+(encPL l).length):=by show _=_;have:=HE1.o;have:=HE2.o;have:=HNN.o;have h3:=congrArg List.length HX2.o;simp at h3;omega
 by_cases hl0:l=[]
 ·subst hl0
  have hr2:¬(2:Int)<(rem:Int):=by have:=HR.o;rw[encPL_nil] at this;omega
  go_wp2_with fail
  have HD2:=hH ((HD1.o.set 105 (.int .u8 (code.toNat:Int))))
  generalize (w1).setCell ⟨g,105,none⟩ (.int .u8 (code.toNat:Int))=w2 at*
  exact zU3
 ·have hr2:(2:Int)<(rem:Int):=by have:=HR.o;have:=encPL_two hl0;omega
  go_wp2_with fail
  have HD2:=hH ((HD1.o.set 105 (.int .u8 (code.toNat:Int))))
  generalize (w1).setCell ⟨g,105,none⟩ (.int .u8 (code.toNat:Int))=w2 at*
  have hS:∀{f:Nat→Value} {w':World},DSt w g xb o c n xs f w'→f 93=.int .u8 14→w'.cell? ⟨g,93,none⟩=some (.int .u8 14):=fun D h=>by rw[D.cell 93,h]
  have hln:k1<n:=by have h1:=drop_le HX1.o (encPL_pos _);have h2:=encPL_pos (l);have:=HNN.o;omega
  have hnc:¬c=k1:=by omega
  obtain⟨pm,hpm⟩:∃m,(encPL (l)).length=m:=⟨_,rfl⟩
  have HPM:=hH hpm
  have hka:(k1:Int)+(pm:Int)=(k2:Int):=by have:=HE2.o;omega
  clear hpm
  refine tkStart (S:=fun w'=>w'.cell? ⟨g,93,none⟩=some (.int .u8 14)) (by kernel_rfl) (hS (HD2.o.keep (Keeps.drew w2)) (rfl)) (fun hHeld=>?_)
  simp only[s4,s5,Nat.reduceAdd,s6,s7]
  repeat((first|refine tkx ?_|refine tku ?_);simp only[setN,Act.put,s1,s2,s3])
  refine tkc fun K hK=>?_
  go_simp
  refine(DSt.newbuf (HD2.o.keep (Keeps.drew w2)) l1 HX1.o).mono ?_
  rintro e w3 ⟨bb,rfl,rb,hbb,D,kk1⟩
  have HRB:=hH rb
  have HD3:=hH D
  have HK1:=hH kk1
  clear D rb kk1
  refine hK.out _ _ (hS HD3.o (rfl)) (fun hHeld=>?_)
  clear hK K
  simp only[setN,Act.put,s1,s2,s3]
  repeat((first|refine tkx ?_|refine tku ?_);simp only[setN,Act.put,s1,s2,s3])
  refine tkc fun K hK=>?_
  go_simp
  refine(DSt.props HD3.o 50 14 HP.o (by omega) (pz (.inl rfl) (fun j h1 h2=>by simp only[dz,upd];repeat rw[if_neg (by omega)])) HRB.o (Nat.le_trans HD2.o.keeps.size hbb) (by simp) (pk:=14) (by rfl) HPM.o).mono ?_
  exact zU1
theorem zU7 {p:Prop} (h:p:=by
 go_wp2_with fail
 have hkf:=HD0.o.keeps
 go_ret
 rw[←HQ.o]
 refine⟨rfl,_,HD0.o.blk,?_,hkf⟩
 exact PkGot.of HD0.o.one
 ):p:=h
theorem discDec4_c (w:World) (g xb o c n rem:Nat) (xs:List UInt8) (qs:Int) (dup ret:Bool) (D:DSt w g xb o c n xs (dz 14 qs dup ret 4 rem) w) (hxs:xs=[]):
 Calls prog 76 #[.pointer (some ⟨g,0,none⟩),.slice (some ⟨xb,o,none⟩) n c] w (DOut w g xb ({zp 14 4 [] with qos:=qs,dup:=dup,retain:=ret})):=by
 have d0:xs.drop 0=[]:=hxs
 have hcap:=D.cap
 have hxl:=D.len
 have hn:=D.hn
 have HD0:=hH D
 clear D hxs
 have HX0:=hH d0
 clear d0
 obtain⟨q,hq⟩:∃q,({zp 14 4 [] with qos:=qs,dup:=dup,retain:=ret}:PkV)=q:=⟨_,rfl⟩
 rw[hq]
 have HQ:=hH hq
 have HNN:=hH hn
 clear hq hn
 have cw_103:=HD0.o.cl 103 (.int .u8 4)
 go_enter func76,ntmps76
 exact zU7
theorem zU8 {p:Prop} (h:p:=by
 have hkf:=HD5.o.keeps
 go_ret
 rw[←HQ.o]
 refine⟨rfl,_,HD5.o.blk,?_,hkf⟩
 exact PkGot.of HD5.o.one (st:=HSR1.o)
 ):p:=h
theorem zU0 {p:Prop} (h:p:=by
 rintro e w4 ⟨rfl,f1,D,hfar,hst,kk2⟩
 have hf1:=hH hfar
 have HST1:=hH hst
 have HD4:=hH D
 clear D hfar hst kk2
 refine hK.out _ _ (hS HD4.o ((hf1.o 93 (by omega) (by omega)).trans (rfl))) (fun hHeld=>?_)
 clear hK K
 simp only[setN,Act.put,s1,s2,s3]
 repeat((first|refine tkx ?_|refine tku ?_);simp only[setN,Act.put,s1,s2,s3])
 refine tkDone (by kernel_rfl) ?_
 clear hHeld hS
 have cw4_88:=HD4.o.cell 88
 have fw4_88:=HD4.o.frozen 88
 by_cases hcc:c=k2
 ·have hcx:=hcc
  go_wp2_with fail
  have HSR1:=hH ((HST1.o.put (i:=88) (v:=.slice (some ⟨xb,o,none⟩) (n-k2) 0) HD4.o.ne HD4.o.hg (by omega) (by omega)))
  have HD5:=hH ((HD4.o.set 88 (.slice (some ⟨xb,o,none⟩) (n-k2) 0)))
  generalize (w4).setCell ⟨g,88,none⟩ (.slice (some ⟨xb,o,none⟩) (n-k2) 0)=w5 at*
  have hly:(codeB cds).length=n-k2:=by have h1:=congrArg List.length HX2.o;have h2:=HNN.o;simp only[List.length_drop] at h1;omega
  have hy0:codeB cds=[]:=List.eq_nil_of_length_eq_zero (by omega)
  exact zU8
 ·have hcx:=hcc
  go_wp2_with fail
  have HSR1:=hH ((HST1.o.put (i:=88) (v:=.slice (some ⟨xb,o+k2,none⟩) (n-k2) (c-k2)) HD4.o.ne HD4.o.hg (by omega) (by omega)))
  have HD5:=hH ((HD4.o.set 88 (.slice (some ⟨xb,o+k2,none⟩) (n-k2) (c-k2))))
  generalize (w4).setCell ⟨g,88,none⟩ (.slice (some ⟨xb,o+k2,none⟩) (n-k2) (c-k2))=w5 at*
  have hly:(codeB cds).length=n-k2:=by have h1:=congrArg List.length HX2.o;have h2:=HNN.o;simp only[List.length_drop] at h1;omega
  have hkf:=HD5.o.keeps
  go_ret
  rw[←HQ.o]
  refine⟨rfl,_,HD5.o.blk,?_,hkf⟩
  exact PkGot.of HD5.o.one (st:=HSR1.o) (codes:=⟨_,_,congrArg (fun m=>Value.slice _ m _) hly.symm,rb_rd (rb_sub (ys:=codeB cds) (rest:=[]) HD5.o.rb (by rw[List.append_nil];exact HX2.o)),fun a ha=>by injection ha with ha;subst ha;rfl⟩)
 ):p:=h
theorem subackDec5_c (w:World) (g xb o c n rem:Nat) (xs:List UInt8) (qs:Int) (dup ret:Bool) (id:Nat) (l:List PropV) (cds:List Int) (D:DSt w g xb o c n xs (dz 9 qs dup ret 5 rem) w) (hxs:xs=be2 id++(encPL l++(codeB cds))) (hid:id<65536) (hP:ProperL 9 l) (hcl:cds.length≤1000):
 Calls prog 71 #[.pointer (some ⟨g,0,none⟩),.slice (some ⟨xb,o,none⟩) n c] w (DOut w g xb ({zp 9 5 l with qos:=qs,dup:=dup,retain:=ret,id:=(id:Int),codes:=cds})):=by
 have d0:xs.drop 0=be2 id++(encPL l++(codeB cds)):=hxs
 have hcap:=D.cap
 have hxl:=D.len
 have hn:=D.hn
 have HD0:=hH D
 clear D hxs
 obtain⟨k1,e1,d1,l1⟩:=pos_step (2) d0 (rfl) (by omega) hn
 obtain⟨k2,e2,d2,l2⟩:=pos_step ((encPL l).length) d1 (rfl) (encPL_pos _) hn
 have HX0:=hH d0
 have HX1:=hH d1
 have HX2:=hH d2
 have HE1:=hH e1
 have HE2:=hH e2
 clear d0 d1 d2 e1 e2
 obtain⟨q,hq⟩:∃q,({zp 9 5 l with qos:=qs,dup:=dup,retain:=ret,id:=(id:Int),codes:=cds}:PkV)=q:=⟨_,rfl⟩
 rw[hq]
 have HQ:=hH hq
 have HNN:=hH hn
 clear hq hn
 have HP:=hH hP
 clear hP
 have HCL:Hd ((codeB cds).length≤1000):=by show _≤_;simpa [codeB] using hcl
 clear hcl
 go_enter func71,ntmps71
 go_wp2_with fail
 go_fit (HD0.o.word id HX0.o HE1.o hid)
 rintro e w1 ⟨rfl,D,kk⟩
 have HD1:=hH D
 clear D kk
 have cw1_102:=HD1.o.cell 102
 have fw1_102:=HD1.o.frozen 102
 have cw1_103:=HD1.o.cl 103 (.int .u8 5)
 go_wp2_with fail
 have HD2:=hH ((HD1.o.set 102 (.int .u16 (id:Int))))
 generalize (w1).setCell ⟨g,102,none⟩ (.int .u16 (id:Int))=w2 at*
 have hS:∀{f:Nat→Value} {w':World},DSt w g xb o c n xs f w'→f 93=.int .u8 9→w'.cell? ⟨g,93,none⟩=some (.int .u8 9):=fun D h=>by rw[D.cell 93,h]
 have hln:k1<n:=by have h1:=drop_le HX1.o (encPL_pos _);have h2:=encPL_pos (l);have:=HNN.o;omega
 have hnc:¬c=k1:=by omega
 obtain⟨pm,hpm⟩:∃m,(encPL (l)).length=m:=⟨_,rfl⟩
 have HPM:=hH hpm
 have hka:(k1:Int)+(pm:Int)=(k2:Int):=by have:=HE2.o;omega
 clear hpm
 refine tkStart (S:=fun w'=>w'.cell? ⟨g,93,none⟩=some (.int .u8 9)) (by kernel_rfl) (hS (HD2.o.keep (Keeps.drew w2)) (rfl)) (fun hHeld=>?_)
 simp only[s4,s5,Nat.reduceAdd,s6,s7]
 repeat((first|refine tkx ?_|refine tku ?_);simp only[setN,Act.put,s1,s2,s3])
 refine tkc fun K hK=>?_
 go_simp
 refine(DSt.newbuf (HD2.o.keep (Keeps.drew w2)) l1 HX1.o).mono ?_
 rintro e w3 ⟨bb,rfl,rb,hbb,D,kk1⟩
 have HRB:=hH rb
 have HD3:=hH D
 have HK1:=hH kk1
 clear D rb kk1
 refine hK.out _ _ (hS HD3.o (rfl)) (fun hHeld=>?_)
 clear hK K
 simp only[setN,Act.put,s1,s2,s3]
 repeat((first|refine tkx ?_|refine tku ?_);simp only[setN,Act.put,s1,s2,s3])
 refine tkc fun K hK=>?_
 go_simp
 refine(DSt.props HD3.o 50 9 HP.o (by omega) (pz (.inl rfl) (fun j h1 h2=>by simp only[dz,upd];repeat rw[if_neg (by omega)])) HRB.o (Nat.le_trans HD2.o.keeps.size hbb) (by have:=HCL.o;simp;omega) (pk:=9) (by rfl) HPM.o).mono ?_
 exact zU0
theorem subackDec4_c (w:World) (g xb o c n rem:Nat) (xs:List UInt8) (qs:Int) (dup ret:Bool) (id:Nat) (cds:List Int) (D:DSt w g xb o c n xs (dz 9 qs dup ret 4 rem) w) (hxs:xs=be2 id++(codeB cds)) (hid:id<65536) (hcl:cds.length≤1000):
 Calls prog 71 #[.pointer (some ⟨g,0,none⟩),.slice (some ⟨xb,o,none⟩) n c] w (DOut w g xb ({zp 9 4 [] with qos:=qs,dup:=dup,retain:=ret,id:=(id:Int),codes:=cds})):=by
 have d0:xs.drop 0=be2 id++(codeB cds):=hxs
 have hcap:=D.cap
 have hxl:=D.len
 have hn:=D.hn
 have HD0:=hH D
 clear D hxs
 obtain⟨k1,e1,d1,l1⟩:=pos_step (2) d0 (rfl) (by omega) hn
 have HX0:=hH d0
 have HX1:=hH d1
 have HE1:=hH e1
 clear d0 d1 e1
 obtain⟨q,hq⟩:∃q,({zp 9 4 [] with qos:=qs,dup:=dup,retain:=ret,id:=(id:Int),codes:=cds}:PkV)=q:=⟨_,rfl⟩
 rw[hq]
 have HQ:=hH hq
 have HNN:=hH hn
 clear hq hn
 have HCL:Hd ((codeB cds).length≤1000):=by show _≤_;simpa [codeB] using hcl
 clear hcl
 go_enter func71,ntmps71
 go_wp2_with fail
 go_fit (HD0.o.word id HX0.o HE1.o hid)
 rintro e w1 ⟨rfl,D,kk⟩
 have HD1:=hH D
 clear D kk
 have cw1_102:=HD1.o.cell 102
 have fw1_102:=HD1.o.frozen 102
 have cw1_103:=HD1.o.cl 103 (.int .u8 4)
 have cw1_88:=HD1.o.cell 88
 have fw1_88:=HD1.o.frozen 88
 by_cases hcc:c=k1
 ·have hcx:=hcc
  go_wp2_with fail
  have HD2:=hH (((HD1.o.set 102 (.int .u16 (id:Int))).set 88 (.slice (some ⟨xb,o,none⟩) (n-k1) 0)))
  generalize ((w1).setCell ⟨g,102,none⟩ (.int .u16 (id:Int))).setCell ⟨g,88,none⟩ (.slice (some ⟨xb,o,none⟩) (n-k1) 0)=w2 at*
  have hly:(codeB cds).length=n-k1:=by have h1:=congrArg List.length HX1.o;have h2:=HNN.o;simp only[List.length_drop] at h1;omega
  have hy0:codeB cds=[]:=List.eq_nil_of_length_eq_zero (by omega)
  exact zU3
 ·have hcx:=hcc
  go_wp2_with fail
  have HD2:=hH (((HD1.o.set 102 (.int .u16 (id:Int))).set 88 (.slice (some ⟨xb,o+k1,none⟩) (n-k1) (c-k1))))
  generalize ((w1).setCell ⟨g,102,none⟩ (.int .u16 (id:Int))).setCell ⟨g,88,none⟩ (.slice (some ⟨xb,o+k1,none⟩) (n-k1) (c-k1))=w2 at*
  have hly:(codeB cds).length=n-k1:=by have h1:=congrArg List.length HX1.o;have h2:=HNN.o;simp only[List.length_drop] at h1;omega
  have hkf:=HD2.o.keeps
  go_ret
  rw[←HQ.o]
  refine⟨rfl,_,HD2.o.blk,?_,hkf⟩
  exact PkGot.of HD2.o.one (codes:=⟨_,_,congrArg (fun m=>Value.slice _ m _) hly.symm,rb_rd (rb_sub (ys:=codeB cds) (rest:=[]) HD2.o.rb (by rw[List.append_nil];exact HX1.o)),fun a ha=>by injection ha with ha;subst ha;rfl⟩)
theorem unsubackDec5_c (w:World) (g xb o c n rem:Nat) (xs:List UInt8) (qs:Int) (dup ret:Bool) (id:Nat) (l:List PropV) (cds:List Int) (D:DSt w g xb o c n xs (dz 11 qs dup ret 5 rem) w) (hxs:xs=be2 id++(encPL l++(codeB cds))) (hid:id<65536) (hP:ProperL 11 l) (hcl:cds.length≤1000):
 Calls prog 73 #[.pointer (some ⟨g,0,none⟩),.slice (some ⟨xb,o,none⟩) n c] w (DOut w g xb ({zp 11 5 l with qos:=qs,dup:=dup,retain:=ret,id:=(id:Int),codes:=cds})):=by
 have d0:xs.drop 0=be2 id++(encPL l++(codeB cds)):=hxs
 have hcap:=D.cap
 have hxl:=D.len
 have hn:=D.hn
 have HD0:=hH D
 clear D hxs
 obtain⟨k1,e1,d1,l1⟩:=pos_step (2) d0 (rfl) (by omega) hn
 obtain⟨k2,e2,d2,l2⟩:=pos_step ((encPL l).length) d1 (rfl) (encPL_pos _) hn
 have HX0:=hH d0
 have HX1:=hH d1
 have HX2:=hH d2
 have HE1:=hH e1
 have HE2:=hH e2
 clear d0 d1 d2 e1 e2
 obtain⟨q,hq⟩:∃q,({zp 11 5 l with qos:=qs,dup:=dup,retain:=ret,id:=(id:Int),codes:=cds}:PkV)=q:=⟨_,rfl⟩
 rw[hq]
 have HQ:=hH hq
 have HNN:=hH hn
 clear hq hn
 have HP:=hH hP
 clear hP
 have HCL:Hd ((codeB cds).length≤1000):=by show _≤_;simpa [codeB] using hcl
 clear hcl
 go_enter func73,ntmps73
 go_wp2_with fail
 go_fit (HD0.o.word id HX0.o HE1.o hid)
 rintro e w1 ⟨rfl,D,kk⟩
 have HD1:=hH D
 clear D kk
 have cw1_102:=HD1.o.cell 102
 have fw1_102:=HD1.o.frozen 102
 have cw1_103:=HD1.o.cl 103 (.int .u8 5)
 go_wp2_with fail
 have HD2:=hH ((HD1.o.set 102 (.int .u16 (id:Int))))
 generalize (w1).setCell ⟨g,102,none⟩ (.int .u16 (id:Int))=w2 at*
 have hS:∀{f:Nat→Value} {w':World},DSt w g xb o c n xs f w'→f 93=.int .u8 11→w'.cell? ⟨g,93,none⟩=some (.int .u8 11):=fun D h=>by rw[D.cell 93,h]
 have hln:k1<n:=by have h1:=drop_le HX1.o (encPL_pos _);have h2:=encPL_pos (l);have:=HNN.o;omega
 have hnc:¬c=k1:=by omega
 obtain⟨pm,hpm⟩:∃m,(encPL (l)).length=m:=⟨_,rfl⟩
 have HPM:=hH hpm
 have hka:(k1:Int)+(pm:Int)=(k2:Int):=by have:=HE2.o;omega
 clear hpm
 refine tkStart (S:=fun w'=>w'.cell? ⟨g,93,none⟩=some (.int .u8 11)) (by kernel_rfl) (hS (HD2.o.keep (Keeps.drew w2)) (rfl)) (fun hHeld=>?_)
 simp only[s4,s5,Nat.reduceAdd,s6,s7]
 repeat((first|refine tkx ?_|refine tku ?_);simp only[setN,Act.put,s1,s2,s3])
 refine tkc fun K hK=>?_
 go_simp
 refine(DSt.newbuf (HD2.o.keep (Keeps.drew w2)) l1 HX1.o).mono ?_
 rintro e w3 ⟨bb,rfl,rb,hbb,D,kk1⟩
 have HRB:=hH rb
 have HD3:=hH D
 have HK1:=hH kk1
 clear D rb kk1
 refine hK.out _ _ (hS HD3.o (rfl)) (fun hHeld=>?_)
 clear hK K
 simp only[setN,Act.put,s1,s2,s3]
 repeat((first|refine tkx ?_|refine tku ?_);simp only[setN,Act.put,s1,s2,s3])
 refine tkc fun K hK=>?_
 go_simp
 refine(DSt.props HD3.o 50 11 HP.o (by omega) (pz (.inl rfl) (fun j h1 h2=>by simp only[dz,upd];repeat rw[if_neg (by omega)])) HRB.o (Nat.le_trans HD2.o.keeps.size hbb) (by have:=HCL.o;simp;omega) (pk:=11) (by rfl) HPM.o).mono ?_
 exact zU0
theorem zU5 {p:Prop} (h:p:=by
 go_wp2_with fail
 have HD2:=hH ((HD1.o.set 102 (.int .u16 (id:Int))))
 generalize (w1).setCell ⟨g,102,none⟩ (.int .u16 (id:Int))=w2 at*
 exact zU3
 ):p:=h
theorem unsubackDec4_c (w:World) (g xb o c n rem:Nat) (xs:List UInt8) (qs:Int) (dup ret:Bool) (id:Nat) (D:DSt w g xb o c n xs (dz 11 qs dup ret 4 rem) w) (hxs:xs=be2 id++([])) (hid:id<65536):
 Calls prog 73 #[.pointer (some ⟨g,0,none⟩),.slice (some ⟨xb,o,none⟩) n c] w (DOut w g xb ({zp 11 4 [] with qos:=qs,dup:=dup,retain:=ret,id:=(id:Int)})):=by
 have d0:xs.drop 0=be2 id++([]):=hxs
 have hcap:=D.cap
 have hxl:=D.len
 have hn:=D.hn
 have HD0:=hH D
 clear D hxs
 obtain⟨k1,e1,d1,l1⟩:=pos_step (2) d0 (rfl) (by omega) hn
 have HX0:=hH d0
 have HX1:=hH d1
 have HE1:=hH e1
 clear d0 d1 e1
 obtain⟨q,hq⟩:∃q,({zp 11 4 [] with qos:=qs,dup:=dup,retain:=ret,id:=(id:Int)}:PkV)=q:=⟨_,rfl⟩
 rw[hq]
 have HQ:=hH hq
 have HNN:=hH hn
 clear hq hn
 go_enter func73,ntmps73
 go_wp2_with fail
 go_fit (HD0.o.word id HX0.o HE1.o hid)
 rintro e w1 ⟨rfl,D,kk⟩
 have HD1:=hH D
 clear D kk
 have cw1_102:=HD1.o.cell 102
 have fw1_102:=HD1.o.frozen 102
 have cw1_103:=HD1.o.cl 103 (.int .u8 4)
 exact zU5
theorem pubackDec_n_c (w:World) (g xb o c n rem:Nat) (xs:List UInt8) (qs:Int) (dup ret:Bool) (t:Int) (id:Nat) (ver:Int) (D:DSt w g xb o c n xs (dz t qs dup ret ver rem) w) (hxs:xs=be2 id++([])) (hid:id<65536) (hrem:rem=2):
 Calls prog 97 #[.pointer (some ⟨g,0,none⟩),.slice (some ⟨xb,o,none⟩) n c] w (DOut w g xb ({zp t ver [] with qos:=qs,dup:=dup,retain:=ret,id:=(id:Int)})):=by
 have d0:xs.drop 0=be2 id++([]):=hxs
 have hcap:=D.cap
 have hxl:=D.len
 have hn:=D.hn
 have HD0:=hH D
 clear D hxs
 obtain⟨k1,e1,d1,l1⟩:=pos_step (2) d0 (rfl) (by omega) hn
 have HX0:=hH d0
 have HX1:=hH d1
 have HE1:=hH e1
 clear d0 d1 e1
 obtain⟨q,hq⟩:∃q,({zp t ver [] with qos:=qs,dup:=dup,retain:=ret,id:=(id:Int)}:PkV)=q:=⟨_,rfl⟩
 rw[hq]
 have HQ:=hH hq
 have HNN:=hH hn
 clear hq hn
 subst hrem
 go_enter func97,ntmps97
 go_wp2_with fail
 go_fit (HD0.o.word id HX0.o HE1.o hid)
 rintro e w1 ⟨rfl,D,kk⟩
 have HD1:=hH D
 clear D kk
 have cw1_102:=HD1.o.cell 102
 have fw1_102:=HD1.o.frozen 102
 have cw1_103:=HD1.o.cl 103 (.int .u8 ver)
 have cw1_92:=HD1.o.cl 92 (.int .i64 2)
 by_cases hv:ver=5
 ·subst hv
  exact zU5
 ·have hv1:(ver==5)=false:=by rw[beq_eq_false_iff_ne];exact hv
  exact zU5
theorem pubackDec_c_c (w:World) (g xb o c n rem:Nat) (xs:List UInt8) (qs:Int) (dup ret:Bool) (t:Int) (id:Nat) (code:UInt8) (D:DSt w g xb o c n xs (dz t qs dup ret 5 rem) w) (hxs:xs=be2 id++([code]++([]))) (hid:id<65536) (hrem:rem=3):
 Calls prog 97 #[.pointer (some ⟨g,0,none⟩),.slice (some ⟨xb,o,none⟩) n c] w (DOut w g xb ({zp t 5 [] with qos:=qs,dup:=dup,retain:=ret,id:=(id:Int),code:=(code.toNat:Int)})):=by
 have d0:xs.drop 0=be2 id++([code]++([])):=hxs
 have hcap:=D.cap
 have hxl:=D.len
 have hn:=D.hn
 have HD0:=hH D
 clear D hxs
 obtain⟨k1,e1,d1,l1⟩:=pos_step (2) d0 (rfl) (by omega) hn
 obtain⟨k2,e2,d2,l2⟩:=pos_step (1) d1 (rfl) (by omega) hn
 have HX0:=hH d0
 have HX1:=hH d1
 have HX2:=hH d2
 have HE1:=hH e1
 have HE2:=hH e2
 clear d0 d1 d2 e1 e2
 obtain⟨q,hq⟩:∃q,({zp t 5 [] with qos:=qs,dup:=dup,retain:=ret,id:=(id:Int),code:=(code.toNat:Int)}:PkV)=q:=⟨_,rfl⟩
 rw[hq]
 have HQ:=hH hq
 have HNN:=hH hn
 clear hq hn
 subst hrem
 go_enter func97,ntmps97
 go_wp2_with fail
 go_fit (HD0.o.word id HX0.o HE1.o hid)
 rintro e w1 ⟨rfl,D,kk⟩
 have HD1:=hH D
 clear D kk
 have cw1_102:=HD1.o.cell 102
 have fw1_102:=HD1.o.frozen 102
 have cw1_103:=HD1.o.cl 103 (.int .u8 5)
 have cw1_92:=HD1.o.cl 92 (.int .i64 3)
 go_wp2_with fail
 have HD2:=hH ((HD1.o.set 102 (.int .u16 (id:Int))))
 generalize (w1).setCell ⟨g,102,none⟩ (.int .u16 (id:Int))=w2 at*
 go_fit (HD2.o.byte code HX1.o HE2.o)
 rintro e w3 ⟨rfl,D,kk⟩
 have HD3:=hH D
 clear D kk
 have cw3_105:=HD3.o.cell 105
 have fw3_105:=HD3.o.frozen 105
 have cw3_92:=HD3.o.cl 92 (.int .i64 3)
 exact zU6
theorem pubackDec_p_c (w:World) (g xb o c n rem:Nat) (xs:List UInt8) (qs:Int) (dup ret:Bool) (t:Int) (id:Nat) (code:UInt8) (l:List PropV) (D:DSt w g xb o c n xs (dz t qs dup ret 5 rem) w) (hxs:xs=be2 id++([code]++(encPL l++([])))) (hid:id<65536) (hrem:rem=n) (hP:ProperL t l) (ht:t<16) (hl0:l≠[]):
 Calls prog 97 #[.pointer (some ⟨g,0,none⟩),.slice (some ⟨xb,o,none⟩) n c] w (DOut w g xb ({zp t 5 l with qos:=qs,dup:=dup,retain:=ret,id:=(id:Int),code:=(code.toNat:Int)})):=by
 have d0:xs.drop 0=be2 id++([code]++(encPL l++([]))):=hxs
 have hcap:=D.cap
 have hxl:=D.len
 have hn:=D.hn
 have HD0:=hH D
 clear D hxs
 obtain⟨k1,e1,d1,l1⟩:=pos_step (2) d0 (rfl) (by omega) hn
 obtain⟨k2,e2,d2,l2⟩:=pos_step (1) d1 (rfl) (by omega) hn
 obtain⟨k3,e3,d3,l3⟩:=pos_step ((encPL l).length) d2 (rfl) (encPL_pos _) hn
 have HX0:=hH d0
 have HX1:=hH d1
 have HX2:=hH d2
 have HX3:=hH d3
 have HE1:=hH e1
 have HE2:=hH e2
 have HE3:=hH e3
 clear d0 d1 d2 d3 e1 e2 e3
 obtain⟨q,hq⟩:∃q,({zp t 5 l with qos:=qs,dup:=dup,retain:=ret,id:=(id:Int),code:=(code.toNat:Int)}:PkV)=q:=⟨_,rfl⟩
 rw[hq]
 have HQ:=hH hq
 have HNN:=hH hn
 clear hq hn
 have HP:=hH hP
 clear hP
 have hr3:(3:Int)<(rem:Int):=by have:=HE1.o;have:=HE2.o;have:=HE3.o;have h:=encPL_two hl0;have:=l3;omega
 have hr2:(2:Int)<(rem:Int):=by omega
 have hpk:pktOf t=t:=by unfold pktOf;rw[if_neg (by omega)]
 go_enter func97,ntmps97
 go_wp2_with fail
 go_fit (HD0.o.word id HX0.o HE1.o hid)
 rintro e w1 ⟨rfl,D,kk⟩
 have HD1:=hH D
 clear D kk
 have cw1_102:=HD1.o.cell 102
 have fw1_102:=HD1.o.frozen 102
 have cw1_103:=HD1.o.cl 103 (.int .u8 5)
 have cw1_92:=HD1.o.cl 92 (.int .i64 (rem:Int))
 go_wp2_with fail
 have HD2:=hH ((HD1.o.set 102 (.int .u16 (id:Int))))
 generalize (w1).setCell ⟨g,102,none⟩ (.int .u16 (id:Int))=w2 at*
 go_fit (HD2.o.byte code HX1.o HE2.o)
 rintro e w3 ⟨rfl,D,kk⟩
 have HD3:=hH D
 clear D kk
 have cw3_105:=HD3.o.cell 105
 have fw3_105:=HD3.o.frozen 105
 have cw3_92:=HD3.o.cl 92 (.int .i64 (rem:Int))
 go_wp2_with fail
 have HD4:=hH ((HD3.o.set 105 (.int .u8 (code.toNat:Int))))
 generalize (w3).setCell ⟨g,105,none⟩ (.int .u8 (code.toNat:Int))=w4 at*
 have hS:∀{f:Nat→Value} {w':World},DSt w g xb o c n xs f w'→f 93=.int .u8 t→w'.cell? ⟨g,93,none⟩=some (.int .u8 t):=fun D h=>by rw[D.cell 93,h]
 have hln:k2<n:=by have h1:=drop_le HX2.o (encPL_pos _);have h2:=encPL_pos (l);have:=HNN.o;omega
 have hnc:¬c=k2:=by omega
 obtain⟨pm,hpm⟩:∃m,(encPL (l)).length=m:=⟨_,rfl⟩
 have HPM:=hH hpm
 have hka:(k2:Int)+(pm:Int)=(k3:Int):=by have:=HE3.o;omega
 clear hpm
 refine tkStart (S:=fun w'=>w'.cell? ⟨g,93,none⟩=some (.int .u8 t)) (by kernel_rfl) (hS (HD4.o.keep (Keeps.drew w4)) (rfl)) (fun hHeld=>?_)
 simp only[s4,s5,Nat.reduceAdd,s6,s7]
 repeat((first|refine tkx ?_|refine tku ?_);simp only[setN,Act.put,s1,s2,s3])
 refine tkc fun K hK=>?_
 go_simp
 refine(DSt.newbuf (HD4.o.keep (Keeps.drew w4)) l2 HX2.o).mono ?_
 rintro e w5 ⟨bb,rfl,rb,hbb,D,kk1⟩
 have HRB:=hH rb
 have HD5:=hH D
 have HK1:=hH kk1
 clear D rb kk1
 refine hK.out _ _ (hS HD5.o (rfl)) (fun hHeld=>?_)
 clear hK K
 simp only[setN,Act.put,s1,s2,s3]
 repeat((first|refine tkx ?_|refine tku ?_);simp only[setN,Act.put,s1,s2,s3])
 refine tkc fun K hK=>?_
 go_simp
 refine(DSt.props HD5.o 50 t HP.o (by omega) (pz (.inl rfl) (fun j h1 h2=>by simp only[dz,upd];repeat rw[if_neg (by omega)])) HRB.o (Nat.le_trans HD4.o.keeps.size hbb) (by simp) (pk:=t) (hpk) HPM.o).mono ?_
 exact zU2
theorem zU4 {p:Prop} (h:p:=by
 go_wp2_with fail
 go_fit (H.o)
 rintro e w1 ⟨rfl,hq⟩
 have HQ:=hH hq
 clear hq
 go_wp2_with fail
 exact HQ.o
 ):p:=h
theorem pubackDec_w (w:World) (g:Nat) (v:Value) (Q:Ending→World→Prop) (h:Calls prog 97 #[.pointer (some ⟨g,0,none⟩),v] w fun e w'=>e=.returned .nilIface∧Q (.returned .nilIface) w'):Calls prog 66 #[.pointer (some ⟨g,0,none⟩),v] w Q:=by
 have H:=hH h
 clear h
 go_enter func66,ntmps66
 exact zU4
theorem pubrecDec_w (w:World) (g:Nat) (v:Value) (Q:Ending→World→Prop) (h:Calls prog 97 #[.pointer (some ⟨g,0,none⟩),v] w fun e w'=>e=.returned .nilIface∧Q (.returned .nilIface) w'):Calls prog 67 #[.pointer (some ⟨g,0,none⟩),v] w Q:=by
 have H:=hH h
 clear h
 go_enter func67,ntmps67
 exact zU4
theorem pubrelDec_w (w:World) (g:Nat) (v:Value) (Q:Ending→World→Prop) (h:Calls prog 97 #[.pointer (some ⟨g,0,none⟩),v] w fun e w'=>e=.returned .nilIface∧Q (.returned .nilIface) w'):Calls prog 68 #[.pointer (some ⟨g,0,none⟩),v] w Q:=by
 have H:=hH h
 clear h
 go_enter func68,ntmps68
 exact zU4
theorem pubcompDec_w (w:World) (g:Nat) (v:Value) (Q:Ending→World→Prop) (h:Calls prog 97 #[.pointer (some ⟨g,0,none⟩),v] w fun e w'=>e=.returned .nilIface∧Q (.returned .nilIface) w'):Calls prog 69 #[.pointer (some ⟨g,0,none⟩),v] w Q:=by
 have H:=hH h
 clear h
 go_enter func69,ntmps69
 exact zU4
theorem publishDec4_0_c (w:World) (g xb o c n rem:Nat) (xs:List UInt8) (qs:Int) (dup ret:Bool) (t:ByteArray) (pay:List UInt8) (D:DSt w g xb o c n xs (dz 3 qs dup ret 4 rem) w) (hxs:xs=lp t.data.toList++(pay)) (ht:TextOK t) (hq0:qs=0) (hpl:pay.length≤1000):
 Calls prog 65 #[.pointer (some ⟨g,0,none⟩),.slice (some ⟨xb,o,none⟩) n c] w (DOut w g xb ({zp 3 4 [] with qos:=qs,dup:=dup,retain:=ret,topic:=t,payload:=pay})):=by
 have d0:xs.drop 0=lp t.data.toList++(pay):=hxs
 have hcap:=D.cap
 have hxl:=D.len
 have hn:=D.hn
 have HD0:=hH D
 clear D hxs
 obtain⟨k1,e1,d1,l1⟩:=pos_step (2+t.size) d0 (by simp[lp_length]) (by omega) hn
 have HX0:=hH d0
 have HX1:=hH d1
 have HE1:=hH e1
 clear d0 d1 e1
 obtain⟨q,hq⟩:∃q,({zp 3 4 [] with qos:=qs,dup:=dup,retain:=ret,topic:=t,payload:=pay}:PkV)=q:=⟨_,rfl⟩
 rw[hq]
 have HQ:=hH hq
 have HNN:=hH hn
 clear hq hn
 subst hq0
 have HPY:Hd (pay.length≤1000):=hpl
 have HT:=hH ht
 clear hpl ht
 go_enter func65,ntmps65
 go_wp2_with fail
 go_fit (HD0.o.text t HX0.o HE1.o HT.o)
 rintro e w1 ⟨rfl,D,kk⟩
 have HD1:=hH D
 clear D kk
 have cw1_90:=HD1.o.cell 90
 have fw1_90:=HD1.o.frozen 90
 have cw1_94:=HD1.o.cl 94 (.int .u8 0)
 have cw1_103:=HD1.o.cl 103 (.int .u8 4)
 have cw1_87:=HD1.o.cell 87
 have fw1_87:=HD1.o.frozen 87
 by_cases hcc:c=k1
 ·have hcx:=hcc
  go_wp2_with fail
  have HD2:=hH (((HD1.o.set 90 (.string t)).set 87 (.slice (some ⟨xb,o,none⟩) (n-k1) 0)))
  generalize ((w1).setCell ⟨g,90,none⟩ (.string t)).setCell ⟨g,87,none⟩ (.slice (some ⟨xb,o,none⟩) (n-k1) 0)=w2 at*
  have hly:(pay).length=n-k1:=by have h1:=congrArg List.length HX1.o;have h2:=HNN.o;simp only[List.length_drop] at h1;omega
  have hy0:pay=[]:=List.eq_nil_of_length_eq_zero (by omega)
  exact zU3
 ·have hcx:=hcc
  go_wp2_with fail
  have HD2:=hH (((HD1.o.set 90 (.string t)).set 87 (.slice (some ⟨xb,o+k1,none⟩) (n-k1) (c-k1))))
  generalize ((w1).setCell ⟨g,90,none⟩ (.string t)).setCell ⟨g,87,none⟩ (.slice (some ⟨xb,o+k1,none⟩) (n-k1) (c-k1))=w2 at*
  have hly:(pay).length=n-k1:=by have h1:=congrArg List.length HX1.o;have h2:=HNN.o;simp only[List.length_drop] at h1;omega
  have hkf:=HD2.o.keeps
  go_ret
  rw[←HQ.o]
  refine⟨rfl,_,HD2.o.blk,?_,hkf⟩
  exact PkGot.of HD2.o.one (e87:=⟨_,_,congrArg (fun m=>Value.slice _ m _) hly.symm,rb_rd (rb_sub (ys:=pay) (rest:=[]) HD2.o.rb (by rw[List.append_nil];exact HX1.o)),fun a ha=>by injection ha with ha;subst ha;rfl⟩)
theorem publishDec4_1_c (w:World) (g xb o c n rem:Nat) (xs:List UInt8) (qs:Int) (dup ret:Bool) (t:ByteArray) (id:Nat) (pay:List UInt8) (D:DSt w g xb o c n xs (dz 3 qs dup ret 4 rem) w) (hxs:xs=lp t.data.toList++(be2 id++(pay))) (ht:TextOK t) (hq0:0<qs) (hid:id<65536) (hpl:pay.length≤1000):
 Calls prog 65 #[.pointer (some ⟨g,0,none⟩),.slice (some ⟨xb,o,none⟩) n c] w (DOut w g xb ({zp 3 4 [] with qos:=qs,dup:=dup,retain:=ret,topic:=t,payload:=pay,id:=(id:Int)})):=by
 have d0:xs.drop 0=lp t.data.toList++(be2 id++(pay)):=hxs
 have hcap:=D.cap
 have hxl:=D.len
 have hn:=D.hn
 have HD0:=hH D
 clear D hxs
 obtain⟨k1,e1,d1,l1⟩:=pos_step (2+t.size) d0 (by simp[lp_length]) (by omega) hn
 obtain⟨k2,e2,d2,l2⟩:=pos_step (2) d1 (rfl) (by omega) hn
 have HX0:=hH d0
 have HX1:=hH d1
 have HX2:=hH d2
 have HE1:=hH e1
 have HE2:=hH e2
 clear d0 d1 d2 e1 e2
 obtain⟨q,hq⟩:∃q,({zp 3 4 [] with qos:=qs,dup:=dup,retain:=ret,topic:=t,payload:=pay,id:=(id:Int)}:PkV)=q:=⟨_,rfl⟩
 rw[hq]
 have HQ:=hH hq
 have HNN:=hH hn
 clear hq hn
 have HPY:Hd (pay.length≤1000):=hpl
 have HT:=hH ht
 clear hpl ht
 go_enter func65,ntmps65
 go_wp2_with fail
 go_fit (HD0.o.text t HX0.o HE1.o HT.o)
 rintro e w1 ⟨rfl,D,kk⟩
 have HD1:=hH D
 clear D kk
 have cw1_90:=HD1.o.cell 90
 have fw1_90:=HD1.o.frozen 90
 have cw1_94:=HD1.o.cl 94 (.int .u8 qs)
 have cw1_103:=HD1.o.cl 103 (.int .u8 4)
 go_wp2_with fail
 have HD2:=hH ((HD1.o.set 90 (.string t)))
 generalize (w1).setCell ⟨g,90,none⟩ (.string t)=w2 at*
 go_fit (HD2.o.word id HX1.o HE2.o hid)
 rintro e w3 ⟨rfl,D,kk⟩
 have HD3:=hH D
 clear D kk
 have cw3_102:=HD3.o.cell 102
 have fw3_102:=HD3.o.frozen 102
 have cw3_103:=HD3.o.cl 103 (.int .u8 4)
 have cw3_87:=HD3.o.cell 87
 have fw3_87:=HD3.o.frozen 87
 by_cases hcc:c=k2
 ·have hcx:=hcc
  go_wp2_with fail
  have HD4:=hH (((HD3.o.set 102 (.int .u16 (id:Int))).set 87 (.slice (some ⟨xb,o,none⟩) (n-k2) 0)))
  generalize ((w3).setCell ⟨g,102,none⟩ (.int .u16 (id:Int))).setCell ⟨g,87,none⟩ (.slice (some ⟨xb,o,none⟩) (n-k2) 0)=w4 at*
  have hly:(pay).length=n-k2:=by have h1:=congrArg List.length HX2.o;have h2:=HNN.o;simp only[List.length_drop] at h1;omega
  have hy0:pay=[]:=List.eq_nil_of_length_eq_zero (by omega)
  exact zU9
 ·have hcx:=hcc
  go_wp2_with fail
  have HD4:=hH (((HD3.o.set 102 (.int .u16 (id:Int))).set 87 (.slice (some ⟨xb,o+k2,none⟩) (n-k2) (c-k2))))
  generalize ((w3).setCell ⟨g,102,none⟩ (.int .u16 (id:Int))).setCell ⟨g,87,none⟩ (.slice (some ⟨xb,o+k2,none⟩) (n-k2) (c-k2))=w4 at*
  have hly:(pay).length=n-k2:=by have h1:=congrArg List.length HX2.o;have h2:=HNN.o;simp only[List.length_drop] at h1;omega
  have hkf:=HD4.o.keeps
  go_ret
  rw[←HQ.o]
  refine⟨rfl,_,HD4.o.blk,?_,hkf⟩
  exact PkGot.of HD4.o.one (e87:=⟨_,_,congrArg (fun m=>Value.slice _ m _) hly.symm,rb_rd (rb_sub (ys:=pay) (rest:=[]) HD4.o.rb (by rw[List.append_nil];exact HX2.o)),fun a ha=>by injection ha with ha;subst ha;rfl⟩)
theorem publishDec5_0_c (w:World) (g xb o c n rem:Nat) (xs:List UInt8) (qs:Int) (dup ret:Bool) (t:ByteArray) (l:List PropV) (pay:List UInt8) (D:DSt w g xb o c n xs (dz 3 qs dup ret 5 rem) w) (hxs:xs=lp t.data.toList++(encPL l++(pay))) (ht:TextOK t) (hq0:qs=0) (hP:ProperL 3 l) (hpl:pay.length≤1000):
 Calls prog 65 #[.pointer (some ⟨g,0,none⟩),.slice (some ⟨xb,o,none⟩) n c] w (DOut w g xb ({zp 3 5 l with qos:=qs,dup:=dup,retain:=ret,topic:=t,payload:=pay})):=by
 have d0:xs.drop 0=lp t.data.toList++(encPL l++(pay)):=hxs
 have hcap:=D.cap
 have hxl:=D.len
 have hn:=D.hn
 have HD0:=hH D
 clear D hxs
 obtain⟨k1,e1,d1,l1⟩:=pos_step (2+t.size) d0 (by simp[lp_length]) (by omega) hn
 obtain⟨k2,e2,d2,l2⟩:=pos_step ((encPL l).length) d1 (rfl) (encPL_pos _) hn
 have HX0:=hH d0
 have HX1:=hH d1
 have HX2:=hH d2
 have HE1:=hH e1
 have HE2:=hH e2
 clear d0 d1 d2 e1 e2
 obtain⟨q,hq⟩:∃q,({zp 3 5 l with qos:=qs,dup:=dup,retain:=ret,topic:=t,payload:=pay}:PkV)=q:=⟨_,rfl⟩
 rw[hq]
 have HQ:=hH hq
 have HNN:=hH hn
 clear hq hn
 have HP:=hH hP
 clear hP
 subst hq0
 have HPY:Hd (pay.length≤1000):=hpl
 have HT:=hH ht
 clear hpl ht
 go_enter func65,ntmps65
 go_wp2_with fail
 go_fit (HD0.o.text t HX0.o HE1.o HT.o)
 rintro e w1 ⟨rfl,D,kk⟩
 have HD1:=hH D
 clear D kk
 have cw1_90:=HD1.o.cell 90
 have fw1_90:=HD1.o.frozen 90
 have cw1_94:=HD1.o.cl 94 (.int .u8 0)
 have cw1_103:=HD1.o.cl 103 (.int .u8 5)
 go_wp2_with fail
 have HD2:=hH ((HD1.o.set 90 (.string t)))
 generalize (w1).setCell ⟨g,90,none⟩ (.string t)=w2 at*
 have hS:∀{f:Nat→Value} {w':World},DSt w g xb o c n xs f w'→f 93=.int .u8 3→w'.cell? ⟨g,93,none⟩=some (.int .u8 3):=fun D h=>by rw[D.cell 93,h]
 have hln:k1<n:=by have h1:=drop_le HX1.o (encPL_pos _);have h2:=encPL_pos (l);have:=HNN.o;omega
 have hnc:¬c=k1:=by omega
 obtain⟨pm,hpm⟩:∃m,(encPL (l)).length=m:=⟨_,rfl⟩
 have HPM:=hH hpm
 have hka:(k1:Int)+(pm:Int)=(k2:Int):=by have:=HE2.o;omega
 clear hpm
 refine tkStart (S:=fun w'=>w'.cell? ⟨g,93,none⟩=some (.int .u8 3)) (by kernel_rfl) (hS (HD2.o.keep (Keeps.drew w2)) (rfl)) (fun hHeld=>?_)
 simp only[s4,s5,Nat.reduceAdd,s6,s7]
 repeat((first|refine tkx ?_|refine tku ?_);simp only[setN,Act.put,s1,s2,s3])
 refine tkc fun K hK=>?_
 go_simp
 refine(DSt.newbuf (HD2.o.keep (Keeps.drew w2)) l1 HX1.o).mono ?_
 rintro e w3 ⟨bb,rfl,rb,hbb,D,kk1⟩
 have HRB:=hH rb
 have HD3:=hH D
 have HK1:=hH kk1
 clear D rb kk1
 refine hK.out _ _ (hS HD3.o (rfl)) (fun hHeld=>?_)
 clear hK K
 simp only[setN,Act.put,s1,s2,s3]
 repeat((first|refine tkx ?_|refine tku ?_);simp only[setN,Act.put,s1,s2,s3])
 refine tkc fun K hK=>?_
 go_simp
 refine(DSt.props HD3.o 50 3 HP.o (by omega) (pz (.inl rfl) (fun j h1 h2=>by simp only[dz,upd];repeat rw[if_neg (by omega)])) HRB.o (Nat.le_trans HD2.o.keeps.size hbb) (by have:=HPY.o;omega) (pk:=3) (by rfl) HPM.o).mono ?_
 rintro e w4 ⟨rfl,f1,D,hfar,hst,kk2⟩
 have hf1:=hH hfar
 have HST1:=hH hst
 have HD4:=hH D
 clear D hfar hst kk2
 refine hK.out _ _ (hS HD4.o ((hf1.o 93 (by omega) (by omega)).trans (rfl))) (fun hHeld=>?_)
 clear hK K
 simp only[setN,Act.put,s1,s2,s3]
 repeat((first|refine tkx ?_|refine tku ?_);simp only[setN,Act.put,s1,s2,s3])
 refine tkDone (by kernel_rfl) ?_
 clear hHeld hS
 have cw4_87:=HD4.o.cell 87
 have fw4_87:=HD4.o.frozen 87
 by_cases hcc:c=k2
 ·have hcx:=hcc
  go_wp2_with fail
  have HSR1:=hH ((HST1.o.put (i:=87) (v:=.slice (some ⟨xb,o,none⟩) (n-k2) 0) HD4.o.ne HD4.o.hg (by omega) (by omega)))
  have HD5:=hH ((HD4.o.set 87 (.slice (some ⟨xb,o,none⟩) (n-k2) 0)))
  generalize (w4).setCell ⟨g,87,none⟩ (.slice (some ⟨xb,o,none⟩) (n-k2) 0)=w5 at*
  have hly:(pay).length=n-k2:=by have h1:=congrArg List.length HX2.o;have h2:=HNN.o;simp only[List.length_drop] at h1;omega
  have hy0:pay=[]:=List.eq_nil_of_length_eq_zero (by omega)
  exact zU8
 ·have hcx:=hcc
  go_wp2_with fail
  have HSR1:=hH ((HST1.o.put (i:=87) (v:=.slice (some ⟨xb,o+k2,none⟩) (n-k2) (c-k2)) HD4.o.ne HD4.o.hg (by omega) (by omega)))
  have HD5:=hH ((HD4.o.set 87 (.slice (some ⟨xb,o+k2,none⟩) (n-k2) (c-k2))))
  generalize (w4).setCell ⟨g,87,none⟩ (.slice (some ⟨xb,o+k2,none⟩) (n-k2) (c-k2))=w5 at*
  have hly:(pay).length=n-k2:=by have h1:=congrArg List.length HX2.o;have h2:=HNN.o;simp only[List.length_drop] at h1;omega
  have hkf:=HD5.o.keeps
  go_ret
  rw[←HQ.o]
  refine⟨rfl,_,HD5.o.blk,?_,hkf⟩
  exact PkGot.of HD5.o.one (st:=HSR1.o) (e87:=⟨_,_,congrArg (fun m=>Value.slice _ m _) hly.symm,rb_rd (rb_sub (ys:=pay) (rest:=[]) HD5.o.rb (by rw[List.append_nil];exact HX2.o)),fun a ha=>by injection ha with ha;subst ha;rfl⟩)
theorem publishDec5_1_c (w:World) (g xb o c n rem:Nat) (xs:List UInt8) (qs:Int) (dup ret:Bool) (t:ByteArray) (id:Nat) (l:List PropV) (pay:List UInt8) (D:DSt w g xb o c n xs (dz 3 qs dup ret 5 rem) w) (hxs:xs=lp t.data.toList++(be2 id++(encPL l++(pay)))) (ht:TextOK t) (hq0:0<qs) (hid:id<65536) (hP:ProperL 3 l) (hpl:pay.length≤1000):
 Calls prog 65 #[.pointer (some ⟨g,0,none⟩),.slice (some ⟨xb,o,none⟩) n c] w (DOut w g xb ({zp 3 5 l with qos:=qs,dup:=dup,retain:=ret,topic:=t,payload:=pay,id:=(id:Int)})):=by
 have d0:xs.drop 0=lp t.data.toList++(be2 id++(encPL l++(pay))):=hxs
 have hcap:=D.cap
 have hxl:=D.len
 have hn:=D.hn
 have HD0:=hH D
 clear D hxs
 obtain⟨k1,e1,d1,l1⟩:=pos_step (2+t.size) d0 (by simp[lp_length]) (by omega) hn
 obtain⟨k2,e2,d2,l2⟩:=pos_step (2) d1 (rfl) (by omega) hn
 obtain⟨k3,e3,d3,l3⟩:=pos_step ((encPL l).length) d2 (rfl) (encPL_pos _) hn
 have HX0:=hH d0
 have HX1:=hH d1
 have HX2:=hH d2
 have HX3:=hH d3
 have HE1:=hH e1
 have HE2:=hH e2
 have HE3:=hH e3
 clear d0 d1 d2 d3 e1 e2 e3
 obtain⟨q,hq⟩:∃q,({zp 3 5 l with qos:=qs,dup:=dup,retain:=ret,topic:=t,payload:=pay,id:=(id:Int)}:PkV)=q:=⟨_,rfl⟩
 rw[hq]
 have HQ:=hH hq
 have HNN:=hH hn
 clear hq hn
 have HP:=hH hP
 clear hP
 have HPY:Hd (pay.length≤1000):=hpl
 have HT:=hH ht
 clear hpl ht
 go_enter func65,ntmps65
 go_wp2_with fail
 go_fit (HD0.o.text t HX0.o HE1.o HT.o)
 rintro e w1 ⟨rfl,D,kk⟩
 have HD1:=hH D
 clear D kk
 have cw1_90:=HD1.o.cell 90
 have fw1_90:=HD1.o.frozen 90
 have cw1_94:=HD1.o.cl 94 (.int .u8 qs)
 have cw1_103:=HD1.o.cl 103 (.int .u8 5)
 go_wp2_with fail
 have HD2:=hH ((HD1.o.set 90 (.string t)))
 generalize (w1).setCell ⟨g,90,none⟩ (.string t)=w2 at*
 go_fit (HD2.o.word id HX1.o HE2.o hid)
 rintro e w3 ⟨rfl,D,kk⟩
 have HD3:=hH D
 clear D kk
 have cw3_102:=HD3.o.cell 102
 have fw3_102:=HD3.o.frozen 102
 have cw3_103:=HD3.o.cl 103 (.int .u8 5)
 go_wp2_with fail
 have HD4:=hH ((HD3.o.set 102 (.int .u16 (id:Int))))
 generalize (w3).setCell ⟨g,102,none⟩ (.int .u16 (id:Int))=w4 at*
 have hS:∀{f:Nat→Value} {w':World},DSt w g xb o c n xs f w'→f 93=.int .u8 3→w'.cell? ⟨g,93,none⟩=some (.int .u8 3):=fun D h=>by rw[D.cell 93,h]
 have hln:k2<n:=by have h1:=drop_le HX2.o (encPL_pos _);have h2:=encPL_pos (l);have:=HNN.o;omega
 have hnc:¬c=k2:=by omega
 obtain⟨pm,hpm⟩:∃m,(encPL (l)).length=m:=⟨_,rfl⟩
 have HPM:=hH hpm
 have hka:(k2:Int)+(pm:Int)=(k3:Int):=by have:=HE3.o;omega
 clear hpm
 refine tkStart (S:=fun w'=>w'.cell? ⟨g,93,none⟩=some (.int .u8 3)) (by kernel_rfl) (hS (HD4.o.keep (Keeps.drew w4)) (rfl)) (fun hHeld=>?_)
 simp only[s4,s5,Nat.reduceAdd,s6,s7]
 repeat((first|refine tkx ?_|refine tku ?_);simp only[setN,Act.put,s1,s2,s3])
 refine tkc fun K hK=>?_
 go_simp
 refine(DSt.newbuf (HD4.o.keep (Keeps.drew w4)) l2 HX2.o).mono ?_
 rintro e w5 ⟨bb,rfl,rb,hbb,D,kk1⟩
 have HRB:=hH rb
 have HD5:=hH D
 have HK1:=hH kk1
 clear D rb kk1
 refine hK.out _ _ (hS HD5.o (rfl)) (fun hHeld=>?_)
 clear hK K
 simp only[setN,Act.put,s1,s2,s3]
 repeat((first|refine tkx ?_|refine tku ?_);simp only[setN,Act.put,s1,s2,s3])
 refine tkc fun K hK=>?_
 go_simp
 refine(DSt.props HD5.o 50 3 HP.o (by omega) (pz (.inl rfl) (fun j h1 h2=>by simp only[dz,upd];repeat rw[if_neg (by omega)])) HRB.o (Nat.le_trans HD4.o.keeps.size hbb) (by have:=HPY.o;omega) (pk:=3) (by rfl) HPM.o).mono ?_
 rintro e w6 ⟨rfl,f1,D,hfar,hst,kk2⟩
 have hf1:=hH hfar
 have HST1:=hH hst
 have HD6:=hH D
 clear D hfar hst kk2
 refine hK.out _ _ (hS HD6.o ((hf1.o 93 (by omega) (by omega)).trans (rfl))) (fun hHeld=>?_)
 clear hK K
 simp only[setN,Act.put,s1,s2,s3]
 repeat((first|refine tkx ?_|refine tku ?_);simp only[setN,Act.put,s1,s2,s3])
 refine tkDone (by kernel_rfl) ?_
 clear hHeld hS
 have cw6_87:=HD6.o.cell 87
 have fw6_87:=HD6.o.frozen 87
 by_cases hcc:c=k3
 ·have hcx:=hcc
  go_wp2_with fail
  have HSR1:=hH ((HST1.o.put (i:=87) (v:=.slice (some ⟨xb,o,none⟩) (n-k3) 0) HD6.o.ne HD6.o.hg (by omega) (by omega)))
  have HD7:=hH ((HD6.o.set 87 (.slice (some ⟨xb,o,none⟩) (n-k3) 0)))
  generalize (w6).setCell ⟨g,87,none⟩ (.slice (some ⟨xb,o,none⟩) (n-k3) 0)=w7 at*
  have hly:(pay).length=n-k3:=by have h1:=congrArg List.length HX3.o;have h2:=HNN.o;simp only[List.length_drop] at h1;omega
  have hy0:pay=[]:=List.eq_nil_of_length_eq_zero (by omega)
  have hkf:=HD7.o.keeps
  go_ret
  rw[←HQ.o]
  refine⟨rfl,_,HD7.o.blk,?_,hkf⟩
  exact PkGot.of HD7.o.one (st:=HSR1.o)
 ·have hcx:=hcc
  go_wp2_with fail
  have HSR1:=hH ((HST1.o.put (i:=87) (v:=.slice (some ⟨xb,o+k3,none⟩) (n-k3) (c-k3)) HD6.o.ne HD6.o.hg (by omega) (by omega)))
  have HD7:=hH ((HD6.o.set 87 (.slice (some ⟨xb,o+k3,none⟩) (n-k3) (c-k3))))
  generalize (w6).setCell ⟨g,87,none⟩ (.slice (some ⟨xb,o+k3,none⟩) (n-k3) (c-k3))=w7 at*
  have hly:(pay).length=n-k3:=by have h1:=congrArg List.length HX3.o;have h2:=HNN.o;simp only[List.length_drop] at h1;omega
  have hkf:=HD7.o.keeps
  go_ret
  rw[←HQ.o]
  refine⟨rfl,_,HD7.o.blk,?_,hkf⟩
  exact PkGot.of HD7.o.one (st:=HSR1.o) (e87:=⟨_,_,congrArg (fun m=>Value.slice _ m _) hly.symm,rb_rd (rb_sub (ys:=pay) (rest:=[]) HD7.o.rb (by rw[List.append_nil];exact HX3.o)),fun a ha=>by injection ha with ha;subst ha;rfl⟩)
theorem pingreqDec_c (w:World) (g xb o c n rem:Nat) (xs:List UInt8) (qs:Int) (dup ret:Bool) (ver:Int) (D:DSt w g xb o c n xs (dz 12 qs dup ret ver rem) w) (hxs:xs=[]):
 Calls prog 74 #[.pointer (some ⟨g,0,none⟩),.slice (some ⟨xb,o,none⟩) n c] w (DOut w g xb ({zp 12 ver [] with qos:=qs,dup:=dup,retain:=ret})):=by
 have d0:xs.drop 0=[]:=hxs
 have hcap:=D.cap
 have hxl:=D.len
 have hn:=D.hn
 have HD0:=hH D
 clear D hxs
 have HX0:=hH d0
 clear d0
 obtain⟨q,hq⟩:∃q,({zp 12 ver [] with qos:=qs,dup:=dup,retain:=ret}:PkV)=q:=⟨_,rfl⟩
 rw[hq]
 have HQ:=hH hq
 have HNN:=hH hn
 clear hq hn
 go_enter func74,ntmps74
 exact zU7
theorem pingrespDec_c (w:World) (g xb o c n rem:Nat) (xs:List UInt8) (qs:Int) (dup ret:Bool) (ver:Int) (D:DSt w g xb o c n xs (dz 13 qs dup ret ver rem) w) (hxs:xs=[]):
 Calls prog 75 #[.pointer (some ⟨g,0,none⟩),.slice (some ⟨xb,o,none⟩) n c] w (DOut w g xb ({zp 13 ver [] with qos:=qs,dup:=dup,retain:=ret})):=by
 have d0:xs.drop 0=[]:=hxs
 have hcap:=D.cap
 have hxl:=D.len
 have hn:=D.hn
 have HD0:=hH D
 clear D hxs
 have HX0:=hH d0
 clear d0
 obtain⟨q,hq⟩:∃q,({zp 13 ver [] with qos:=qs,dup:=dup,retain:=ret}:PkV)=q:=⟨_,rfl⟩
 rw[hq]
 have HQ:=hH hq
 have HNN:=hH hn
 clear hq hn
 go_enter func75,ntmps75
 exact zU7
end Go.Proofs.YtkglmacaecmhdaaGreatDoor
