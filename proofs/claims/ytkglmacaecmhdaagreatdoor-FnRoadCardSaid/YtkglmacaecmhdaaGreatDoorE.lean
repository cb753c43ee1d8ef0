/- FnRoad, part E: the walks of X1. -/
import Derived.Test.YtkglmacaecmhdaaGreatDoorD
set_option linter.unusedVariables false
set_option linter.unusedSimpArgs false
set_option maxHeartbeats 20000000
set_option maxRecDepth 100000
namespace Go.Proofs.YtkglmacaecmhdaaGreatDoor
open Go Go.RowKit Tryz
def okN (i:Int) (n:Nat):Prop:=
 if i=1∨i=23∨i=25∨i=36∨i=37∨i=40∨i=41∨i=42 then n≤255 else if i=19∨i=33∨i=34∨i=35 then n≤65535 else n<4294967296
def known (i:Int):Prop:=i=1∨i=2∨i=3∨i=8∨i=9∨i=11∨i=17∨i=18∨i=19∨i=21∨i=22∨i=23∨i=24∨i=25∨i=26∨i=28∨i=31∨i=33∨i=34∨i=35∨i=36∨i=37∨i=38∨i=39∨i=40∨i=41∨i=42
theorem info3:(prog.info? 3).map (fun i=>(i.zero,i.size,i.bytes))=some (some (.int .i64 0),1,8):=by kernel_rfl
theorem info124:(prog.info? 124).map (fun i=>(i.zero,i.size,i.bytes))=some (some (.agg #[.string ⟨#[]⟩,.string ⟨#[]⟩]),2,32):=by kernel_rfl
def zero37:Array Value:=#[.slice none 0 0,.slice none 0 0,.slice none 0 0,.slice none 0 0,.string ⟨#[]⟩,.string ⟨#[]⟩,.string ⟨#[]⟩,.string ⟨#[]⟩,.string ⟨#[]⟩,.string ⟨#[]⟩,.string ⟨#[]⟩,.int .u32 0,.int .u32 0,.int .u32 0,.int .u32 0,.int .u16 0,.int .u16 0,.int .u16 0,.int .u16 0,.int .u8 0,.bool false,.bool false,.bool false,.int .u8 0,.bool false,.int .u8 0,.bool false,.int .u8 0,.bool false,.int .u8 0,.bool false,.int .u8 0,.bool false,.int .u8 0,.bool false,.int .u8 0,.bool false]
theorem zero37_st (B:Nat) (w:World):PSt B w (fun _=>none) [] zero37:=by
 refine⟨rfl,?_,⟨rfl,rfl⟩,⟨rfl,rfl⟩,⟨none,0,rfl,World.ownsRow_nil _ _ _ _,rfl⟩,⟨none,0,rfl,World.ownsRow_nil _ _ _ _,rfl⟩,by simp,by simp⟩
 have h:∀j,j<37→4≤j→zero37[j]?=some (cellV [] j):=by
  intro j hj h4
  obtain rfl|rfl|rfl|rfl|rfl|rfl|rfl|rfl|rfl|rfl|rfl|rfl|rfl|rfl|rfl|rfl|rfl|rfl|rfl|rfl|rfl|rfl|rfl|rfl|rfl|rfl|rfl|rfl|rfl|rfl|rfl|rfl|rfl:j=4∨j=5∨j=6∨j=7∨j=8∨j=9∨j=10∨j=11∨j=12∨j=13∨j=14∨j=15∨j=16∨j=17∨j=18∨j=19∨j=20∨j=21∨j=22∨j=23∨j=24∨j=25∨j=26∨j=27∨j=28∨j=29∨j=30∨j=31∨j=32∨j=33∨j=34∨j=35∨j=36:=by omega
  all_goals rfl
 exact fun j h1 h2=>h j h2 h1
def PropsOut (w:World) (l:List PropV) (e:Ending) (w':World):Prop:=∃cs b,e=.returned (.tuple #[.agg cs,.bool true])∧PSt w.heap.size w' b l cs∧Keeps [] w w'
theorem properties_c (w:World) (A0:Option Addr) (c0:Nat) (l:List PropV) (hr:Rd w 4 A0 l.length (l.flatMap PropV.cells)) (hA:0<l.length→∀a,A0=some a→a.block<w.heap.size)
 (hl:l.length≤20) (hid:∀x∈l,known x.id∧okN x.id x.n∧x.text.size≤65535∧x.other.size≤65535):
 Calls prog 43 #[.slice A0 l.length c0] w (PropsOut w l):=by
 have hcells:Hd (0<l.length→∃b0 o0,A0=some ⟨b0,o0,none⟩∧b0<w.heap.size∧∀k u,l[k]?=some u→∀j,j<4→w.cell? ⟨b0,o0+k*4+j,none⟩=some (u.cellAt j)):=by
  intro h0
  obtain⟨b0,o0,rfl,hcl⟩:=hr.2 h0
  refine⟨b0,o0,rfl,hA h0 _ rfl,fun k u hu j hj=>?_⟩
  rw[Nat.add_assoc];exact hcl (k*4+j) _ (flat4_get l k u hu j hj)
 have HN:=hH hid
 clear hr hA hid
 go_enter func43,ntmps43
 go_wp2_with fail
 go_loopg [8] (l.length+1) (fun gk i wr=>∃k cs b,i=.int .i64 ((k:Nat):Int)∧k≤l.length∧l.length<gk+k∧Blk wr w.heap.size 76 cs∧PSt w.heap.size wr b (l.take k) cs∧Keeps [] w wr)
 case atStart=>exact⟨0,zero37,fun _=>none,rfl,by omega,by omega,Blk.new _ _ _,zero37_st _ _,Keeps.alloc _ _⟩
 case round=>
  obtain⟨k,cs,b,rfl,hk,hgk,hBr,hP,hkw⟩:=hrel
  have hkw:=hH hkw
  by_cases hlt:k<l.length
  ·obtain⟨g',rfl⟩:∃g',gk=g'+1:=⟨gk-1,by omega⟩
   have hltz:(k:Int)<(l.length:Int):=by omega
   obtain⟨x,hx⟩:∃x,l[k]=x:=⟨_,rfl⟩
   obtain⟨hkn,hxn,ht,hot⟩:=HN.o x (by rw[←hx];exact List.getElem_mem _)
   obtain⟨b0,o0,rfl,hb0,hcl⟩:=hcells.o (by omega)
   have hcl':=hcl k x (by rw[List.getElem?_eq_getElem hlt,hx])
   have hx0:=hH (hkw.o.some_ (hcl' 0 (by omega)) (by simp))
   have hx1:=hH (hkw.o.some_ (hcl' 1 (by omega)) (by simp))
   have hx2:=hH (hkw.o.some_ (hcl' 2 (by omega)) (by simp))
   have hx3:=hH (hkw.o.some_ (hcl' 3 (by omega)) (by simp))
   have htk:Hd (l.take (k+1)=l.take k++[x]):=by show _=_;rw[List.take_succ_eq_append_getElem hlt,hx]
   have hxn:=hH hxn
   simp only[PropV.cellAt,Nat.add_zero] at hx0 hx1 hx2 hx3
   clear hcl hcl' hx hcells HN
   have hkn:=hH hkn
   rcases hkn.o with hid|hid|hid|hid|hid|hid|hid|hid|hid|hid|hid|hid|hid|hid|hid|hid|hid|hid|hid|hid|hid|hid|hid|hid|hid|hid|hid
   ·as_aux_lemma=>
    have hok:okN 1 x.n:=by have h:=hxn.o;rwa [hid] at h
    have c0:wr.cell? ⟨b0,o0+k*4,none⟩=some (.int .i64 1):=by rw[←hid];exact hx0.o
    have c1:=hx1.o
    have c2:=hx2.o
    have c3:=hx3.o
    have hK1:=Keeps.alloc wr (.cells #[.int .i64 1,.int .u32 (x.n:Int),.string x.text,.string x.other] 98)
    have hB1:=hBr.keep hK1 (by simp)
    have hP1:=hP.keep (hK1.mono (S':=[w.heap.size]) (by simp))
    have hsz:=hP1.sz
    have fa:=hB1.frozen 19
    have ca:=(hB1.cell 19).trans (hP1.sc 19 (by omega) (by omega))
    have cf:=(hB1.cell 20).trans (hP1.sc 20 (by omega) (by omega))
    have ff:=hB1.frozen 20
    have hgt:decide ((255:Int)<(x.n:Int))=false:=decide_eq_false (by simp[okN] at hok;omega)
    have hw:(x.n:Int) % 256=(x.n:Int):=by simp[okN] at hok;omega
    have hcv:IntKind.u8.wrap (x.n:Int)=(x.n:Int):=by simp[okN] at hok;exact IntWalk.u8_in _ (by omega)
    clear hok
    have HP1:=hH hP1
    have HB1:=hH hB1
    have HK1:=hH hK1
    clear hP1 hB1 hP hBr hK1
    go_wp2_with fail
    go_roundg g'
    case measure=>omega
    case rel=>
     have hq:=(HP1.o.two 1 19 20 (.int .u8 (x.n:Int)) (.bool true) hid (by omega) (by omega) (by omega) (by omega) (by omega) rfl rfl (by decide) rfl rfl).keep ((Keeps.setCell (wr.alloc (.cells #[.int .i64 1,.int .u32 (x.n:Int),.string x.text,.string x.other] 98)) ⟨w.heap.size,19,none⟩ (.int .u8 (x.n:Int))).trans (Keeps.setCell _ ⟨w.heap.size,20,none⟩ (.bool true)) (by simp))
     have hqb:=(HB1.o.set_ 19 (.int .u8 (x.n:Int))).set_ 20 (.bool true)
     have hqk:Keeps [] w (((wr.alloc (.cells #[.int .i64 1,.int .u32 (x.n:Int),.string x.text,.string x.other] 98)).setCell ⟨w.heap.size,19,none⟩ (.int .u8 (x.n:Int))).setCell ⟨w.heap.size,20,none⟩ (.bool true)):=((hkw.o.trans HK1.o (by simp)).trans (Keeps.setCell _ _ _) (by simp)).trans (Keeps.setCell _ _ _) (by simp)
     exact⟨k+1,((cs.setIfInBounds 19 (.int .u8 (x.n:Int))).setIfInBounds 20 (.bool true)),b,by go_num,by omega,by omega,hqb,by rw[htk.o];exact hq,hqk⟩
   ·as_aux_lemma=>
    have hok:okN 2 x.n:=by have h:=hxn.o;rwa [hid] at h
    have c0:wr.cell? ⟨b0,o0+k*4,none⟩=some (.int .i64 2):=by rw[←hid];exact hx0.o
    have c1:=hx1.o
    have c2:=hx2.o
    have c3:=hx3.o
    have hK1:=Keeps.alloc wr (.cells #[.int .i64 2,.int .u32 (x.n:Int),.string x.text,.string x.other] 98)
    have hB1:=hBr.keep hK1 (by simp)
    have hP1:=hP.keep (hK1.mono (S':=[w.heap.size]) (by simp))
    have hsz:=hP1.sz
    have fa:=hB1.frozen 11
    have ca:=(hB1.cell 11).trans (hP1.sc 11 (by omega) (by omega))
    clear hok
    have HP1:=hH hP1
    have HB1:=hH hB1
    have HK1:=hH hK1
    clear hP1 hB1 hP hBr hK1
    go_wp2_with fail
    go_roundg g'
    case measure=>omega
    case rel=>
     have hq:=(HP1.o.one 2 11 (.int .u32 (x.n:Int)) hid (by omega) (by omega) rfl (by decide) rfl).keep (Keeps.setCell (wr.alloc (.cells #[.int .i64 2,.int .u32 (x.n:Int),.string x.text,.string x.other] 98)) ⟨w.heap.size,11,none⟩ (.int .u32 (x.n:Int)))
     have hqb:=HB1.o.set_ 11 (.int .u32 (x.n:Int))
     have hqk:Keeps [] w ((wr.alloc (.cells #[.int .i64 2,.int .u32 (x.n:Int),.string x.text,.string x.other] 98)).setCell ⟨w.heap.size,11,none⟩ (.int .u32 (x.n:Int))):=(hkw.o.trans HK1.o (by simp)).trans (Keeps.setCell _ _ _) (by simp)
     exact⟨k+1,(cs.setIfInBounds 11 (.int .u32 (x.n:Int))),b,by go_num,by omega,by omega,hqb,by rw[htk.o];exact hq,hqk⟩
   ·as_aux_lemma=>
    have hok:okN 3 x.n:=by have h:=hxn.o;rwa [hid] at h
    have c0:wr.cell? ⟨b0,o0+k*4,none⟩=some (.int .i64 3):=by rw[←hid];exact hx0.o
    have c1:=hx1.o
    have c2:=hx2.o
    have c3:=hx3.o
    have hK1:=Keeps.alloc wr (.cells #[.int .i64 3,.int .u32 (x.n:Int),.string x.text,.string x.other] 98)
    have hB1:=hBr.keep hK1 (by simp)
    have hP1:=hP.keep (hK1.mono (S':=[w.heap.size]) (by simp))
    have hsz:=hP1.sz
    have fa:=hB1.frozen 4
    have ca:=(hB1.cell 4).trans (hP1.sc 4 (by omega) (by omega))
    clear hok
    have HP1:=hH hP1
    have HB1:=hH hB1
    have HK1:=hH hK1
    clear hP1 hB1 hP hBr hK1
    go_wp2_with fail
    go_roundg g'
    case measure=>omega
    case rel=>
     have hq:=(HP1.o.one 3 4 (.string x.text) hid (by omega) (by omega) rfl (by decide) rfl).keep (Keeps.setCell (wr.alloc (.cells #[.int .i64 3,.int .u32 (x.n:Int),.string x.text,.string x.other] 98)) ⟨w.heap.size,4,none⟩ (.string x.text))
     have hqb:=HB1.o.set_ 4 (.string x.text)
     have hqk:Keeps [] w ((wr.alloc (.cells #[.int .i64 3,.int .u32 (x.n:Int),.string x.text,.string x.other] 98)).setCell ⟨w.heap.size,4,none⟩ (.string x.text)):=(hkw.o.trans HK1.o (by simp)).trans (Keeps.setCell _ _ _) (by simp)
     exact⟨k+1,(cs.setIfInBounds 4 (.string x.text)),b,by go_num,by omega,by omega,hqb,by rw[htk.o];exact hq,hqk⟩
   ·as_aux_lemma=>
    have hok:okN 8 x.n:=by have h:=hxn.o;rwa [hid] at h
    have c0:wr.cell? ⟨b0,o0+k*4,none⟩=some (.int .i64 8):=by rw[←hid];exact hx0.o
    have c1:=hx1.o
    have c2:=hx2.o
    have c3:=hx3.o
    have hK1:=Keeps.alloc wr (.cells #[.int .i64 8,.int .u32 (x.n:Int),.string x.text,.string x.other] 98)
    have hB1:=hBr.keep hK1 (by simp)
    have hP1:=hP.keep (hK1.mono (S':=[w.heap.size]) (by simp))
    have hsz:=hP1.sz
    have fa:=hB1.frozen 5
    have ca:=(hB1.cell 5).trans (hP1.sc 5 (by omega) (by omega))
    clear hok
    have HP1:=hH hP1
    have HB1:=hH hB1
    have HK1:=hH hK1
    clear hP1 hB1 hP hBr hK1
    go_wp2_with fail
    go_roundg g'
    case measure=>omega
    case rel=>
     have hq:=(HP1.o.one 8 5 (.string x.text) hid (by omega) (by omega) rfl (by decide) rfl).keep (Keeps.setCell (wr.alloc (.cells #[.int .i64 8,.int .u32 (x.n:Int),.string x.text,.string x.other] 98)) ⟨w.heap.size,5,none⟩ (.string x.text))
     have hqb:=HB1.o.set_ 5 (.string x.text)
     have hqk:Keeps [] w ((wr.alloc (.cells #[.int .i64 8,.int .u32 (x.n:Int),.string x.text,.string x.other] 98)).setCell ⟨w.heap.size,5,none⟩ (.string x.text)):=(hkw.o.trans HK1.o (by simp)).trans (Keeps.setCell _ _ _) (by simp)
     exact⟨k+1,(cs.setIfInBounds 5 (.string x.text)),b,by go_num,by omega,by omega,hqb,by rw[htk.o];exact hq,hqk⟩
   ·as_aux_lemma=>
    have hok:okN 9 x.n:=by have h:=hxn.o;rwa [hid] at h
    have c0:wr.cell? ⟨b0,o0+k*4,none⟩=some (.int .i64 9):=by rw[←hid];exact hx0.o
    have c1:=hx1.o
    have c2:=hx2.o
    have c3:=hx3.o
    have hK1:=Keeps.alloc wr (.cells #[.int .i64 9,.int .u32 (x.n:Int),.string x.text,.string x.other] 98)
    have hB1:=hBr.keep hK1 (by simp)
    have hP1:=hP.keep (hK1.mono (S':=[w.heap.size]) (by simp))
    have hsz:=hP1.sz
    have fa:=hB1.frozen 0
    have hcv:=fun w=>Lib.run_convert_string_bytes (P:=prog) w 9 22 5 x.text underlying9 underlying22 underlying5
    have hK2:Keeps [] (wr.alloc (.cells #[.int .i64 9,.int .u32 (x.n:Int),.string x.text,.string x.other] 98)) (Lib.bytesWorld (wr.alloc (.cells #[.int .i64 9,.int .u32 (x.n:Int),.string x.text,.string x.other] 98)) 5 x.text):=keeps_bytesWorld _ _ _
    have hB2:=hB1.keep hK2 (by simp)
    have hs1:(wr.alloc (.cells #[.int .i64 9,.int .u32 (x.n:Int),.string x.text,.string x.other] 98)).heap.size=wr.heap.size+1:=by simp
    have hs2:(wr.alloc (.cells #[.int .i64 9,.int .u32 (x.n:Int),.string x.text,.string x.other] 98)).heap.size<(Lib.bytesWorld (wr.alloc (.cells #[.int .i64 9,.int .u32 (x.n:Int),.string x.text,.string x.other] 98)) 5 x.text).heap.size:=by rw[Lib.bytesWorld_size];omega
    have hrd:=rd_bytesWorld (wr.alloc (.cells #[.int .i64 9,.int .u32 (x.n:Int),.string x.text,.string x.other] 98)) x.text
    rw[hs1] at hrd
    have ca:(Lib.bytesWorld (wr.alloc (.cells #[.int .i64 9,.int .u32 (x.n:Int),.string x.text,.string x.other] 98)) 5 x.text).cell? ⟨w.heap.size,0,none⟩=some (cs[0]'(by omega)):=by rw[hB2.cell,Array.getElem?_eq_getElem]
    have fa2:=hB2.frozen 0
    have hBlt:w.heap.size<(wr.alloc (.cells #[.int .i64 9,.int .u32 (x.n:Int),.string x.text,.string x.other] 98)).heap.size:=hB1.lt
    have hq:=fun c=>hP1.data0 hid hBlt hK2 (wr.heap.size+1) c (by omega) (by omega) hrd
    have HQ:=hH hq
    have HB2:=hH hB2
    have HK1:=hH hK1
    have HK2:=hH hK2
    generalize cs[0]'(by omega)=v0 at ca
    clear hP1 hB1 hP hBr hK1 hq hB2 hK2 hs1 hs2 hrd hok hBlt
    go_wp2_with fail
    go_roundg g'
    case measure=>omega
    case rel=>
     exact⟨k+1,_,_,by go_num,by omega,by omega,HB2.o.set_ 0 _,by rw[htk.o];exact(HQ.o _).keep (Keeps.setCell _ ⟨w.heap.size,0,none⟩ _),(((hkw.o.trans HK1.o (by simp)).trans HK2.o (by simp)).trans (Keeps.setCell _ _ _) (by simp))⟩
   ·as_aux_lemma=>
    have hok:okN 11 x.n:=by have h:=hxn.o;rwa [hid] at h
    have c0:wr.cell? ⟨b0,o0+k*4,none⟩=some (.int .i64 11):=by rw[←hid];exact hx0.o
    have c1:=hx1.o
    have c2:=hx2.o
    have c3:=hx3.o
    have hK1:=Keeps.alloc wr (.cells #[.int .i64 11,.int .u32 (x.n:Int),.string x.text,.string x.other] 98)
    have hB1:=hBr.keep hK1 (by simp)
    have hP1:=hP.keep (hK1.mono (S':=[w.heap.size]) (by simp))
    have hsz:=hP1.sz
    have fa:=hB1.frozen 1
    obtain⟨A1,c1,x1,x2,x3⟩:=hP1.nm
    have hle:(numsOf (l.take k)).length≤20:=by have h1:=numsOf_le (l.take k);have h2:(l.take k).length≤20:=(by simp;omega);omega
    obtain⟨N,hN⟩:∃N,(numsOf (l.take k)).length=N:=⟨_,rfl⟩
    rw[hN] at x1 x2 hle
    have ca:(wr.alloc (.cells #[.int .i64 11,.int .u32 (x.n:Int),.string x.text,.string x.other] 98)).cell? ⟨w.heap.size,1,none⟩=some (.slice A1 N c1):=by rw[hB1.cell];exact x1
    have hs1:(wr.alloc (.cells #[.int .i64 11,.int .u32 (x.n:Int),.string x.text,.string x.other] 98)).heap.size=wr.heap.size+1:=by simp
    have ho2:((wr.alloc (.cells #[.int .i64 11,.int .u32 (x.n:Int),.string x.text,.string x.other] 98)).alloc (.cells #[.int .i64 (x.n:Int)] 3)).ownsRow 0 3 1 (.slice A1 N c1) N _:=x2.alloc _
    have hr2:Rd ((wr.alloc (.cells #[.int .i64 11,.int .u32 (x.n:Int),.string x.text,.string x.other] 98)).alloc (.cells #[.int .i64 (x.n:Int)] 3)) 1 (some ⟨(wr.alloc (.cells #[.int .i64 11,.int .u32 (x.n:Int),.string x.text,.string x.other] 98)).heap.size,0,none⟩) 1 [.int .i64 (x.n:Int)]:=rd_new (wr.alloc (.cells #[.int .i64 11,.int .u32 (x.n:Int),.string x.text,.string x.other] 98)) 3 #[.int .i64 (x.n:Int)] 1 1 rfl
    rw[hs1] at hr2
    have hB2:Blk ((wr.alloc (.cells #[.int .i64 11,.int .u32 (x.n:Int),.string x.text,.string x.other] 98)).alloc (.cells #[.int .i64 (x.n:Int)] 3)) w.heap.size 76 cs:=hB1.alloc _
    have hP2:=hP1.keep ((Keeps.alloc (wr.alloc (.cells #[.int .i64 11,.int .u32 (x.n:Int),.string x.text,.string x.other] 98)) (.cells #[.int .i64 (x.n:Int)] 3)).mono (S':=[w.heap.size]) (by simp))
    have hBlt:w.heap.size<((wr.alloc (.cells #[.int .i64 11,.int .u32 (x.n:Int),.string x.text,.string x.other] 98)).alloc (.cells #[.int .i64 (x.n:Int)] 3)).heap.size:=hB2.lt
    have hKA:Keeps [] w ((wr.alloc (.cells #[.int .i64 11,.int .u32 (x.n:Int),.string x.text,.string x.other] 98)).alloc (.cells #[.int .i64 (x.n:Int)] 3)):=(hkw.o.trans hK1 (by simp)).trans (Keeps.alloc _ _) (by simp)
    have hnB:∀q,A1.map (·.block)=some q→w.heap.size<q:=fun q hq=>(hP1.lt 1 q (by omega) (by rw[←x3,hq])).1
    obtain⟨i0,hi0,hz0,hz1,hz2⟩:=info_parts info3
    have HP2:=hH hP2
    have HB2:=hH hB2
    have HKA:=hH hKA
    have HX2:=hH ho2
    have HR2:=hH hr2
    have HNB:=hH hnB
    have HX3:=hH x3
    have HNN:=hH hN
    clear hP1 hB1 hP hBr hK1 hB2 hKA hP2 hs1 x1 x2 ho2 hr2 hnB x3 hN hok
    have hcv:IntKind.i64.wrap (x.n:Int)=(x.n:Int):=by have h:=hxn.o;rw[hid] at h;simp[okN] at h;exact IntWalk.i64_in _ (by omega)
    go_wp2_with (at_builtin;refine wpList_append_rd _ rfl (.tmp 50) (.tmp 54) 25 rfl 3 i0 _ 1 8 underlying25 hi0 hz0 hz1 hz2 rfl (by decide) (.slice A1 N c1) N _ rfl HX2.o _ 1 1 _ rfl HR2.o (by intro u hu;simp at hu;subst hu;rfl) (by omega) (by unfold maxLen;omega) ?_;intro A2 c2 w3 ho3 hk3 hd3;rw[own_slice] at hk3 hd3;have hne:w.heap.size∉(A1.map (·.block)).toList:=(by intro hm;cases e:A1.map (·.block) with|none=>rw[e] at hm;simp at hm|some q=>rw[e] at hm;simp at hm;have:=HNB.o q e;omega);have HB3:=hH (HB2.o.keep hk3 hne);have ca3:w3.cell? ⟨w.heap.size,1,none⟩=some (.slice A1 N c1):=(by rw[HB3.o.cell,←HB2.o.cell];exact(Keeps.alloc _ _).some_ ca (by simp));have fa3:w3.frozen? ⟨w.heap.size,1,none⟩=false:=HB3.o.frozen 1)
    go_roundg g'
    case measure=>omega
    case rel=>
     have hk4:Keeps (b 1).toList ((wr.alloc (.cells #[.int .i64 11,.int .u32 (x.n:Int),.string x.text,.string x.other] 98)).alloc (.cells #[.int .i64 (x.n:Int)] 3)) w3:=by rw[←HX3.o];exact hk3
     have hd4:A2.map (·.block)=b 1∨∃q,A2.map (·.block)=some q∧((wr.alloc (.cells #[.int .i64 11,.int .u32 (x.n:Int),.string x.text,.string x.other] 98)).alloc (.cells #[.int .i64 (x.n:Int)] 3)).heap.size≤q:=by rw[←HX3.o];exact hd3.imp id (fun h=>⟨_,h,Nat.le_refl _⟩)
     have hq:=HP2.o.row1 (A:=A2) (c:=c2) hid hBlt hk4 (by rw[HNN.o];exact ho3) hd4
     rw[HNN.o] at hq
     exact⟨k+1,_,_,by go_num,by omega,by omega,HB3.o.set_ 1 _,by rw[htk.o];exact hq.keep (Keeps.setCell _ ⟨w.heap.size,1,none⟩ _),((HKA.o.trans hk3 (fun q hq=>.inr (by cases e:A1.map (·.block) with|none=>rw[e] at hq;simp at hq|some r=>rw[e] at hq;simp at hq;have:=HNB.o r e;omega))).trans (Keeps.setCell _ _ _) (by simp))⟩
   ·as_aux_lemma=>
    have hok:okN 17 x.n:=by have h:=hxn.o;rwa [hid] at h
    have c0:wr.cell? ⟨b0,o0+k*4,none⟩=some (.int .i64 17):=by rw[←hid];exact hx0.o
    have c1:=hx1.o
    have c2:=hx2.o
    have c3:=hx3.o
    have hK1:=Keeps.alloc wr (.cells #[.int .i64 17,.int .u32 (x.n:Int),.string x.text,.string x.other] 98)
    have hB1:=hBr.keep hK1 (by simp)
    have hP1:=hP.keep (hK1.mono (S':=[w.heap.size]) (by simp))
    have hsz:=hP1.sz
    have fa:=hB1.frozen 12
    have ca:=(hB1.cell 12).trans (hP1.sc 12 (by omega) (by omega))
    have cf:=(hB1.cell 21).trans (hP1.sc 21 (by omega) (by omega))
    have ff:=hB1.frozen 21
    clear hok
    have HP1:=hH hP1
    have HB1:=hH hB1
    have HK1:=hH hK1
    clear hP1 hB1 hP hBr hK1
    go_wp2_with fail
    go_roundg g'
    case measure=>omega
    case rel=>
     have hq:=(HP1.o.two 17 12 21 (.int .u32 (x.n:Int)) (.bool true) hid (by omega) (by omega) (by omega) (by omega) (by omega) rfl rfl (by decide) rfl rfl).keep ((Keeps.setCell (wr.alloc (.cells #[.int .i64 17,.int .u32 (x.n:Int),.string x.text,.string x.other] 98)) ⟨w.heap.size,12,none⟩ (.int .u32 (x.n:Int))).trans (Keeps.setCell _ ⟨w.heap.size,21,none⟩ (.bool true)) (by simp))
     have hqb:=(HB1.o.set_ 12 (.int .u32 (x.n:Int))).set_ 21 (.bool true)
     have hqk:Keeps [] w (((wr.alloc (.cells #[.int .i64 17,.int .u32 (x.n:Int),.string x.text,.string x.other] 98)).setCell ⟨w.heap.size,12,none⟩ (.int .u32 (x.n:Int))).setCell ⟨w.heap.size,21,none⟩ (.bool true)):=((hkw.o.trans HK1.o (by simp)).trans (Keeps.setCell _ _ _) (by simp)).trans (Keeps.setCell _ _ _) (by simp)
     exact⟨k+1,((cs.setIfInBounds 12 (.int .u32 (x.n:Int))).setIfInBounds 21 (.bool true)),b,by go_num,by omega,by omega,hqb,by rw[htk.o];exact hq,hqk⟩
   ·as_aux_lemma=>
    have hok:okN 18 x.n:=by have h:=hxn.o;rwa [hid] at h
    have c0:wr.cell? ⟨b0,o0+k*4,none⟩=some (.int .i64 18):=by rw[←hid];exact hx0.o
    have c1:=hx1.o
    have c2:=hx2.o
    have c3:=hx3.o
    have hK1:=Keeps.alloc wr (.cells #[.int .i64 18,.int .u32 (x.n:Int),.string x.text,.string x.other] 98)
    have hB1:=hBr.keep hK1 (by simp)
    have hP1:=hP.keep (hK1.mono (S':=[w.heap.size]) (by simp))
    have hsz:=hP1.sz
    have fa:=hB1.frozen 6
    have ca:=(hB1.cell 6).trans (hP1.sc 6 (by omega) (by omega))
    clear hok
    have HP1:=hH hP1
    have HB1:=hH hB1
    have HK1:=hH hK1
    clear hP1 hB1 hP hBr hK1
    go_wp2_with fail
    go_roundg g'
    case measure=>omega
    case rel=>
     have hq:=(HP1.o.one 18 6 (.string x.text) hid (by omega) (by omega) rfl (by decide) rfl).keep (Keeps.setCell (wr.alloc (.cells #[.int .i64 18,.int .u32 (x.n:Int),.string x.text,.string x.other] 98)) ⟨w.heap.size,6,none⟩ (.string x.text))
     have hqb:=HB1.o.set_ 6 (.string x.text)
     have hqk:Keeps [] w ((wr.alloc (.cells #[.int .i64 18,.int .u32 (x.n:Int),.string x.text,.string x.other] 98)).setCell ⟨w.heap.size,6,none⟩ (.string x.text)):=(hkw.o.trans HK1.o (by simp)).trans (Keeps.setCell _ _ _) (by simp)
     exact⟨k+1,(cs.setIfInBounds 6 (.string x.text)),b,by go_num,by omega,by omega,hqb,by rw[htk.o];exact hq,hqk⟩
   ·as_aux_lemma=>
    have hok:okN 19 x.n:=by have h:=hxn.o;rwa [hid] at h
    have c0:wr.cell? ⟨b0,o0+k*4,none⟩=some (.int .i64 19):=by rw[←hid];exact hx0.o
    have c1:=hx1.o
    have c2:=hx2.o
    have c3:=hx3.o
    have hK1:=Keeps.alloc wr (.cells #[.int .i64 19,.int .u32 (x.n:Int),.string x.text,.string x.other] 98)
    have hB1:=hBr.keep hK1 (by simp)
    have hP1:=hP.keep (hK1.mono (S':=[w.heap.size]) (by simp))
    have hsz:=hP1.sz
    have fa:=hB1.frozen 15
    have ca:=(hB1.cell 15).trans (hP1.sc 15 (by omega) (by omega))
    have cf:=(hB1.cell 22).trans (hP1.sc 22 (by omega) (by omega))
    have ff:=hB1.frozen 22
    have hgt:decide ((65535:Int)<(x.n:Int))=false:=decide_eq_false (by simp[okN] at hok;omega)
    have hw:(x.n:Int) % 65536=(x.n:Int):=by simp[okN] at hok;omega
    have hcv:IntKind.u16.wrap (x.n:Int)=(x.n:Int):=by simp[okN] at hok;exact IntWalk.u16_in _ (by omega)
    clear hok
    have HP1:=hH hP1
    have HB1:=hH hB1
    have HK1:=hH hK1
    clear hP1 hB1 hP hBr hK1
    go_wp2_with fail
    go_roundg g'
    case measure=>omega
    case rel=>
     have hq:=(HP1.o.two 19 15 22 (.int .u16 (x.n:Int)) (.bool true) hid (by omega) (by omega) (by omega) (by omega) (by omega) rfl rfl (by decide) rfl rfl).keep ((Keeps.setCell (wr.alloc (.cells #[.int .i64 19,.int .u32 (x.n:Int),.string x.text,.string x.other] 98)) ⟨w.heap.size,15,none⟩ (.int .u16 (x.n:Int))).trans (Keeps.setCell _ ⟨w.heap.size,22,none⟩ (.bool true)) (by simp))
     have hqb:=(HB1.o.set_ 15 (.int .u16 (x.n:Int))).set_ 22 (.bool true)
     have hqk:Keeps [] w (((wr.alloc (.cells #[.int .i64 19,.int .u32 (x.n:Int),.string x.text,.string x.other] 98)).setCell ⟨w.heap.size,15,none⟩ (.int .u16 (x.n:Int))).setCell ⟨w.heap.size,22,none⟩ (.bool true)):=((hkw.o.trans HK1.o (by simp)).trans (Keeps.setCell _ _ _) (by simp)).trans (Keeps.setCell _ _ _) (by simp)
     exact⟨k+1,((cs.setIfInBounds 15 (.int .u16 (x.n:Int))).setIfInBounds 22 (.bool true)),b,by go_num,by omega,by omega,hqb,by rw[htk.o];exact hq,hqk⟩
   ·as_aux_lemma=>
    have hok:okN 21 x.n:=by have h:=hxn.o;rwa [hid] at h
    have c0:wr.cell? ⟨b0,o0+k*4,none⟩=some (.int .i64 21):=by rw[←hid];exact hx0.o
    have c1:=hx1.o
    have c2:=hx2.o
    have c3:=hx3.o
    have hK1:=Keeps.alloc wr (.cells #[.int .i64 21,.int .u32 (x.n:Int),.string x.text,.string x.other] 98)
    have hB1:=hBr.keep hK1 (by simp)
    have hP1:=hP.keep (hK1.mono (S':=[w.heap.size]) (by simp))
    have hsz:=hP1.sz
    have fa:=hB1.frozen 7
    have ca:=(hB1.cell 7).trans (hP1.sc 7 (by omega) (by omega))
    clear hok
    have HP1:=hH hP1
    have HB1:=hH hB1
    have HK1:=hH hK1
    clear hP1 hB1 hP hBr hK1
    go_wp2_with fail
    go_roundg g'
    case measure=>omega
    case rel=>
     have hq:=(HP1.o.one 21 7 (.string x.text) hid (by omega) (by omega) rfl (by decide) rfl).keep (Keeps.setCell (wr.alloc (.cells #[.int .i64 21,.int .u32 (x.n:Int),.string x.text,.string x.other] 98)) ⟨w.heap.size,7,none⟩ (.string x.text))
     have hqb:=HB1.o.set_ 7 (.string x.text)
     have hqk:Keeps [] w ((wr.alloc (.cells #[.int .i64 21,.int .u32 (x.n:Int),.string x.text,.string x.other] 98)).setCell ⟨w.heap.size,7,none⟩ (.string x.text)):=(hkw.o.trans HK1.o (by simp)).trans (Keeps.setCell _ _ _) (by simp)
     exact⟨k+1,(cs.setIfInBounds 7 (.string x.text)),b,by go_num,by omega,by omega,hqb,by rw[htk.o];exact hq,hqk⟩
   ·as_aux_lemma=>
    have hok:okN 22 x.n:=by have h:=hxn.o;rwa [hid] at h
    have c0:wr.cell? ⟨b0,o0+k*4,none⟩=some (.int .i64 22):=by rw[←hid];exact hx0.o
    have c1:=hx1.o
    have c2:=hx2.o
    have c3:=hx3.o
    have hK1:=Keeps.alloc wr (.cells #[.int .i64 22,.int .u32 (x.n:Int),.string x.text,.string x.other] 98)
    have hB1:=hBr.keep hK1 (by simp)
    have hP1:=hP.keep (hK1.mono (S':=[w.heap.size]) (by simp))
    have hsz:=hP1.sz
    have fa:=hB1.frozen 2
    have hcv:=fun w=>Lib.run_convert_string_bytes (P:=prog) w 9 22 5 x.text underlying9 underlying22 underlying5
    have hK2:Keeps [] (wr.alloc (.cells #[.int .i64 22,.int .u32 (x.n:Int),.string x.text,.string x.other] 98)) (Lib.bytesWorld (wr.alloc (.cells #[.int .i64 22,.int .u32 (x.n:Int),.string x.text,.string x.other] 98)) 5 x.text):=keeps_bytesWorld _ _ _
    have hB2:=hB1.keep hK2 (by simp)
    have hs1:(wr.alloc (.cells #[.int .i64 22,.int .u32 (x.n:Int),.string x.text,.string x.other] 98)).heap.size=wr.heap.size+1:=by simp
    have hs2:(wr.alloc (.cells #[.int .i64 22,.int .u32 (x.n:Int),.string x.text,.string x.other] 98)).heap.size<(Lib.bytesWorld (wr.alloc (.cells #[.int .i64 22,.int .u32 (x.n:Int),.string x.text,.string x.other] 98)) 5 x.text).heap.size:=by rw[Lib.bytesWorld_size];omega
    have hrd:=rd_bytesWorld (wr.alloc (.cells #[.int .i64 22,.int .u32 (x.n:Int),.string x.text,.string x.other] 98)) x.text
    rw[hs1] at hrd
    have ca:(Lib.bytesWorld (wr.alloc (.cells #[.int .i64 22,.int .u32 (x.n:Int),.string x.text,.string x.other] 98)) 5 x.text).cell? ⟨w.heap.size,2,none⟩=some (cs[2]'(by omega)):=by rw[hB2.cell,Array.getElem?_eq_getElem]
    have fa2:=hB2.frozen 2
    have hBlt:w.heap.size<(wr.alloc (.cells #[.int .i64 22,.int .u32 (x.n:Int),.string x.text,.string x.other] 98)).heap.size:=hB1.lt
    have hq:=fun c=>hP1.data2 hid hBlt hK2 (wr.heap.size+1) c (by omega) (by omega) hrd
    have HQ:=hH hq
    have HB2:=hH hB2
    have HK1:=hH hK1
    have HK2:=hH hK2
    generalize cs[2]'(by omega)=v0 at ca
    clear hP1 hB1 hP hBr hK1 hq hB2 hK2 hs1 hs2 hrd hok hBlt
    go_wp2_with fail
    go_roundg g'
    case measure=>omega
    case rel=>
     exact⟨k+1,_,_,by go_num,by omega,by omega,HB2.o.set_ 2 _,by rw[htk.o];exact(HQ.o _).keep (Keeps.setCell _ ⟨w.heap.size,2,none⟩ _),(((hkw.o.trans HK1.o (by simp)).trans HK2.o (by simp)).trans (Keeps.setCell _ _ _) (by simp))⟩
   ·as_aux_lemma=>
    have hok:okN 23 x.n:=by have h:=hxn.o;rwa [hid] at h
    have c0:wr.cell? ⟨b0,o0+k*4,none⟩=some (.int .i64 23):=by rw[←hid];exact hx0.o
    have c1:=hx1.o
    have c2:=hx2.o
    have c3:=hx3.o
    have hK1:=Keeps.alloc wr (.cells #[.int .i64 23,.int .u32 (x.n:Int),.string x.text,.string x.other] 98)
    have hB1:=hBr.keep hK1 (by simp)
    have hP1:=hP.keep (hK1.mono (S':=[w.heap.size]) (by simp))
    have hsz:=hP1.sz
    have fa:=hB1.frozen 23
    have ca:=(hB1.cell 23).trans (hP1.sc 23 (by omega) (by omega))
    have cf:=(hB1.cell 24).trans (hP1.sc 24 (by omega) (by omega))
    have ff:=hB1.frozen 24
    have hgt:decide ((255:Int)<(x.n:Int))=false:=decide_eq_false (by simp[okN] at hok;omega)
    have hw:(x.n:Int) % 256=(x.n:Int):=by simp[okN] at hok;omega
    have hcv:IntKind.u8.wrap (x.n:Int)=(x.n:Int):=by simp[okN] at hok;exact IntWalk.u8_in _ (by omega)
    clear hok
    have HP1:=hH hP1
    have HB1:=hH hB1
    have HK1:=hH hK1
    clear hP1 hB1 hP hBr hK1
    go_wp2_with fail
    go_roundg g'
    case measure=>omega
    case rel=>
     have hq:=(HP1.o.two 23 23 24 (.int .u8 (x.n:Int)) (.bool true) hid (by omega) (by omega) (by omega) (by omega) (by omega) rfl rfl (by decide) rfl rfl).keep ((Keeps.setCell (wr.alloc (.cells #[.int .i64 23,.int .u32 (x.n:Int),.string x.text,.string x.other] 98)) ⟨w.heap.size,23,none⟩ (.int .u8 (x.n:Int))).trans (Keeps.setCell _ ⟨w.heap.size,24,none⟩ (.bool true)) (by simp))
     have hqb:=(HB1.o.set_ 23 (.int .u8 (x.n:Int))).set_ 24 (.bool true)
     have hqk:Keeps [] w (((wr.alloc (.cells #[.int .i64 23,.int .u32 (x.n:Int),.string x.text,.string x.other] 98)).setCell ⟨w.heap.size,23,none⟩ (.int .u8 (x.n:Int))).setCell ⟨w.heap.size,24,none⟩ (.bool true)):=((hkw.o.trans HK1.o (by simp)).trans (Keeps.setCell _ _ _) (by simp)).trans (Keeps.setCell _ _ _) (by simp)
     exact⟨k+1,((cs.setIfInBounds 23 (.int .u8 (x.n:Int))).setIfInBounds 24 (.bool true)),b,by go_num,by omega,by omega,hqb,by rw[htk.o];exact hq,hqk⟩
   ·as_aux_lemma=>
    have hok:okN 24 x.n:=by have h:=hxn.o;rwa [hid] at h
    have c0:wr.cell? ⟨b0,o0+k*4,none⟩=some (.int .i64 24):=by rw[←hid];exact hx0.o
    have c1:=hx1.o
    have c2:=hx2.o
    have c3:=hx3.o
    have hK1:=Keeps.alloc wr (.cells #[.int .i64 24,.int .u32 (x.n:Int),.string x.text,.string x.other] 98)
    have hB1:=hBr.keep hK1 (by simp)
    have hP1:=hP.keep (hK1.mono (S':=[w.heap.size]) (by simp))
    have hsz:=hP1.sz
    have fa:=hB1.frozen 13
    have ca:=(hB1.cell 13).trans (hP1.sc 13 (by omega) (by omega))
    clear hok
    have HP1:=hH hP1
    have HB1:=hH hB1
    have HK1:=hH hK1
    clear hP1 hB1 hP hBr hK1
    go_wp2_with fail
    go_roundg g'
    case measure=>omega
    case rel=>
     have hq:=(HP1.o.one 24 13 (.int .u32 (x.n:Int)) hid (by omega) (by omega) rfl (by decide) rfl).keep (Keeps.setCell (wr.alloc (.cells #[.int .i64 24,.int .u32 (x.n:Int),.string x.text,.string x.other] 98)) ⟨w.heap.size,13,none⟩ (.int .u32 (x.n:Int)))
     have hqb:=HB1.o.set_ 13 (.int .u32 (x.n:Int))
     have hqk:Keeps [] w ((wr.alloc (.cells #[.int .i64 24,.int .u32 (x.n:Int),.string x.text,.string x.other] 98)).setCell ⟨w.heap.size,13,none⟩ (.int .u32 (x.n:Int))):=(hkw.o.trans HK1.o (by simp)).trans (Keeps.setCell _ _ _) (by simp)
     exact⟨k+1,(cs.setIfInBounds 13 (.int .u32 (x.n:Int))),b,by go_num,by omega,by omega,hqb,by rw[htk.o];exact hq,hqk⟩
   ·as_aux_lemma=>
    have hok:okN 25 x.n:=by have h:=hxn.o;rwa [hid] at h
    have c0:wr.cell? ⟨b0,o0+k*4,none⟩=some (.int .i64 25):=by rw[←hid];exact hx0.o
    have c1:=hx1.o
    have c2:=hx2.o
    have c3:=hx3.o
    have hK1:=Keeps.alloc wr (.cells #[.int .i64 25,.int .u32 (x.n:Int),.string x.text,.string x.other] 98)
    have hB1:=hBr.keep hK1 (by simp)
    have hP1:=hP.keep (hK1.mono (S':=[w.heap.size]) (by simp))
    have hsz:=hP1.sz
    have fa:=hB1.frozen 25
    have ca:=(hB1.cell 25).trans (hP1.sc 25 (by omega) (by omega))
    have hgt:decide ((255:Int)<(x.n:Int))=false:=decide_eq_false (by simp[okN] at hok;omega)
    have hw:(x.n:Int) % 256=(x.n:Int):=by simp[okN] at hok;omega
    have hcv:IntKind.u8.wrap (x.n:Int)=(x.n:Int):=by simp[okN] at hok;exact IntWalk.u8_in _ (by omega)
    clear hok
    have HP1:=hH hP1
    have HB1:=hH hB1
    have HK1:=hH hK1
    clear hP1 hB1 hP hBr hK1
    go_wp2_with fail
    go_roundg g'
    case measure=>omega
    case rel=>
     have hq:=(HP1.o.one 25 25 (.int .u8 (x.n:Int)) hid (by omega) (by omega) rfl (by decide) rfl).keep (Keeps.setCell (wr.alloc (.cells #[.int .i64 25,.int .u32 (x.n:Int),.string x.text,.string x.other] 98)) ⟨w.heap.size,25,none⟩ (.int .u8 (x.n:Int)))
     have hqb:=HB1.o.set_ 25 (.int .u8 (x.n:Int))
     have hqk:Keeps [] w ((wr.alloc (.cells #[.int .i64 25,.int .u32 (x.n:Int),.string x.text,.string x.other] 98)).setCell ⟨w.heap.size,25,none⟩ (.int .u8 (x.n:Int))):=(hkw.o.trans HK1.o (by simp)).trans (Keeps.setCell _ _ _) (by simp)
     exact⟨k+1,(cs.setIfInBounds 25 (.int .u8 (x.n:Int))),b,by go_num,by omega,by omega,hqb,by rw[htk.o];exact hq,hqk⟩
   ·as_aux_lemma=>
    have hok:okN 26 x.n:=by have h:=hxn.o;rwa [hid] at h
    have c0:wr.cell? ⟨b0,o0+k*4,none⟩=some (.int .i64 26):=by rw[←hid];exact hx0.o
    have c1:=hx1.o
    have c2:=hx2.o
    have c3:=hx3.o
    have hK1:=Keeps.alloc wr (.cells #[.int .i64 26,.int .u32 (x.n:Int),.string x.text,.string x.other] 98)
    have hB1:=hBr.keep hK1 (by simp)
    have hP1:=hP.keep (hK1.mono (S':=[w.heap.size]) (by simp))
    have hsz:=hP1.sz
    have fa:=hB1.frozen 8
    have ca:=(hB1.cell 8).trans (hP1.sc 8 (by omega) (by omega))
    clear hok
    have HP1:=hH hP1
    have HB1:=hH hB1
    have HK1:=hH hK1
    clear hP1 hB1 hP hBr hK1
    go_wp2_with fail
    go_roundg g'
    case measure=>omega
    case rel=>
     have hq:=(HP1.o.one 26 8 (.string x.text) hid (by omega) (by omega) rfl (by decide) rfl).keep (Keeps.setCell (wr.alloc (.cells #[.int .i64 26,.int .u32 (x.n:Int),.string x.text,.string x.other] 98)) ⟨w.heap.size,8,none⟩ (.string x.text))
     have hqb:=HB1.o.set_ 8 (.string x.text)
     have hqk:Keeps [] w ((wr.alloc (.cells #[.int .i64 26,.int .u32 (x.n:Int),.string x.text,.string x.other] 98)).setCell ⟨w.heap.size,8,none⟩ (.string x.text)):=(hkw.o.trans HK1.o (by simp)).trans (Keeps.setCell _ _ _) (by simp)
     exact⟨k+1,(cs.setIfInBounds 8 (.string x.text)),b,by go_num,by omega,by omega,hqb,by rw[htk.o];exact hq,hqk⟩
   ·as_aux_lemma=>
    have hok:okN 28 x.n:=by have h:=hxn.o;rwa [hid] at h
    have c0:wr.cell? ⟨b0,o0+k*4,none⟩=some (.int .i64 28):=by rw[←hid];exact hx0.o
    have c1:=hx1.o
    have c2:=hx2.o
    have c3:=hx3.o
    have hK1:=Keeps.alloc wr (.cells #[.int .i64 28,.int .u32 (x.n:Int),.string x.text,.string x.other] 98)
    have hB1:=hBr.keep hK1 (by simp)
    have hP1:=hP.keep (hK1.mono (S':=[w.heap.size]) (by simp))
    have hsz:=hP1.sz
    have fa:=hB1.frozen 9
    have ca:=(hB1.cell 9).trans (hP1.sc 9 (by omega) (by omega))
    clear hok
    have HP1:=hH hP1
    have HB1:=hH hB1
    have HK1:=hH hK1
    clear hP1 hB1 hP hBr hK1
    go_wp2_with fail
    go_roundg g'
    case measure=>omega
    case rel=>
     have hq:=(HP1.o.one 28 9 (.string x.text) hid (by omega) (by omega) rfl (by decide) rfl).keep (Keeps.setCell (wr.alloc (.cells #[.int .i64 28,.int .u32 (x.n:Int),.string x.text,.string x.other] 98)) ⟨w.heap.size,9,none⟩ (.string x.text))
     have hqb:=HB1.o.set_ 9 (.string x.text)
     have hqk:Keeps [] w ((wr.alloc (.cells #[.int .i64 28,.int .u32 (x.n:Int),.string x.text,.string x.other] 98)).setCell ⟨w.heap.size,9,none⟩ (.string x.text)):=(hkw.o.trans HK1.o (by simp)).trans (Keeps.setCell _ _ _) (by simp)
     exact⟨k+1,(cs.setIfInBounds 9 (.string x.text)),b,by go_num,by omega,by omega,hqb,by rw[htk.o];exact hq,hqk⟩
   ·as_aux_lemma=>
    have hok:okN 31 x.n:=by have h:=hxn.o;rwa [hid] at h
    have c0:wr.cell? ⟨b0,o0+k*4,none⟩=some (.int .i64 31):=by rw[←hid];exact hx0.o
    have c1:=hx1.o
    have c2:=hx2.o
    have c3:=hx3.o
    have hK1:=Keeps.alloc wr (.cells #[.int .i64 31,.int .u32 (x.n:Int),.string x.text,.string x.other] 98)
    have hB1:=hBr.keep hK1 (by simp)
    have hP1:=hP.keep (hK1.mono (S':=[w.heap.size]) (by simp))
    have hsz:=hP1.sz
    have fa:=hB1.frozen 10
    have ca:=(hB1.cell 10).trans (hP1.sc 10 (by omega) (by omega))
    clear hok
    have HP1:=hH hP1
    have HB1:=hH hB1
    have HK1:=hH hK1
    clear hP1 hB1 hP hBr hK1
    go_wp2_with fail
    go_roundg g'
    case measure=>omega
    case rel=>
     have hq:=(HP1.o.one 31 10 (.string x.text) hid (by omega) (by omega) rfl (by decide) rfl).keep (Keeps.setCell (wr.alloc (.cells #[.int .i64 31,.int .u32 (x.n:Int),.string x.text,.string x.other] 98)) ⟨w.heap.size,10,none⟩ (.string x.text))
     have hqb:=HB1.o.set_ 10 (.string x.text)
     have hqk:Keeps [] w ((wr.alloc (.cells #[.int .i64 31,.int .u32 (x.n:Int),.string x.text,.string x.other] 98)).setCell ⟨w.heap.size,10,none⟩ (.string x.text)):=(hkw.o.trans HK1.o (by simp)).trans (Keeps.setCell _ _ _) (by simp)
     exact⟨k+1,(cs.setIfInBounds 10 (.string x.text)),b,by go_num,by omega,by omega,hqb,by rw[htk.o];exact hq,hqk⟩
   ·as_aux_lemma=>
    have hok:okN 33 x.n:=by have h:=hxn.o;rwa [hid] at h
    have c0:wr.cell? ⟨b0,o0+k*4,none⟩=some (.int .i64 33):=by rw[←hid];exact hx0.o
    have c1:=hx1.o
    have c2:=hx2.o
    have c3:=hx3.o
    have hK1:=Keeps.alloc wr (.cells #[.int .i64 33,.int .u32 (x.n:Int),.string x.text,.string x.other] 98)
    have hB1:=hBr.keep hK1 (by simp)
    have hP1:=hP.keep (hK1.mono (S':=[w.heap.size]) (by simp))
    have hsz:=hP1.sz
    have fa:=hB1.frozen 16
    have ca:=(hB1.cell 16).trans (hP1.sc 16 (by omega) (by omega))
    have hgt:decide ((65535:Int)<(x.n:Int))=false:=decide_eq_false (by simp[okN] at hok;omega)
    have hw:(x.n:Int) % 65536=(x.n:Int):=by simp[okN] at hok;omega
    have hcv:IntKind.u16.wrap (x.n:Int)=(x.n:Int):=by simp[okN] at hok;exact IntWalk.u16_in _ (by omega)
    clear hok
    have HP1:=hH hP1
    have HB1:=hH hB1
    have HK1:=hH hK1
    clear hP1 hB1 hP hBr hK1
    go_wp2_with fail
    go_roundg g'
    case measure=>omega
    case rel=>
     have hq:=(HP1.o.one 33 16 (.int .u16 (x.n:Int)) hid (by omega) (by omega) rfl (by decide) rfl).keep (Keeps.setCell (wr.alloc (.cells #[.int .i64 33,.int .u32 (x.n:Int),.string x.text,.string x.other] 98)) ⟨w.heap.size,16,none⟩ (.int .u16 (x.n:Int)))
     have hqb:=HB1.o.set_ 16 (.int .u16 (x.n:Int))
     have hqk:Keeps [] w ((wr.alloc (.cells #[.int .i64 33,.int .u32 (x.n:Int),.string x.text,.string x.other] 98)).setCell ⟨w.heap.size,16,none⟩ (.int .u16 (x.n:Int))):=(hkw.o.trans HK1.o (by simp)).trans (Keeps.setCell _ _ _) (by simp)
     exact⟨k+1,(cs.setIfInBounds 16 (.int .u16 (x.n:Int))),b,by go_num,by omega,by omega,hqb,by rw[htk.o];exact hq,hqk⟩
   ·as_aux_lemma=>
    have hok:okN 34 x.n:=by have h:=hxn.o;rwa [hid] at h
    have c0:wr.cell? ⟨b0,o0+k*4,none⟩=some (.int .i64 34):=by rw[←hid];exact hx0.o
    have c1:=hx1.o
    have c2:=hx2.o
    have c3:=hx3.o
    have hK1:=Keeps.alloc wr (.cells #[.int .i64 34,.int .u32 (x.n:Int),.string x.text,.string x.other] 98)
    have hB1:=hBr.keep hK1 (by simp)
    have hP1:=hP.keep (hK1.mono (S':=[w.heap.size]) (by simp))
    have hsz:=hP1.sz
    have fa:=hB1.frozen 17
    have ca:=(hB1.cell 17).trans (hP1.sc 17 (by omega) (by omega))
    have hgt:decide ((65535:Int)<(x.n:Int))=false:=decide_eq_false (by simp[okN] at hok;omega)
    have hw:(x.n:Int) % 65536=(x.n:Int):=by simp[okN] at hok;omega
    have hcv:IntKind.u16.wrap (x.n:Int)=(x.n:Int):=by simp[okN] at hok;exact IntWalk.u16_in _ (by omega)
    clear hok
    have HP1:=hH hP1
    have HB1:=hH hB1
    have HK1:=hH hK1
    clear hP1 hB1 hP hBr hK1
    go_wp2_with fail
    go_roundg g'
    case measure=>omega
    case rel=>
     have hq:=(HP1.o.one 34 17 (.int .u16 (x.n:Int)) hid (by omega) (by omega) rfl (by decide) rfl).keep (Keeps.setCell (wr.alloc (.cells #[.int .i64 34,.int .u32 (x.n:Int),.string x.text,.string x.other] 98)) ⟨w.heap.size,17,none⟩ (.int .u16 (x.n:Int)))
     have hqb:=HB1.o.set_ 17 (.int .u16 (x.n:Int))
     have hqk:Keeps [] w ((wr.alloc (.cells #[.int .i64 34,.int .u32 (x.n:Int),.string x.text,.string x.other] 98)).setCell ⟨w.heap.size,17,none⟩ (.int .u16 (x.n:Int))):=(hkw.o.trans HK1.o (by simp)).trans (Keeps.setCell _ _ _) (by simp)
     exact⟨k+1,(cs.setIfInBounds 17 (.int .u16 (x.n:Int))),b,by go_num,by omega,by omega,hqb,by rw[htk.o];exact hq,hqk⟩
   ·as_aux_lemma=>
    have hok:okN 35 x.n:=by have h:=hxn.o;rwa [hid] at h
    have c0:wr.cell? ⟨b0,o0+k*4,none⟩=some (.int .i64 35):=by rw[←hid];exact hx0.o
    have c1:=hx1.o
    have c2:=hx2.o
    have c3:=hx3.o
    have hK1:=Keeps.alloc wr (.cells #[.int .i64 35,.int .u32 (x.n:Int),.string x.text,.string x.other] 98)
    have hB1:=hBr.keep hK1 (by simp)
    have hP1:=hP.keep (hK1.mono (S':=[w.heap.size]) (by simp))
    have hsz:=hP1.sz
    have fa:=hB1.frozen 18
    have ca:=(hB1.cell 18).trans (hP1.sc 18 (by omega) (by omega))
    have cf:=(hB1.cell 26).trans (hP1.sc 26 (by omega) (by omega))
    have ff:=hB1.frozen 26
    have hgt:decide ((65535:Int)<(x.n:Int))=false:=decide_eq_false (by simp[okN] at hok;omega)
    have hw:(x.n:Int) % 65536=(x.n:Int):=by simp[okN] at hok;omega
    have hcv:IntKind.u16.wrap (x.n:Int)=(x.n:Int):=by simp[okN] at hok;exact IntWalk.u16_in _ (by omega)
    clear hok
    have HP1:=hH hP1
    have HB1:=hH hB1
    have HK1:=hH hK1
    clear hP1 hB1 hP hBr hK1
    go_wp2_with fail
    go_roundg g'
    case measure=>omega
    case rel=>
     have hq:=(HP1.o.two 35 18 26 (.int .u16 (x.n:Int)) (.bool true) hid (by omega) (by omega) (by omega) (by omega) (by omega) rfl rfl (by decide) rfl rfl).keep ((Keeps.setCell (wr.alloc (.cells #[.int .i64 35,.int .u32 (x.n:Int),.string x.text,.string x.other] 98)) ⟨w.heap.size,18,none⟩ (.int .u16 (x.n:Int))).trans (Keeps.setCell _ ⟨w.heap.size,26,none⟩ (.bool true)) (by simp))
     have hqb:=(HB1.o.set_ 18 (.int .u16 (x.n:Int))).set_ 26 (.bool true)
     have hqk:Keeps [] w (((wr.alloc (.cells #[.int .i64 35,.int .u32 (x.n:Int),.string x.text,.string x.other] 98)).setCell ⟨w.heap.size,18,none⟩ (.int .u16 (x.n:Int))).setCell ⟨w.heap.size,26,none⟩ (.bool true)):=((hkw.o.trans HK1.o (by simp)).trans (Keeps.setCell _ _ _) (by simp)).trans (Keeps.setCell _ _ _) (by simp)
     exact⟨k+1,((cs.setIfInBounds 18 (.int .u16 (x.n:Int))).setIfInBounds 26 (.bool true)),b,by go_num,by omega,by omega,hqb,by rw[htk.o];exact hq,hqk⟩
   ·as_aux_lemma=>
    have hok:okN 36 x.n:=by have h:=hxn.o;rwa [hid] at h
    have c0:wr.cell? ⟨b0,o0+k*4,none⟩=some (.int .i64 36):=by rw[←hid];exact hx0.o
    have c1:=hx1.o
    have c2:=hx2.o
    have c3:=hx3.o
    have hK1:=Keeps.alloc wr (.cells #[.int .i64 36,.int .u32 (x.n:Int),.string x.text,.string x.other] 98)
    have hB1:=hBr.keep hK1 (by simp)
    have hP1:=hP.keep (hK1.mono (S':=[w.heap.size]) (by simp))
    have hsz:=hP1.sz
    have fa:=hB1.frozen 27
    have ca:=(hB1.cell 27).trans (hP1.sc 27 (by omega) (by omega))
    have cf:=(hB1.cell 28).trans (hP1.sc 28 (by omega) (by omega))
    have ff:=hB1.frozen 28
    have hgt:decide ((255:Int)<(x.n:Int))=false:=decide_eq_false (by simp[okN] at hok;omega)
    have hw:(x.n:Int) % 256=(x.n:Int):=by simp[okN] at hok;omega
    have hcv:IntKind.u8.wrap (x.n:Int)=(x.n:Int):=by simp[okN] at hok;exact IntWalk.u8_in _ (by omega)
    clear hok
    have HP1:=hH hP1
    have HB1:=hH hB1
    have HK1:=hH hK1
    clear hP1 hB1 hP hBr hK1
    go_wp2_with fail
    go_roundg g'
    case measure=>omega
    case rel=>
     have hq:=(HP1.o.two 36 27 28 (.int .u8 (x.n:Int)) (.bool true) hid (by omega) (by omega) (by omega) (by omega) (by omega) rfl rfl (by decide) rfl rfl).keep ((Keeps.setCell (wr.alloc (.cells #[.int .i64 36,.int .u32 (x.n:Int),.string x.text,.string x.other] 98)) ⟨w.heap.size,27,none⟩ (.int .u8 (x.n:Int))).trans (Keeps.setCell _ ⟨w.heap.size,28,none⟩ (.bool true)) (by simp))
     have hqb:=(HB1.o.set_ 27 (.int .u8 (x.n:Int))).set_ 28 (.bool true)
     have hqk:Keeps [] w (((wr.alloc (.cells #[.int .i64 36,.int .u32 (x.n:Int),.string x.text,.string x.other] 98)).setCell ⟨w.heap.size,27,none⟩ (.int .u8 (x.n:Int))).setCell ⟨w.heap.size,28,none⟩ (.bool true)):=((hkw.o.trans HK1.o (by simp)).trans (Keeps.setCell _ _ _) (by simp)).trans (Keeps.setCell _ _ _) (by simp)
     exact⟨k+1,((cs.setIfInBounds 27 (.int .u8 (x.n:Int))).setIfInBounds 28 (.bool true)),b,by go_num,by omega,by omega,hqb,by rw[htk.o];exact hq,hqk⟩
   ·as_aux_lemma=>
    have hok:okN 37 x.n:=by have h:=hxn.o;rwa [hid] at h
    have c0:wr.cell? ⟨b0,o0+k*4,none⟩=some (.int .i64 37):=by rw[←hid];exact hx0.o
    have c1:=hx1.o
    have c2:=hx2.o
    have c3:=hx3.o
    have hK1:=Keeps.alloc wr (.cells #[.int .i64 37,.int .u32 (x.n:Int),.string x.text,.string x.other] 98)
    have hB1:=hBr.keep hK1 (by simp)
    have hP1:=hP.keep (hK1.mono (S':=[w.heap.size]) (by simp))
    have hsz:=hP1.sz
    have fa:=hB1.frozen 29
    have ca:=(hB1.cell 29).trans (hP1.sc 29 (by omega) (by omega))
    have cf:=(hB1.cell 30).trans (hP1.sc 30 (by omega) (by omega))
    have ff:=hB1.frozen 30
    have hgt:decide ((255:Int)<(x.n:Int))=false:=decide_eq_false (by simp[okN] at hok;omega)
    have hw:(x.n:Int) % 256=(x.n:Int):=by simp[okN] at hok;omega
    have hcv:IntKind.u8.wrap (x.n:Int)=(x.n:Int):=by simp[okN] at hok;exact IntWalk.u8_in _ (by omega)
    clear hok
    have HP1:=hH hP1
    have HB1:=hH hB1
    have HK1:=hH hK1
    clear hP1 hB1 hP hBr hK1
    go_wp2_with fail
    go_roundg g'
    case measure=>omega
    case rel=>
     have hq:=(HP1.o.two 37 29 30 (.int .u8 (x.n:Int)) (.bool true) hid (by omega) (by omega) (by omega) (by omega) (by omega) rfl rfl (by decide) rfl rfl).keep ((Keeps.setCell (wr.alloc (.cells #[.int .i64 37,.int .u32 (x.n:Int),.string x.text,.string x.other] 98)) ⟨w.heap.size,29,none⟩ (.int .u8 (x.n:Int))).trans (Keeps.setCell _ ⟨w.heap.size,30,none⟩ (.bool true)) (by simp))
     have hqb:=(HB1.o.set_ 29 (.int .u8 (x.n:Int))).set_ 30 (.bool true)
     have hqk:Keeps [] w (((wr.alloc (.cells #[.int .i64 37,.int .u32 (x.n:Int),.string x.text,.string x.other] 98)).setCell ⟨w.heap.size,29,none⟩ (.int .u8 (x.n:Int))).setCell ⟨w.heap.size,30,none⟩ (.bool true)):=((hkw.o.trans HK1.o (by simp)).trans (Keeps.setCell _ _ _) (by simp)).trans (Keeps.setCell _ _ _) (by simp)
     exact⟨k+1,((cs.setIfInBounds 29 (.int .u8 (x.n:Int))).setIfInBounds 30 (.bool true)),b,by go_num,by omega,by omega,hqb,by rw[htk.o];exact hq,hqk⟩
   ·as_aux_lemma=>
    have hok:okN 38 x.n:=by have h:=hxn.o;rwa [hid] at h
    have c0:wr.cell? ⟨b0,o0+k*4,none⟩=some (.int .i64 38):=by rw[←hid];exact hx0.o
    have c1:=hx1.o
    have c2:=hx2.o
    have c3:=hx3.o
    have hK1:=Keeps.alloc wr (.cells #[.int .i64 38,.int .u32 (x.n:Int),.string x.text,.string x.other] 98)
    have hB1:=hBr.keep hK1 (by simp)
    have hP1:=hP.keep (hK1.mono (S':=[w.heap.size]) (by simp))
    have hsz:=hP1.sz
    have fa:=hB1.frozen 3
    obtain⟨A1,c1,x1,x2,x3⟩:=hP1.us
    have hle:(usersOf (l.take k)).length≤20:=by have h1:=usersOf_le (l.take k);have h2:(l.take k).length≤20:=(by simp;omega);omega
    obtain⟨N,hN⟩:∃N,(usersOf (l.take k)).length=N:=⟨_,rfl⟩
    rw[hN] at x1 x2 hle
    have ca:(wr.alloc (.cells #[.int .i64 38,.int .u32 (x.n:Int),.string x.text,.string x.other] 98)).cell? ⟨w.heap.size,3,none⟩=some (.slice A1 N c1):=by rw[hB1.cell];exact x1
    have hs1:(wr.alloc (.cells #[.int .i64 38,.int .u32 (x.n:Int),.string x.text,.string x.other] 98)).heap.size=wr.heap.size+1:=by simp
    have ho2:((wr.alloc (.cells #[.int .i64 38,.int .u32 (x.n:Int),.string x.text,.string x.other] 98)).alloc (.cells #[.string x.text,.string x.other] 124)).ownsRow 0 124 2 (.slice A1 N c1) N _:=x2.alloc _
    have hr2:Rd ((wr.alloc (.cells #[.int .i64 38,.int .u32 (x.n:Int),.string x.text,.string x.other] 98)).alloc (.cells #[.string x.text,.string x.other] 124)) 2 (some ⟨(wr.alloc (.cells #[.int .i64 38,.int .u32 (x.n:Int),.string x.text,.string x.other] 98)).heap.size,0,none⟩) 1 [.string x.text,.string x.other]:=rd_new (wr.alloc (.cells #[.int .i64 38,.int .u32 (x.n:Int),.string x.text,.string x.other] 98)) 124 #[.string x.text,.string x.other] 2 1 rfl
    rw[hs1] at hr2
    have hB2:Blk ((wr.alloc (.cells #[.int .i64 38,.int .u32 (x.n:Int),.string x.text,.string x.other] 98)).alloc (.cells #[.string x.text,.string x.other] 124)) w.heap.size 76 cs:=hB1.alloc _
    have hP2:=hP1.keep ((Keeps.alloc (wr.alloc (.cells #[.int .i64 38,.int .u32 (x.n:Int),.string x.text,.string x.other] 98)) (.cells #[.string x.text,.string x.other] 124)).mono (S':=[w.heap.size]) (by simp))
    have hBlt:w.heap.size<((wr.alloc (.cells #[.int .i64 38,.int .u32 (x.n:Int),.string x.text,.string x.other] 98)).alloc (.cells #[.string x.text,.string x.other] 124)).heap.size:=hB2.lt
    have hKA:Keeps [] w ((wr.alloc (.cells #[.int .i64 38,.int .u32 (x.n:Int),.string x.text,.string x.other] 98)).alloc (.cells #[.string x.text,.string x.other] 124)):=(hkw.o.trans hK1 (by simp)).trans (Keeps.alloc _ _) (by simp)
    have hnB:∀q,A1.map (·.block)=some q→w.heap.size<q:=fun q hq=>(hP1.lt 3 q (by omega) (by rw[←x3,hq])).1
    obtain⟨i0,hi0,hz0,hz1,hz2⟩:=info_parts info124
    have HP2:=hH hP2
    have HB2:=hH hB2
    have HKA:=hH hKA
    have HX2:=hH ho2
    have HR2:=hH hr2
    have HNB:=hH hnB
    have HX3:=hH x3
    have HNN:=hH hN
    clear hP1 hB1 hP hBr hK1 hB2 hKA hP2 hs1 x1 x2 ho2 hr2 hnB x3 hN hok
    go_wp2_with (at_builtin;refine wpList_append_rd _ rfl (.tmp 187) (.tmp 193) 72 rfl 124 i0 _ 2 32 underlying72 hi0 hz0 hz1 hz2 rfl (by decide) (.slice A1 N c1) N _ rfl HX2.o _ 1 1 _ rfl HR2.o (by intro u hu;simp at hu;rcases hu with rfl|rfl<;>rfl) (by omega) (by unfold maxLen;omega) ?_;intro A2 c2 w3 ho3 hk3 hd3;rw[own_slice] at hk3 hd3;have hne:w.heap.size∉(A1.map (·.block)).toList:=(by intro hm;cases e:A1.map (·.block) with|none=>rw[e] at hm;simp at hm|some q=>rw[e] at hm;simp at hm;have:=HNB.o q e;omega);have HB3:=hH (HB2.o.keep hk3 hne);have ca3:w3.cell? ⟨w.heap.size,3,none⟩=some (.slice A1 N c1):=(by rw[HB3.o.cell,←HB2.o.cell];exact(Keeps.alloc _ _).some_ ca (by simp));have fa3:w3.frozen? ⟨w.heap.size,3,none⟩=false:=HB3.o.frozen 3)
    go_roundg g'
    case measure=>omega
    case rel=>
     have hk4:Keeps (b 3).toList ((wr.alloc (.cells #[.int .i64 38,.int .u32 (x.n:Int),.string x.text,.string x.other] 98)).alloc (.cells #[.string x.text,.string x.other] 124)) w3:=by rw[←HX3.o];exact hk3
     have hd4:A2.map (·.block)=b 3∨∃q,A2.map (·.block)=some q∧((wr.alloc (.cells #[.int .i64 38,.int .u32 (x.n:Int),.string x.text,.string x.other] 98)).alloc (.cells #[.string x.text,.string x.other] 124)).heap.size≤q:=by rw[←HX3.o];exact hd3.imp id (fun h=>⟨_,h,Nat.le_refl _⟩)
     have hq:=HP2.o.row3 (A:=A2) (c:=c2) hid hBlt hk4 (by rw[HNN.o];exact ho3) hd4
     rw[HNN.o] at hq
     exact⟨k+1,_,_,by go_num,by omega,by omega,HB3.o.set_ 3 _,by rw[htk.o];exact hq.keep (Keeps.setCell _ ⟨w.heap.size,3,none⟩ _),((HKA.o.trans hk3 (fun q hq=>.inr (by cases e:A1.map (·.block) with|none=>rw[e] at hq;simp at hq|some r=>rw[e] at hq;simp at hq;have:=HNB.o r e;omega))).trans (Keeps.setCell _ _ _) (by simp))⟩
   ·as_aux_lemma=>
    have hok:okN 39 x.n:=by have h:=hxn.o;rwa [hid] at h
    have c0:wr.cell? ⟨b0,o0+k*4,none⟩=some (.int .i64 39):=by rw[←hid];exact hx0.o
    have c1:=hx1.o
    have c2:=hx2.o
    have c3:=hx3.o
    have hK1:=Keeps.alloc wr (.cells #[.int .i64 39,.int .u32 (x.n:Int),.string x.text,.string x.other] 98)
    have hB1:=hBr.keep hK1 (by simp)
    have hP1:=hP.keep (hK1.mono (S':=[w.heap.size]) (by simp))
    have hsz:=hP1.sz
    have fa:=hB1.frozen 14
    have ca:=(hB1.cell 14).trans (hP1.sc 14 (by omega) (by omega))
    clear hok
    have HP1:=hH hP1
    have HB1:=hH hB1
    have HK1:=hH hK1
    clear hP1 hB1 hP hBr hK1
    go_wp2_with fail
    go_roundg g'
    case measure=>omega
    case rel=>
     have hq:=(HP1.o.one 39 14 (.int .u32 (x.n:Int)) hid (by omega) (by omega) rfl (by decide) rfl).keep (Keeps.setCell (wr.alloc (.cells #[.int .i64 39,.int .u32 (x.n:Int),.string x.text,.string x.other] 98)) ⟨w.heap.size,14,none⟩ (.int .u32 (x.n:Int)))
     have hqb:=HB1.o.set_ 14 (.int .u32 (x.n:Int))
     have hqk:Keeps [] w ((wr.alloc (.cells #[.int .i64 39,.int .u32 (x.n:Int),.string x.text,.string x.other] 98)).setCell ⟨w.heap.size,14,none⟩ (.int .u32 (x.n:Int))):=(hkw.o.trans HK1.o (by simp)).trans (Keeps.setCell _ _ _) (by simp)
     exact⟨k+1,(cs.setIfInBounds 14 (.int .u32 (x.n:Int))),b,by go_num,by omega,by omega,hqb,by rw[htk.o];exact hq,hqk⟩
   ·as_aux_lemma=>
    have hok:okN 40 x.n:=by have h:=hxn.o;rwa [hid] at h
    have c0:wr.cell? ⟨b0,o0+k*4,none⟩=some (.int .i64 40):=by rw[←hid];exact hx0.o
    have c1:=hx1.o
    have c2:=hx2.o
    have c3:=hx3.o
    have hK1:=Keeps.alloc wr (.cells #[.int .i64 40,.int .u32 (x.n:Int),.string x.text,.string x.other] 98)
    have hB1:=hBr.keep hK1 (by simp)
    have hP1:=hP.keep (hK1.mono (S':=[w.heap.size]) (by simp))
    have hsz:=hP1.sz
    have fa:=hB1.frozen 31
    have ca:=(hB1.cell 31).trans (hP1.sc 31 (by omega) (by omega))
    have cf:=(hB1.cell 32).trans (hP1.sc 32 (by omega) (by omega))
    have ff:=hB1.frozen 32
    have hgt:decide ((255:Int)<(x.n:Int))=false:=decide_eq_false (by simp[okN] at hok;omega)
    have hw:(x.n:Int) % 256=(x.n:Int):=by simp[okN] at hok;omega
    have hcv:IntKind.u8.wrap (x.n:Int)=(x.n:Int):=by simp[okN] at hok;exact IntWalk.u8_in _ (by omega)
    clear hok
    have HP1:=hH hP1
    have HB1:=hH hB1
    have HK1:=hH hK1
    clear hP1 hB1 hP hBr hK1
    go_wp2_with fail
    go_roundg g'
    case measure=>omega
    case rel=>
     have hq:=(HP1.o.two 40 31 32 (.int .u8 (x.n:Int)) (.bool true) hid (by omega) (by omega) (by omega) (by omega) (by omega) rfl rfl (by decide) rfl rfl).keep ((Keeps.setCell (wr.alloc (.cells #[.int .i64 40,.int .u32 (x.n:Int),.string x.text,.string x.other] 98)) ⟨w.heap.size,31,none⟩ (.int .u8 (x.n:Int))).trans (Keeps.setCell _ ⟨w.heap.size,32,none⟩ (.bool true)) (by simp))
     have hqb:=(HB1.o.set_ 31 (.int .u8 (x.n:Int))).set_ 32 (.bool true)
     have hqk:Keeps [] w (((wr.alloc (.cells #[.int .i64 40,.int .u32 (x.n:Int),.string x.text,.string x.other] 98)).setCell ⟨w.heap.size,31,none⟩ (.int .u8 (x.n:Int))).setCell ⟨w.heap.size,32,none⟩ (.bool true)):=((hkw.o.trans HK1.o (by simp)).trans (Keeps.setCell _ _ _) (by simp)).trans (Keeps.setCell _ _ _) (by simp)
     exact⟨k+1,((cs.setIfInBounds 31 (.int .u8 (x.n:Int))).setIfInBounds 32 (.bool true)),b,by go_num,by omega,by omega,hqb,by rw[htk.o];exact hq,hqk⟩
   ·as_aux_lemma=>
    have hok:okN 41 x.n:=by have h:=hxn.o;rwa [hid] at h
    have c0:wr.cell? ⟨b0,o0+k*4,none⟩=some (.int .i64 41):=by rw[←hid];exact hx0.o
    have c1:=hx1.o
    have c2:=hx2.o
    have c3:=hx3.o
    have hK1:=Keeps.alloc wr (.cells #[.int .i64 41,.int .u32 (x.n:Int),.string x.text,.string x.other] 98)
    have hB1:=hBr.keep hK1 (by simp)
    have hP1:=hP.keep (hK1.mono (S':=[w.heap.size]) (by simp))
    have hsz:=hP1.sz
    have fa:=hB1.frozen 33
    have ca:=(hB1.cell 33).trans (hP1.sc 33 (by omega) (by omega))
    have cf:=(hB1.cell 34).trans (hP1.sc 34 (by omega) (by omega))
    have ff:=hB1.frozen 34
    have hgt:decide ((255:Int)<(x.n:Int))=false:=decide_eq_false (by simp[okN] at hok;omega)
    have hw:(x.n:Int) % 256=(x.n:Int):=by simp[okN] at hok;omega
    have hcv:IntKind.u8.wrap (x.n:Int)=(x.n:Int):=by simp[okN] at hok;exact IntWalk.u8_in _ (by omega)
    clear hok
    have HP1:=hH hP1
    have HB1:=hH hB1
    have HK1:=hH hK1
    clear hP1 hB1 hP hBr hK1
    go_wp2_with fail
    go_roundg g'
    case measure=>omega
    case rel=>
     have hq:=(HP1.o.two 41 33 34 (.int .u8 (x.n:Int)) (.bool true) hid (by omega) (by omega) (by omega) (by omega) (by omega) rfl rfl (by decide) rfl rfl).keep ((Keeps.setCell (wr.alloc (.cells #[.int .i64 41,.int .u32 (x.n:Int),.string x.text,.string x.other] 98)) ⟨w.heap.size,33,none⟩ (.int .u8 (x.n:Int))).trans (Keeps.setCell _ ⟨w.heap.size,34,none⟩ (.bool true)) (by simp))
     have hqb:=(HB1.o.set_ 33 (.int .u8 (x.n:Int))).set_ 34 (.bool true)
     have hqk:Keeps [] w (((wr.alloc (.cells #[.int .i64 41,.int .u32 (x.n:Int),.string x.text,.string x.other] 98)).setCell ⟨w.heap.size,33,none⟩ (.int .u8 (x.n:Int))).setCell ⟨w.heap.size,34,none⟩ (.bool true)):=((hkw.o.trans HK1.o (by simp)).trans (Keeps.setCell _ _ _) (by simp)).trans (Keeps.setCell _ _ _) (by simp)
     exact⟨k+1,((cs.setIfInBounds 33 (.int .u8 (x.n:Int))).setIfInBounds 34 (.bool true)),b,by go_num,by omega,by omega,hqb,by rw[htk.o];exact hq,hqk⟩
   ·as_aux_lemma=>
    have hok:okN 42 x.n:=by have h:=hxn.o;rwa [hid] at h
    have c0:wr.cell? ⟨b0,o0+k*4,none⟩=some (.int .i64 42):=by rw[←hid];exact hx0.o
    have c1:=hx1.o
    have c2:=hx2.o
    have c3:=hx3.o
    have hK1:=Keeps.alloc wr (.cells #[.int .i64 42,.int .u32 (x.n:Int),.string x.text,.string x.other] 98)
    have hB1:=hBr.keep hK1 (by simp)
    have hP1:=hP.keep (hK1.mono (S':=[w.heap.size]) (by simp))
    have hsz:=hP1.sz
    have fa:=hB1.frozen 35
    have ca:=(hB1.cell 35).trans (hP1.sc 35 (by omega) (by omega))
    have cf:=(hB1.cell 36).trans (hP1.sc 36 (by omega) (by omega))
    have ff:=hB1.frozen 36
    have hgt:decide ((255:Int)<(x.n:Int))=false:=decide_eq_false (by simp[okN] at hok;omega)
    have hw:(x.n:Int) % 256=(x.n:Int):=by simp[okN] at hok;omega
    have hcv:IntKind.u8.wrap (x.n:Int)=(x.n:Int):=by simp[okN] at hok;exact IntWalk.u8_in _ (by omega)
    clear hok
    have HP1:=hH hP1
    have HB1:=hH hB1
    have HK1:=hH hK1
    clear hP1 hB1 hP hBr hK1
    go_wp2_with fail
    go_roundg g'
    case measure=>omega
    case rel=>
     have hq:=(HP1.o.two 42 35 36 (.int .u8 (x.n:Int)) (.bool true) hid (by omega) (by omega) (by omega) (by omega) (by omega) rfl rfl (by decide) rfl rfl).keep ((Keeps.setCell (wr.alloc (.cells #[.int .i64 42,.int .u32 (x.n:Int),.string x.text,.string x.other] 98)) ⟨w.heap.size,35,none⟩ (.int .u8 (x.n:Int))).trans (Keeps.setCell _ ⟨w.heap.size,36,none⟩ (.bool true)) (by simp))
     have hqb:=(HB1.o.set_ 35 (.int .u8 (x.n:Int))).set_ 36 (.bool true)
     have hqk:Keeps [] w (((wr.alloc (.cells #[.int .i64 42,.int .u32 (x.n:Int),.string x.text,.string x.other] 98)).setCell ⟨w.heap.size,35,none⟩ (.int .u8 (x.n:Int))).setCell ⟨w.heap.size,36,none⟩ (.bool true)):=((hkw.o.trans HK1.o (by simp)).trans (Keeps.setCell _ _ _) (by simp)).trans (Keeps.setCell _ _ _) (by simp)
     exact⟨k+1,((cs.setIfInBounds 35 (.int .u8 (x.n:Int))).setIfInBounds 36 (.bool true)),b,by go_num,by omega,by omega,hqb,by rw[htk.o];exact hq,hqk⟩
  ·as_aux_lemma=>
   have hll:l.take k=l:=List.take_of_length_le (by omega)
   rw[hll] at hP
   have hsz:=hP.sz
   have hi:(prog.info? 76).map (·.size)=some cs.size:=by rw[hsz];kernel_rfl
   have h1:cs.all (·.oneCell')=true:=by
    rw[Array.all_eq_true_iff_forall_mem]
    intro v hv
    obtain⟨j,hj,rfl⟩:=Array.mem_iff_getElem.1 hv
    exact hP.one1 j _ (Array.getElem?_eq_getElem hj)
   have hst:(wr.setRow w.heap.size cs)=wr:=setRow_self _ _ _ _ _ hBr
   have HBr:=hH hBr
   have HP:=hH hP
   have HI:=hH hi
   have H1:=hH h1
   have HST:=hH hst
   clear hP hBr hcells HN hll hi h1 hst
   go_wp2_with (first|refine wpList_load_row rfl 76 (.tmp 2) rfl w.heap.size rfl 76 cs (0,0) _ HBr.o underlying76 rfl HI.o ?_|(refine wpList_store_row rfl 76 (.tmp 2) (.tmp 235) rfl w.heap.size cs rfl rfl 76 cs HBr.o HI.o rfl H1.o ?_;rw[HST.o]))
   (try simp only[Exit.inBlock,Exit.then])
   refine bodyPost_ret (v:=.tuple #[.agg cs,.bool true]) ?_ rfl ?_
   ·rw[results_cell_tmp (p:=2) (ty:=76) (u:=3) rfl]
    have hlv:=run_loadVar_row (P:=prog) wr w.heap.size 76 76 cs (0,0) _ HBr.o underlying76 rfl HI.o
    simp[hlv,asAddr]
   ·exact⟨cs,b,rfl,HP.o,hkw.o⟩
end Go.Proofs.YtkglmacaecmhdaaGreatDoor
