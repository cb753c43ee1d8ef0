/- FnRoad, part Z: the walks of Z0, Z1, Z2, Z3, Z4, N0, Z5. -/
import Derived.Test.YtkglmacaecmhdaaGreatDoorO
import Derived.Test.YtkglmacaecmhdaaGreatDoorS
import Derived.Test.YtkglmacaecmhdaaGreatDoorV
import Derived.Test.YtkglmacaecmhdaaGreatDoorVa
import Derived.Test.YtkglmacaecmhdaaGreatDoorXa
import Derived.Test.YtkglmacaecmhdaaGreatDoorY
set_option linter.unusedVariables false
set_option linter.unusedSimpArgs false
set_option maxHeartbeats 8000000
set_option maxRecDepth 100000
namespace Go.Proofs.YtkglmacaecmhdaaGreatDoor
open Go Go.RowKit Tryz
def En1Out (w:World) (g pd:Nat) (bytes:List UInt8) (w':World):Prop:=∃A c,Blk w' pd 22 #[.slice A bytes.length c]∧Rd w' 1 A bytes.length (bvs bytes)∧bytes.length≤c∧(∀a,A=some a→w.heap.size≤a.block∧a.block<w'.heap.size)∧Keeps [g,pd] w w'
theorem enc1_c (w:World) (px pd g:Nat) (bytes:List UInt8) (hpx:Blk w px 62 #[.pointer (some ⟨g,0,none⟩)]) (hpd:Blk w pd 22 #[.slice none 0 0]) (hgx:px≠g) (hgd:pd≠g) (hb:bytes.length≤1099511627776)
 (hZ:Calls prog 27 #[.pointer (some ⟨g,0,none⟩)] w (ZZOut w g bytes)):
 Calls prog 26 #[.pointer (some ⟨px,0,none⟩),.pointer (some ⟨pd,0,none⟩)] w fun e w'=>e=.returned (.bool true)∧En1Out w g pd bytes w':=by
 have HZ:=hH hZ
 have HPD:=hH hpd
 have x0:w.cell? ⟨px,0,none⟩=some (.pointer (some ⟨g,0,none⟩)):=by rw[hpx.cell];rfl
 clear hZ hpx hpd
 go_enter func26,ntmps26
 go_wp2_with fail
 go_fit (HZ.o)
 rintro e w1 ⟨A,c,rfl,hr,hk,ha⟩
 have CL:=hH (clone2_c w1 A c bytes hr hb)
 have HPD1:=hH (HPD.o.keep hk (by simpa using hgd))
 have HK:=hH hk
 clear hr hk ha x0
 go_wp2_with fail
 go_fit (CL.o)
 rintro e w2 ⟨A2,c2,rfl,hr2,hk2,hc2,hb2⟩
 have HPD2:=hH (HPD1.o.keep hk2 (by simp))
 have hset:=Keeps.setCell w2 ⟨pd,0,none⟩ (.slice A2 bytes.length c2)
 have HFIN:Hd (En1Out w g pd bytes (w2.setCell ⟨pd,0,none⟩ (.slice A2 bytes.length c2))):=
  ⟨A2,c2,HPD2.o.set_ 0 _,hr2.keep hset (fun a h hm=>by have:=hb2 a h;have h3:=HPD1.o.lt;simp at hm;omega),hc2,fun a h=>⟨by have:=hb2 a h;have:=HK.o.size;omega,by rw[World.size_setCell];exact(hb2 a h).2⟩,((HK.o.mono (by simp)).trans hk2 (by simp)).trans hset (by simp)⟩
 have y0:w2.cell? ⟨pd,0,none⟩=some (.slice none 0 0):=by rw[HPD2.o.cell];rfl
 have fy:=HPD2.o.frozen 0
 clear hr2 hk2 hc2 hb2 hset
 go_wp2_with fail
 go_ret
 exact⟨rfl,HFIN.o⟩
def EncOut (w:World) (bytes:List UInt8) (e:Ending) (w':World):Prop:=
 ∃A c,e=.returned (.tuple #[.slice A bytes.length c,.bool true])∧Rd w' 1 A bytes.length (bvs bytes)∧bytes.length≤c∧(∀a,A=some a→w.heap.size≤a.block∧a.block<w'.heap.size)∧Keeps [] w w'
theorem encode_c (w:World) (p:PkV) (v:Nat→Value) (bytes:List UInt8) (hm:PkMem AllB w p v) (hn:PkNums p) (hb:bytes.length≤1099511627776)
 (hZ:∀(w0 w1:World) (bp G:Nat) (v F:Nat→Value),Keeps [] w w1→GvSt w0 w1 bp G p v F p.will p.user p.pass p.codes p.subs p.props→Calls prog 27 #[.pointer (some ⟨G,0,none⟩)] w1 (ZZOut w1 G bytes)):
 Calls prog 9 #[.agg (p.cells v)] w (EncOut w bytes):=by
 obtain⟨W,hW⟩:∃W,(w.alloc (.cells (p.cells v) 29)).alloc (.cells #[.slice none 0 0] 22)=W:=⟨_,rfl⟩
 have hk:Keeps [] w W:=by rw[←hW];exact(Keeps.alloc _ _).trans (Keeps.alloc _ _) (by simp)
 have hp:Blk W w.heap.size 29 (p.cells v):=by rw[←hW];exact(Blk.new _ _ _).alloc _
 have hd:Blk W (w.heap.size+1) 22 #[.slice none 0 0]:=by rw[←hW];have h:=Blk.new (w.alloc (.cells (p.cells v) 29)) 22 #[.slice none 0 0];rwa [World.size_alloc] at h
 have hs:W.heap.size=w.heap.size+2:=by rw[←hW];simp
 have hm1:=hm.keep hk (by simp)
 have HGV:=hH (given_c AllB W p v hm1 hn)
 have HK:=hH hk
 have HP:=hH hp
 have HD:=hH hd
 have HS:=hH hs
 have HZ:=hH hZ
 have hsz:(prog.info? 29).map (·.size)=some (p.cells v).size:=by show _=some 21;kernel_rfl
 have HSZ:=hH hsz
 have HW:=hH hW
 have hmf:∀(fn:Fn) (first cap:Array Value) (w:World),(Instr.makeFunc fn first cap).run prog w=.ok (.func fn first cap) w:=fun _ _ _ _=>rfl
 clear hm hn hm1 hZ hk hp hd hs hsz hW
 obtain⟨cs,hcs⟩:∃cs,p.cells v=cs:=⟨_,rfl⟩
 rw[hcs] at HGV HP HSZ HW
 rw[hcs]
 clear hcs
 go_enter func9,ntmps9
 go_upto_region 1 with fail
 rw[HW.o]
 clear HW
 go_wp2_with (refine wpList_load_row rfl 29 (.tmp 1) rfl w.heap.size rfl 29 cs (0,0) _ HP.o underlying29 rfl HSZ.o ?_)
 go_fit (HGV.o)
 rintro e w2 ⟨bp,G,v2,F,rfl,hg⟩
 have hlo:=hg.lo
 have hlt:=hg.lt
 have hbg:=hg.bg.lt
 have hkg:=hg.k
 have hs:=HS.o
 obtain⟨W3,hW3⟩:∃W3,w2.alloc (.cells #[.pointer (some ⟨G,0,none⟩)] 62)=W3:=⟨_,rfl⟩
 have hk3:Keeps [] w2 W3:=by rw[←hW3];exact Keeps.alloc _ _
 have hx:Blk W3 w2.heap.size 62 #[.pointer (some ⟨G,0,none⟩)]:=by rw[←hW3];exact Blk.new _ _ _
 have hs3:W3.heap.size=w2.heap.size+1:=by rw[←hW3];simp
 have hk:=hk3.trans (Keeps.alloc W3 (.cells #[.bool false] 4)) (by simp)
 have hz:=hkg.size
 have hd1:=enc1_c (W3.alloc (.cells #[.bool false] 4)) w2.heap.size (w.heap.size+1) G bytes (hx.alloc _) ((HD.o.keep hkg (by simp)).keep hk (by simp)) (by omega) (by omega) hb (HZ.o _ _ _ _ _ _ ((HK.o.trans hkg (by simp)).trans hk (by simp)) (hg.keep hk (by simp)))
 have ht:=try_c W3 26 #[.pointer (some ⟨w2.heap.size,0,none⟩),.pointer (some ⟨w.heap.size+1,0,none⟩)] true [G,w.heap.size+1] (fun w'=>En1Out (W3.alloc (.cells #[.bool false] 4)) G (w.heap.size+1) bytes w') (by rw[hs3];simp;omega) (fun _=>by kernel_rfl) (hd1.mono (by rintro e w' ⟨rfl,h⟩;exact⟨rfl,h,by obtain⟨_,_,_,_,_,_,h⟩:=h;exact h⟩))
 have TR:=hH ht
 have HK3:=hH ((HK.o.trans hkg (by simp)).trans hk3 (by simp))
 have HS3:=hH hs3
 have HW3:=hH hW3
 have HGB:Hd (w.heap.size+1<w2.heap.size∧W.heap.size≤G∧G<w2.heap.size∧w.heap.size≤w2.heap.size):=⟨by omega,by omega,by omega,by omega⟩
 clear hg hlo hlt hbg hkg hs hk3 hx hs3 hk hz hd1 ht hW3
 go_wp2_with fail
 rw[HW3.o]
 go_fit (TR.o)
 rintro e w6 ⟨rfl,w5,⟨A,c,hb5,hr5,hc5,ha5,hk5⟩,hk5b,rfl⟩
 have hset:=Keeps.setCell w5 ⟨W3.heap.size,0,none⟩ (.bool true)
 have hg0:=HGB.o
 have hs3:=HS3.o
 have hs:=HS.o
 have hz5:(W3.alloc (.cells #[.bool false] 4)).heap.size=W3.heap.size+1:=by simp
 have hb6:=hb5.keep hset (by simp;omega)
 have hr6:=hr5.keep hset (fun a h hm=>by have:=ha5 a h;simp at hm;omega)
 have hk6:Keeps [G,w.heap.size+1] W3 (w5.setCell ⟨W3.heap.size,0,none⟩ (.bool true)):=(((Keeps.alloc W3 (.cells #[.bool false] 4)).mono (by simp)).trans hk5 (by simp)).trans hset (by simp)
 have ha6:∀a,A=some a→W3.heap.size<a.block∧a.block<(w5.setCell ⟨W3.heap.size,0,none⟩ (.bool true)).heap.size:=fun a h=>by have:=ha5 a h;rw[World.size_setCell];omega
 have HB6:=hH hb6
 have HR6:=hH hr6
 have HK6:=hH hk6
 have HA6:=hH ha6
 have HC:=hH hc5
 clear hset hz5 hb6 hr6 hk6 ha6 hb5 hr5 hc5 ha5 hk5 hk5b TR hg0 hs3 hs
 generalize w5.setCell ⟨W3.heap.size,0,none⟩ (.bool true)=w6 at*
 have y0:w6.cell? ⟨w.heap.size+1,0,none⟩=some (.slice A bytes.length c):=by rw[HB6.o.cell];rfl
 have fy:=HB6.o.frozen 0
 have hset:=Keeps.setCell w6 ⟨w.heap.size+1,0,none⟩ (.slice A bytes.length c)
 have hb7:=HB6.o.set_ 0 (.slice A bytes.length c)
 have hr7:=HR6.o.keep hset (fun a h hm=>by have:=HA6.o a h;have:=HS3.o;have:=HGB.o;simp at hm;omega)
 have hk7:=(HK3.o.trans HK6.o (by have:=HGB.o;have:=HS.o;simp;omega)).trans hset (by simp)
 have HB7:=hH hb7
 have HR7:=hH hr7
 have HK7:=hH hk7
 have hz7:(w6.setCell ⟨w.heap.size+1,0,none⟩ (.slice A bytes.length c)).heap.size=w6.heap.size:=World.size_setCell _ _ _
 have HZ7:=hH hz7
 clear hset hb7 hr7 hk7 hz7
 go_wp2_with fail
 generalize w6.setCell ⟨w.heap.size+1,0,none⟩ (.slice A bytes.length c)=w7 at*
 have z0:w7.cell? ⟨w.heap.size+1,0,none⟩=some (.slice A bytes.length c):=by rw[HB7.o.cell];rfl
 refine bodyPost_ret (v:=.tuple #[.slice A bytes.length c,.bool true]) ?_ rfl ⟨A,c,rfl,HR7.o,HC.o,fun a h=>⟨by have:=HA6.o a h;have:=HGB.o;have:=HS3.o;omega,by rw[HZ7.o];exact(HA6.o a h).2⟩,HK7.o⟩
 rw[results_cell_tmp (p:=2) (ty:=22) (u:=3) rfl]
 have hlv:(loadVar 22 ⟨w.heap.size+1,0,none⟩).run prog w7=.ok (.slice A bytes.length c) w7:=by go_simp
 simp[hlv,asAddr]
def EncR (p:PkV) (bytes:List UInt8):Prop:=∀(w0 w1:World) (bp G:Nat) (v F:Nat→Value),w1.cell? ⟨21,1,none⟩=some (.int .u8 128)→GvSt w0 w1 bp G p v F p.will p.user p.pass p.codes p.subs p.props→Calls prog 27 #[.pointer (some ⟨G,0,none⟩)] w1 (ZZOut w1 G bytes)
def Road (p:PkV) (ver:Int):Prop:=∃(t q:Nat) (dup ret:Bool) (body:List UInt8),HdOK t q dup ret∧body.length≤50000000∧EncR p (whole t q dup ret body)∧∀(w1:World) (g:Nat),29<g→g<w1.heap.size→BodyRd w1 g t q dup ret ver body p
section
variable {w0 w1:World} {bp G:Nat} {p:PkV} {v F:Nat→Value} {wl:List WillV} {us ps:List (List UInt8)} {cds:List Int} {sbs:List SubP} {pr:List PropV}
theorem GvSt.sc_ (h:GvSt w0 w1 bp G p v F wl us ps cds sbs pr) (j:Nat) (u:Value) (hm:(j,u)∈scal p):F j=u:=h.sc (j,u) hm
theorem GvSt.enc (h:GvSt w0 w1 bp G p v F wl us ps cds sbs pr) (t q ver:Nat) (ht:p.kind=t) (hq:p.qos=q) (hv:p.version=ver) (ht16:t<16) (hq4:q<4):
 PkEnc (w1.alloc (.cells #[.slice none 0 0] 111)) G (arr F) F t q p.dup p.retain ver where
 blk:=h.bg.keep (Keeps.alloc _ _) (by simp)
 sz:=arr_size F
 at_:=fun j hj=>arr_get F j hj
 ht:=ht16
 hq:=hq4
 e93:=by rw[←ht];exact h.sc_ 93 _ (by simp[scal])
 e94:=by rw[←hq];exact h.sc_ 94 _ (by simp[scal])
 e95:=h.sc_ 95 _ (by simp[scal])
 e96:=h.sc_ 96 _ (by simp[scal])
 e99:=h.sc_ 99 _ (by simp[scal])
 e100:=h.sc_ 100 _ (by simp[scal])
 e101:=h.sc_ 101 _ (by simp[scal])
 e103:=by rw[←hv];exact h.sc_ 103 _ (by simp[scal])
theorem GvSt.bb (h:GvSt w0 w1 bp G p v F wl us ps cds sbs pr):G≠w1.heap.size:=by have:=h.bg.lt;omega
theorem PStF.pall {kind:Int} {o:Nat} (h:PStF G w1 F o pr) (hP:ProperL kind pr):PAll (w1.alloc (.cells #[.slice none 0 0] 111)) (pktOf kind) (fun j=>F (o+j)) (sOf pr):=by
 obtain⟨B,b,hB,hst⟩:=h.keep (Keeps.alloc w1 (.cells #[.slice none 0 0] 111)) (by simp)
 exact pAll hP hst (fun j=>F (o+j)) (fun j hj=>by rw[List.getElem?_toArray,slc_get F o 37 j hj])
theorem pb_enc {kind:Int} (hP:ProperL kind pr):pbytes (sOf pr)=encPL pr:=by unfold pbytes encPL;rw[pre_sOf hP]
theorem DatNew.parts {lo:Nat} {u:Value} {ys:List UInt8} (h:DatNew lo G w1 u ys):∃A c,u=.slice A ys.length c∧Rd (w1.alloc (.cells #[.slice none 0 0] 111)) 1 A ys.length (bvs ys)∧(∀a,A=some a→a.block<(w1.alloc (.cells #[.slice none 0 0] 111)).heap.size)∧∀a,A=some a→a.block≠G∧a.block≠w1.heap.size:=by
 obtain⟨A,c,h1,h2,h3⟩:=h
 exact⟨A,c,h1,h2.keep (Keeps.alloc _ _) (by simp),fun a ha=>by have:=h3 a ha;rw[World.size_alloc];omega,fun a ha=>by have:=h3 a ha;exact⟨this.2.1,by omega⟩⟩
theorem GvSt.c93 (h:GvSt w0 w1 bp G p v F wl us ps cds sbs pr) (t:Nat) (ht:p.kind=t):w1.cell? ⟨G,93,none⟩=some (.int .u8 (t:Int)):=by
 rw[h.cell 93 (by omega),h.sc_ 93 (.int .u8 p.kind) (by simp[scal]),ht]
end
theorem dst_of {w1 w':World} {g t q:Nat} {dup ret:Bool} {ver:Int} {body:List UInt8} {Ab:Option Addr} {cb:Nat} (hg:29<g) (hgl:g<w1.heap.size) (hlt:w1.heap.size<w'.heap.size) (hT:Lib.Utf8Tabs 28 29 w') (hb:Blk w' g 86 (arr (dz t q dup ret ver body.length)))
 (hr:Rd w' 1 Ab body.length (bvs body)) (hc:body.length≤cb) (ha:∀a,Ab=some a→a.block<w'.heap.size∧w1.heap.size≤a.block) (h0:0<body.length) (hlen:body.length≤50000000):
 ∃xb o,Ab=some ⟨xb,o,none⟩∧w1.heap.size≤xb∧xb<w'.heap.size∧DSt w' g xb o cb body.length body (dz t q dup ret ver body.length) w':=by
 obtain⟨xb,o,rfl,_⟩:=hr.2 h0
 have h1:=ha _ rfl
 have h2:xb<w'.heap.size∧w1.heap.size≤xb:=h1
 exact⟨xb,o,rfl,h2.2,h2.1,⟨hb,rd_rb hr,hT,Keeps.refl _ _,by omega,hg,h2.1,by omega,rfl,hc,by omega,dz_one _ _ _ _ _ _⟩⟩
theorem encPL_le {kind:Int} {l:List PropV} (h:ProperL kind l):(encPL l).length≤4000010:=by
 have h1:=encL_le h
 have h2:=vlen_le (encL l).length (by omega)
 simp[encPL];omega
theorem encL_ne {l:List PropV} (h:l≠[]):encL l≠[]:=by
 cases l with
 |nil=>exact absurd rfl h
 |cons x t=>simp[encL,encP]
theorem dz93 {w':World} {g:Nat} {t q:Int} {dup ret:Bool} {ver:Int} {m:Nat} (hb:Blk w' g 86 (arr (dz t q dup ret ver m))):w'.cell? ⟨g,93,none⟩=some (.int .u8 t):=by
 rw[hb.cell,arr_get _ _ (by omega)];rfl
theorem zZ3 {p:Prop} (h:p:=by
 simp[be2_length,lp_length,codeB]<;>omega
 ):p:=h
theorem road_connack5 (sp:Bool) (code:UInt8) (l:List PropV) (hP:ProperL 2 l):Road ({zp 2 5 l with qos:=(0:Int),dup:=false,retain:=false,present:=sp,code:=(code.toNat:Int)}) 5:=by
 have hlen:([UInt8.ofNat (bit sp)]++([code]++(encPL l++[]))).length≤50000000:=by
  have hle:=encPL_le hP
  exact zZ3
 have hb:[UInt8.ofNat (bit sp),code]++pbytes (sOf l)=[UInt8.ofNat (bit sp)]++([code]++(encPL l++[])):=by
  simp[pb_enc hP]
 refine⟨2,0,false,false,[UInt8.ofNat (bit sp)]++([code]++(encPL l++[])),by unfold HdOK;simp,hlen,fun w0 w1 bp G v F h21 h=>?_,fun w1 g hg hgl w' Ab cb hlt hT hblk hr hc ha=>?_⟩
 ·refine zz2_c w1 G _ (h.c93 2 rfl) ?_
  have hs:=h.props.pall hP
  have e:=connackEncode5_c _ G w1.heap.size (arr F) F 0 false false sp code (h.enc 2 0 5 rfl rfl rfl (by omega) (by omega)) (h.sc_ 104 _ (by simp[scal,zp])) (h.sc_ 105 _ (by simp[scal,zp])) (sOf l) hs (Buf.new w1) h.bb
  rw[hb] at e
  exact e
 ·obtain⟨xb,o,rfl,h1,h2,D⟩:=dst_of hg hgl hlt hT hblk hr hc ha (by simp[be2_length,lp_length]<;>omega) hlen
  exact⟨xb,h1,h2,zd2_c w' g xb _ _ (dz93 hblk) (connackDec5_c w' g xb o cb _ _ _ 0 false false sp code l D rfl hP)⟩
theorem road_connack4 (sp:Bool) (code:UInt8):Road ({zp 2 4 [] with qos:=(0:Int),dup:=false,retain:=false,present:=sp,code:=(code.toNat:Int)}) 4:=by
 have hlen:([UInt8.ofNat (bit sp)]++([code]++[])).length≤50000000:=by
  skip
  exact zZ3
 have hb:[UInt8.ofNat (bit sp),code]=[UInt8.ofNat (bit sp)]++([code]++[]):=by
  simp
 refine⟨2,0,false,false,[UInt8.ofNat (bit sp)]++([code]++[]),by unfold HdOK;simp,hlen,fun w0 w1 bp G v F h21 h=>?_,fun w1 g hg hgl w' Ab cb hlt hT hblk hr hc ha=>?_⟩
 ·refine zz2_c w1 G _ (h.c93 2 rfl) ?_
  have e:=connackEncode4_c _ G w1.heap.size (arr F) F 0 false false sp code (h.enc 2 0 4 rfl rfl rfl (by omega) (by omega)) (h.sc_ 104 _ (by simp[scal,zp])) (h.sc_ 105 _ (by simp[scal,zp])) (Buf.new w1) h.bb
  rw[hb] at e
  exact e
 ·obtain⟨xb,o,rfl,h1,h2,D⟩:=dst_of hg hgl hlt hT hblk hr hc ha (by simp[be2_length,lp_length]<;>omega) hlen
  exact⟨xb,h1,h2,zd2_c w' g xb _ _ (dz93 hblk) (connackDec4_c w' g xb o cb _ _ _ 0 false false sp code D rfl)⟩
theorem road_suback5 (id:Nat) (l:List PropV) (cds:List Int) (hid:id<65536) (hP:ProperL 9 l) (hcl:cds.length≤1000):Road ({zp 9 5 l with qos:=(0:Int),dup:=false,retain:=false,id:=(id:Int),codes:=cds}) 5:=by
 have hlen:(be2 id++(encPL l++(codeB cds))).length≤50000000:=by
  have hle:=encPL_le hP
  exact zZ3
 have hb:be2 id++pbytes (sOf l)++codeB cds=be2 id++(encPL l++(codeB cds)):=by
  simp[pb_enc hP]
 refine⟨9,0,false,false,be2 id++(encPL l++(codeB cds)),by unfold HdOK;simp,hlen,fun w0 w1 bp G v F h21 h=>?_,fun w1 g hg hgl w' Ab cb hlt hT hblk hr hc ha=>?_⟩
 ·refine zz9_c w1 G _ (h.c93 9 rfl) ?_
  obtain⟨A0,c0,e88,r88,a88,n88⟩:=h.codes.parts
  have hs:=h.props.pall hP
  have e:=subackEncode5_c _ G w1.heap.size (arr F) F 0 false false id (codeB cds) A0 c0 (h.enc 9 0 5 rfl rfl rfl (by omega) (by omega)) hid (h.sc_ 102 _ (by simp[scal,zp])) e88 r88 a88 (by simpa [codeB] using hcl) (sOf l) hs (Buf.new w1) h.bb
  rw[hb] at e
  exact e
 ·obtain⟨xb,o,rfl,h1,h2,D⟩:=dst_of hg hgl hlt hT hblk hr hc ha (by simp[be2_length,lp_length]<;>omega) hlen
  exact⟨xb,h1,h2,zd9_c w' g xb _ _ (dz93 hblk) (subackDec5_c w' g xb o cb _ _ _ 0 false false id l cds D rfl hid hP hcl)⟩
theorem road_unsuback5 (id:Nat) (l:List PropV) (cds:List Int) (hid:id<65536) (hP:ProperL 11 l) (hcl:cds.length≤1000):Road ({zp 11 5 l with qos:=(0:Int),dup:=false,retain:=false,id:=(id:Int),codes:=cds}) 5:=by
 have hlen:(be2 id++(encPL l++(codeB cds))).length≤50000000:=by
  have hle:=encPL_le hP
  exact zZ3
 have hb:be2 id++pbytes (sOf l)++codeB cds=be2 id++(encPL l++(codeB cds)):=by
  simp[pb_enc hP]
 refine⟨11,0,false,false,be2 id++(encPL l++(codeB cds)),by unfold HdOK;simp,hlen,fun w0 w1 bp G v F h21 h=>?_,fun w1 g hg hgl w' Ab cb hlt hT hblk hr hc ha=>?_⟩
 ·refine zz11_c w1 G _ (h.c93 11 rfl) ?_
  obtain⟨A0,c0,e88,r88,a88,n88⟩:=h.codes.parts
  have hs:=h.props.pall hP
  have e:=unsubackEncode5_c _ G w1.heap.size (arr F) F 0 false false id (codeB cds) A0 c0 (h.enc 11 0 5 rfl rfl rfl (by omega) (by omega)) hid (h.sc_ 102 _ (by simp[scal,zp])) e88 r88 a88 (by simpa [codeB] using hcl) (sOf l) hs (Buf.new w1) h.bb
  rw[hb] at e
  exact e
 ·obtain⟨xb,o,rfl,h1,h2,D⟩:=dst_of hg hgl hlt hT hblk hr hc ha (by simp[be2_length,lp_length]<;>omega) hlen
  exact⟨xb,h1,h2,zd11_c w' g xb _ _ (dz93 hblk) (unsubackDec5_c w' g xb o cb _ _ _ 0 false false id l cds D rfl hid hP hcl)⟩
theorem road_suback4 (id:Nat) (cds:List Int) (hid:id<65536) (hcl:cds.length≤1000):Road ({zp 9 4 [] with qos:=(0:Int),dup:=false,retain:=false,id:=(id:Int),codes:=cds}) 4:=by
 have hlen:(be2 id++(codeB cds)).length≤50000000:=by
  skip
  exact zZ3
 have hb:be2 id++codeB cds=be2 id++(codeB cds):=by
  rfl
 refine⟨9,0,false,false,be2 id++(codeB cds),by unfold HdOK;simp,hlen,fun w0 w1 bp G v F h21 h=>?_,fun w1 g hg hgl w' Ab cb hlt hT hblk hr hc ha=>?_⟩
 ·refine zz9_c w1 G _ (h.c93 9 rfl) ?_
  obtain⟨A0,c0,e88,r88,a88,n88⟩:=h.codes.parts
  have e:=subackEncode4_c _ G w1.heap.size (arr F) F 0 false false id (codeB cds) A0 c0 (h.enc 9 0 4 rfl rfl rfl (by omega) (by omega)) hid (h.sc_ 102 _ (by simp[scal,zp])) e88 r88 a88 (by simpa [codeB] using hcl) (Buf.new w1) h.bb
  rw[hb] at e
  exact e
 ·obtain⟨xb,o,rfl,h1,h2,D⟩:=dst_of hg hgl hlt hT hblk hr hc ha (by simp[be2_length,lp_length]<;>omega) hlen
  exact⟨xb,h1,h2,zd9_c w' g xb _ _ (dz93 hblk) (subackDec4_c w' g xb o cb _ _ _ 0 false false id cds D rfl hid hcl)⟩
theorem road_unsuback4 (id:Nat) (hid:id<65536):Road ({zp 11 4 [] with qos:=(0:Int),dup:=false,retain:=false,id:=(id:Int)}) 4:=by
 have hlen:(be2 id++[]).length≤50000000:=by
  skip
  exact zZ3
 have hb:be2 id=be2 id++[]:=by
  simp
 refine⟨11,0,false,false,be2 id++[],by unfold HdOK;simp,hlen,fun w0 w1 bp G v F h21 h=>?_,fun w1 g hg hgl w' Ab cb hlt hT hblk hr hc ha=>?_⟩
 ·refine zz11_c w1 G _ (h.c93 11 rfl) ?_
  have e:=unsubackEncode4_c _ G w1.heap.size (arr F) F 0 false false id (h.enc 11 0 4 rfl rfl rfl (by omega) (by omega)) hid (h.sc_ 102 _ (by simp[scal,zp])) (Buf.new w1) h.bb
  rw[hb] at e
  exact e
 ·obtain⟨xb,o,rfl,h1,h2,D⟩:=dst_of hg hgl hlt hT hblk hr hc ha (by simp[be2_length,lp_length]<;>omega) hlen
  exact⟨xb,h1,h2,zd11_c w' g xb _ _ (dz93 hblk) (unsubackDec4_c w' g xb o cb _ _ _ 0 false false id D rfl hid)⟩
theorem road_publish4_0 (ret:Bool) (t:ByteArray) (pay:List UInt8) (ht:TextOK t) (hpl:pay.length≤1000):Road ({zp 3 4 [] with qos:=(0:Int),dup:=false,retain:=ret,topic:=t,payload:=pay}) 4:=by
 have hlen:(lp t.data.toList++(pay)).length≤50000000:=by
  have hts:=ht.1
  skip
  exact zZ3
 have hb:lp t.data.toList++pay=lp t.data.toList++(pay):=by
  simp
 refine⟨3,0,false,ret,lp t.data.toList++(pay),by unfold HdOK;simp,hlen,fun w0 w1 bp G v F h21 h=>?_,fun w1 g hg hgl w' Ab cb hlt hT hblk hr hc ha=>?_⟩
 ·refine zz3_c w1 G _ (h.c93 3 rfl) ?_
  obtain⟨A0,c0,e87,r87,a87,n87⟩:=h.d87.parts
  have e:=publishEncode4_c _ G w1.heap.size (arr F) F 0 false ret t pay A0 c0 (h.enc 3 0 4 rfl rfl rfl (by omega) (by omega)) (by have:=ht.1;omega) (h.sc_ 90 _ (by simp[scal,zp])) e87 r87 a87 n87 hpl rfl (Buf.new w1) h.bb
  rw[hb] at e
  exact e
 ·obtain⟨xb,o,rfl,h1,h2,D⟩:=dst_of hg hgl hlt hT hblk hr hc ha (by simp[be2_length,lp_length]<;>omega) hlen
  exact⟨xb,h1,h2,zd3_c w' g xb _ _ (dz93 hblk) (publishDec4_0_c w' g xb o cb _ _ _ 0 false ret t pay D rfl ht rfl hpl)⟩
theorem road_publish4_1 (q:Nat) (dup ret:Bool) (t:ByteArray) (id:Nat) (pay:List UInt8) (ht:TextOK t) (hq:0<q∧q≤2) (hid:id<65536) (hid0:0<id) (hpl:pay.length≤1000):Road ({zp 3 4 [] with qos:=(q:Int),dup:=dup,retain:=ret,topic:=t,payload:=pay,id:=(id:Int)}) 4:=by
 have hlen:(lp t.data.toList++(be2 id++(pay))).length≤50000000:=by
  have hts:=ht.1
  skip
  exact zZ3
 have hb:lp t.data.toList++be2 id++pay=lp t.data.toList++(be2 id++(pay)):=by
  simp
 refine⟨3,q,dup,ret,lp t.data.toList++(be2 id++(pay)),.inl ⟨rfl,hq.2,fun h=>by omega⟩,hlen,fun w0 w1 bp G v F h21 h=>?_,fun w1 g hg hgl w' Ab cb hlt hT hblk hr hc ha=>?_⟩
 ·refine zz3_c w1 G _ (h.c93 3 rfl) ?_
  obtain⟨A0,c0,e87,r87,a87,n87⟩:=h.d87.parts
  have e:=publishEncode4q_c _ G w1.heap.size (arr F) F q dup ret t pay A0 c0 id (h.enc 3 q 4 rfl rfl rfl (by omega) (by omega)) (by have:=ht.1;omega) (h.sc_ 90 _ (by simp[scal,zp])) e87 r87 a87 n87 hpl hid hid0 (h.sc_ 102 _ (by simp[scal,zp])) hq.1 (Buf.new w1) h.bb
  rw[hb] at e
  exact e
 ·obtain⟨xb,o,rfl,h1,h2,D⟩:=dst_of hg hgl hlt hT hblk hr hc ha (by simp[be2_length,lp_length]<;>omega) hlen
  exact⟨xb,h1,h2,zd3_c w' g xb _ _ (dz93 hblk) (publishDec4_1_c w' g xb o cb _ _ _ q dup ret t id pay D rfl ht (by omega) hid hpl)⟩
theorem road_publish5_0 (ret:Bool) (t:ByteArray) (l:List PropV) (pay:List UInt8) (ht:TextOK t) (hP:ProperL 3 l) (hpl:pay.length≤1000):Road ({zp 3 5 l with qos:=(0:Int),dup:=false,retain:=ret,topic:=t,payload:=pay}) 5:=by
 have hlen:(lp t.data.toList++(encPL l++(pay))).length≤50000000:=by
  have hts:=ht.1
  have hle:=encPL_le hP
  exact zZ3
 have hb:lp t.data.toList++pbytes (sOf l)++pay=lp t.data.toList++(encPL l++(pay)):=by
  simp[pb_enc hP]
 refine⟨3,0,false,ret,lp t.data.toList++(encPL l++(pay)),by unfold HdOK;simp,hlen,fun w0 w1 bp G v F h21 h=>?_,fun w1 g hg hgl w' Ab cb hlt hT hblk hr hc ha=>?_⟩
 ·refine zz3_c w1 G _ (h.c93 3 rfl) ?_
  obtain⟨A0,c0,e87,r87,a87,n87⟩:=h.d87.parts
  have hs:=h.props.pall hP
  have e:=publishEncode5_c _ G w1.heap.size (arr F) F 0 false ret t pay A0 c0 (h.enc 3 0 5 rfl rfl rfl (by omega) (by omega)) (by have:=ht.1;omega) (h.sc_ 90 _ (by simp[scal,zp])) e87 r87 a87 n87 hpl rfl (sOf l) hs (Buf.new w1) h.bb
  rw[hb] at e
  exact e
 ·obtain⟨xb,o,rfl,h1,h2,D⟩:=dst_of hg hgl hlt hT hblk hr hc ha (by simp[be2_length,lp_length]<;>omega) hlen
  exact⟨xb,h1,h2,zd3_c w' g xb _ _ (dz93 hblk) (publishDec5_0_c w' g xb o cb _ _ _ 0 false ret t l pay D rfl ht rfl hP hpl)⟩
theorem road_publish5_1 (q:Nat) (dup ret:Bool) (t:ByteArray) (id:Nat) (l:List PropV) (pay:List UInt8) (ht:TextOK t) (hq:0<q∧q≤2) (hid:id<65536) (hid0:0<id) (hP:ProperL 3 l) (hpl:pay.length≤1000):Road ({zp 3 5 l with qos:=(q:Int),dup:=dup,retain:=ret,topic:=t,payload:=pay,id:=(id:Int)}) 5:=by
 have hlen:(lp t.data.toList++(be2 id++(encPL l++(pay)))).length≤50000000:=by
  have hts:=ht.1
  have hle:=encPL_le hP
  exact zZ3
 have hb:lp t.data.toList++be2 id++pbytes (sOf l)++pay=lp t.data.toList++(be2 id++(encPL l++(pay))):=by
  simp[pb_enc hP]
 refine⟨3,q,dup,ret,lp t.data.toList++(be2 id++(encPL l++(pay))),.inl ⟨rfl,hq.2,fun h=>by omega⟩,hlen,fun w0 w1 bp G v F h21 h=>?_,fun w1 g hg hgl w' Ab cb hlt hT hblk hr hc ha=>?_⟩
 ·refine zz3_c w1 G _ (h.c93 3 rfl) ?_
  obtain⟨A0,c0,e87,r87,a87,n87⟩:=h.d87.parts
  have hs:=h.props.pall hP
  have e:=publishEncode5q_c _ G w1.heap.size (arr F) F q dup ret t pay A0 c0 id (h.enc 3 q 5 rfl rfl rfl (by omega) (by omega)) (by have:=ht.1;omega) (h.sc_ 90 _ (by simp[scal,zp])) e87 r87 a87 n87 hpl hid hid0 (h.sc_ 102 _ (by simp[scal,zp])) hq.1 (sOf l) hs (Buf.new w1) h.bb
  rw[hb] at e
  exact e
 ·obtain⟨xb,o,rfl,h1,h2,D⟩:=dst_of hg hgl hlt hT hblk hr hc ha (by simp[be2_length,lp_length]<;>omega) hlen
  exact⟨xb,h1,h2,zd3_c w' g xb _ _ (dz93 hblk) (publishDec5_1_c w' g xb o cb _ _ _ q dup ret t id l pay D rfl ht (by omega) hid hP hpl)⟩
theorem road_puback4 (id:Nat) (hid:id<65536):Road ({zp 4 4 [] with qos:=(0:Int),dup:=false,retain:=false,id:=(id:Int)}) 4:=by
 have hlen:(be2 id++[]).length≤50000000:=by
  skip
  exact zZ3
 have hb:be2 id=be2 id++[]:=by
  simp
 refine⟨4,0,false,false,be2 id++[],by unfold HdOK;simp,hlen,fun w0 w1 bp G v F h21 h=>?_,fun w1 g hg hgl w' Ab cb hlt hT hblk hr hc ha=>?_⟩
 ·refine zz4_c w1 G _ (h.c93 4 rfl) ?_
  refine pubackEncode_c _ _ _ _ ?_
  have e:=puback4_c _ G w1.heap.size (arr F) F 0 false false 4 id (h.enc 4 0 4 rfl rfl rfl (by omega) (by omega)) hid (h.sc_ 102 _ (by simp[scal,zp])) (Buf.new w1) h.bb
  rw[hb] at e
  exact e
 ·obtain⟨xb,o,rfl,h1,h2,D⟩:=dst_of hg hgl hlt hT hblk hr hc ha (by simp[be2_length,lp_length]<;>omega) hlen
  exact⟨xb,h1,h2,zd4_c w' g xb _ _ (dz93 hblk) (pubackDec_w w' g _ _ (pubackDec_n_c w' g xb o cb _ _ _ 0 false false 4 id 4 D rfl hid rfl|>.mono (fun e w2 h=>⟨h.1,by obtain⟨rfl,h⟩:=h;exact⟨rfl,h⟩⟩)))⟩
theorem road_puback5n (id:Nat) (hid:id<65536) (hP:ProperL 4 []):Road ({zp 4 5 [] with qos:=(0:Int),dup:=false,retain:=false,id:=(id:Int)}) 5:=by
 have hlen:(be2 id++[]).length≤50000000:=by
  skip
  exact zZ3
 have hb:be2 id=be2 id++[]:=by
  simp
 refine⟨4,0,false,false,be2 id++[],by unfold HdOK;simp,hlen,fun w0 w1 bp G v F h21 h=>?_,fun w1 g hg hgl w' Ab cb hlt hT hblk hr hc ha=>?_⟩
 ·refine zz4_c w1 G _ (h.c93 4 rfl) ?_
  refine pubackEncode_c _ _ _ _ ?_
  have e:=pubackn_c _ G w1.heap.size (arr F) F 0 false false 4 id 0 (sOf []) (h.enc 4 0 5 rfl rfl rfl (by omega) (by omega)) hid (h.sc_ 102 _ (by simp[scal,zp])) (h.sc_ 105 _ (by simp[scal,zp])) ((Keeps.alloc w1 _).some_ h21 (by simp)) (by decide) (pre_sOf hP) (h.props.pall hP) (Buf.new w1) h.bb
  rw[hb] at e
  exact e
 ·obtain⟨xb,o,rfl,h1,h2,D⟩:=dst_of hg hgl hlt hT hblk hr hc ha (by simp[be2_length,lp_length]<;>omega) hlen
  exact⟨xb,h1,h2,zd4_c w' g xb _ _ (dz93 hblk) (pubackDec_w w' g _ _ (pubackDec_n_c w' g xb o cb _ _ _ 0 false false 4 id 5 D rfl hid rfl|>.mono (fun e w2 h=>⟨h.1,by obtain⟨rfl,h⟩:=h;exact⟨rfl,h⟩⟩)))⟩
theorem road_puback5c (id:Nat) (code:UInt8) (hid:id<65536) (hc1:128≤code.toNat) (hP:ProperL 4 []):Road ({zp 4 5 [] with qos:=(0:Int),dup:=false,retain:=false,id:=(id:Int),code:=(code.toNat:Int)}) 5:=by
 have hlen:(be2 id++([code]++[])).length≤50000000:=by
  skip
  exact zZ3
 have hb:be2 id++[code]=be2 id++([code]++[]):=by
  simp
 refine⟨4,0,false,false,be2 id++([code]++[]),by unfold HdOK;simp,hlen,fun w0 w1 bp G v F h21 h=>?_,fun w1 g hg hgl w' Ab cb hlt hT hblk hr hc ha=>?_⟩
 ·refine zz4_c w1 G _ (h.c93 4 rfl) ?_
  refine pubackEncode_c _ _ _ _ ?_
  have e:=pubackc_c _ G w1.heap.size (arr F) F 0 false false 4 id code (sOf []) (h.enc 4 0 5 rfl rfl rfl (by omega) (by omega)) hid (h.sc_ 102 _ (by simp[scal,zp])) (h.sc_ 105 _ (by simp[scal,zp])) ((Keeps.alloc w1 _).some_ h21 (by simp)) hc1 (pre_sOf hP) (h.props.pall hP) (Buf.new w1) h.bb
  rw[hb] at e
  exact e
 ·obtain⟨xb,o,rfl,h1,h2,D⟩:=dst_of hg hgl hlt hT hblk hr hc ha (by simp[be2_length,lp_length]<;>omega) hlen
  exact⟨xb,h1,h2,zd4_c w' g xb _ _ (dz93 hblk) (pubackDec_w w' g _ _ (pubackDec_c_c w' g xb o cb _ _ _ 0 false false 4 id code D rfl hid rfl|>.mono (fun e w2 h=>⟨h.1,by obtain⟨rfl,h⟩:=h;exact⟨rfl,h⟩⟩)))⟩
theorem zZ10 {p:Prop} (h:p:=by
 obtain⟨xb,o,rfl,h1,h2,D⟩:=dst_of hg hgl hlt hT hblk hr hc ha (by simp[be2_length,lp_length]<;>omega) hlen
 exact⟨xb,h1,h2,zd4_c w' g xb _ _ (dz93 hblk) (pubackDec_w w' g _ _ (pubackDec_p_c w' g xb o cb _ _ _ 0 false false 4 id code l D rfl hid rfl hP (by decide) hl0|>.mono (fun e w2 h=>⟨h.1,by obtain⟨rfl,h⟩:=h;exact⟨rfl,h⟩⟩)))⟩
 ):p:=h
theorem road_puback5pl (id:Nat) (code:UInt8) (l:List PropV) (hid:id<65536) (hc1:code.toNat<128) (hl0:l≠[]) (hP:ProperL 4 l):Road ({zp 4 5 l with qos:=(0:Int),dup:=false,retain:=false,id:=(id:Int),code:=(code.toNat:Int)}) 5:=by
 have hlen:(be2 id++([code]++(encPL l++[]))).length≤50000000:=by
  have hle:=encPL_le hP
  exact zZ3
 have hb:be2 id++[code]++pbytes (sOf l)=be2 id++([code]++(encPL l++[])):=by
  simp[pb_enc hP]
 refine⟨4,0,false,false,be2 id++([code]++(encPL l++[])),by unfold HdOK;simp,hlen,fun w0 w1 bp G v F h21 h=>?_,fun w1 g hg hgl w' Ab cb hlt hT hblk hr hc ha=>?_⟩
 ·refine zz4_c w1 G _ (h.c93 4 rfl) ?_
  have hs:=h.props.pall hP
  refine pubackEncode_c _ _ _ _ ?_
  have e:=pubackpl_c _ G w1.heap.size (arr F) F 0 false false 4 id code (sOf l) (h.enc 4 0 5 rfl rfl rfl (by omega) (by omega)) hid (h.sc_ 102 _ (by simp[scal,zp])) (h.sc_ 105 _ (by simp[scal,zp])) ((Keeps.alloc w1 _).some_ h21 (by simp)) hc1 (by rw[pre_sOf hP];exact encL_ne hl0) hs (Buf.new w1) h.bb
  rw[hb] at e
  exact e
 ·exact zZ10
theorem road_puback5ph (id:Nat) (code:UInt8) (l:List PropV) (hid:id<65536) (hc1:128≤code.toNat) (hl0:l≠[]) (hP:ProperL 4 l):Road ({zp 4 5 l with qos:=(0:Int),dup:=false,retain:=false,id:=(id:Int),code:=(code.toNat:Int)}) 5:=by
 have hlen:(be2 id++([code]++(encPL l++[]))).length≤50000000:=by
  have hle:=encPL_le hP
  exact zZ3
 have hb:be2 id++[code]++pbytes (sOf l)=be2 id++([code]++(encPL l++[])):=by
  simp[pb_enc hP]
 refine⟨4,0,false,false,be2 id++([code]++(encPL l++[])),by unfold HdOK;simp,hlen,fun w0 w1 bp G v F h21 h=>?_,fun w1 g hg hgl w' Ab cb hlt hT hblk hr hc ha=>?_⟩
 ·refine zz4_c w1 G _ (h.c93 4 rfl) ?_
  have hs:=h.props.pall hP
  refine pubackEncode_c _ _ _ _ ?_
  have e:=pubackph_c _ G w1.heap.size (arr F) F 0 false false 4 id code (sOf l) (h.enc 4 0 5 rfl rfl rfl (by omega) (by omega)) hid (h.sc_ 102 _ (by simp[scal,zp])) (h.sc_ 105 _ (by simp[scal,zp])) ((Keeps.alloc w1 _).some_ h21 (by simp)) hc1 (by rw[pre_sOf hP];exact encL_ne hl0) hs (Buf.new w1) h.bb
  rw[hb] at e
  exact e
 ·exact zZ10
theorem road_pubrec4 (id:Nat) (hid:id<65536):Road ({zp 5 4 [] with qos:=(0:Int),dup:=false,retain:=false,id:=(id:Int)}) 4:=by
 have hlen:(be2 id++[]).length≤50000000:=by
  skip
  exact zZ3
 have hb:be2 id=be2 id++[]:=by
  simp
 refine⟨5,0,false,false,be2 id++[],by unfold HdOK;simp,hlen,fun w0 w1 bp G v F h21 h=>?_,fun w1 g hg hgl w' Ab cb hlt hT hblk hr hc ha=>?_⟩
 ·refine zz5_c w1 G _ (h.c93 5 rfl) ?_
  refine pubrecEncode_c _ _ _ _ ?_
  have e:=puback4_c _ G w1.heap.size (arr F) F 0 false false 5 id (h.enc 5 0 4 rfl rfl rfl (by omega) (by omega)) hid (h.sc_ 102 _ (by simp[scal,zp])) (Buf.new w1) h.bb
  rw[hb] at e
  exact e
 ·obtain⟨xb,o,rfl,h1,h2,D⟩:=dst_of hg hgl hlt hT hblk hr hc ha (by simp[be2_length,lp_length]<;>omega) hlen
  exact⟨xb,h1,h2,zd5_c w' g xb _ _ (dz93 hblk) (pubrecDec_w w' g _ _ (pubackDec_n_c w' g xb o cb _ _ _ 0 false false 5 id 4 D rfl hid rfl|>.mono (fun e w2 h=>⟨h.1,by obtain⟨rfl,h⟩:=h;exact⟨rfl,h⟩⟩)))⟩
theorem road_pubrec5n (id:Nat) (hid:id<65536) (hP:ProperL 5 []):Road ({zp 5 5 [] with qos:=(0:Int),dup:=false,retain:=false,id:=(id:Int)}) 5:=by
 have hlen:(be2 id++[]).length≤50000000:=by
  skip
  exact zZ3
 have hb:be2 id=be2 id++[]:=by
  simp
 refine⟨5,0,false,false,be2 id++[],by unfold HdOK;simp,hlen,fun w0 w1 bp G v F h21 h=>?_,fun w1 g hg hgl w' Ab cb hlt hT hblk hr hc ha=>?_⟩
 ·refine zz5_c w1 G _ (h.c93 5 rfl) ?_
  refine pubrecEncode_c _ _ _ _ ?_
  have e:=pubackn_c _ G w1.heap.size (arr F) F 0 false false 5 id 0 (sOf []) (h.enc 5 0 5 rfl rfl rfl (by omega) (by omega)) hid (h.sc_ 102 _ (by simp[scal,zp])) (h.sc_ 105 _ (by simp[scal,zp])) ((Keeps.alloc w1 _).some_ h21 (by simp)) (by decide) (pre_sOf hP) (h.props.pall hP) (Buf.new w1) h.bb
  rw[hb] at e
  exact e
 ·obtain⟨xb,o,rfl,h1,h2,D⟩:=dst_of hg hgl hlt hT hblk hr hc ha (by simp[be2_length,lp_length]<;>omega) hlen
  exact⟨xb,h1,h2,zd5_c w' g xb _ _ (dz93 hblk) (pubrecDec_w w' g _ _ (pubackDec_n_c w' g xb o cb _ _ _ 0 false false 5 id 5 D rfl hid rfl|>.mono (fun e w2 h=>⟨h.1,by obtain⟨rfl,h⟩:=h;exact⟨rfl,h⟩⟩)))⟩
theorem road_pubrec5c (id:Nat) (code:UInt8) (hid:id<65536) (hc1:128≤code.toNat) (hP:ProperL 5 []):Road ({zp 5 5 [] with qos:=(0:Int),dup:=false,retain:=false,id:=(id:Int),code:=(code.toNat:Int)}) 5:=by
 have hlen:(be2 id++([code]++[])).length≤50000000:=by
  skip
  exact zZ3
 have hb:be2 id++[code]=be2 id++([code]++[]):=by
  simp
 refine⟨5,0,false,false,be2 id++([code]++[]),by unfold HdOK;simp,hlen,fun w0 w1 bp G v F h21 h=>?_,fun w1 g hg hgl w' Ab cb hlt hT hblk hr hc ha=>?_⟩
 ·refine zz5_c w1 G _ (h.c93 5 rfl) ?_
  refine pubrecEncode_c _ _ _ _ ?_
  have e:=pubackc_c _ G w1.heap.size (arr F) F 0 false false 5 id code (sOf []) (h.enc 5 0 5 rfl rfl rfl (by omega) (by omega)) hid (h.sc_ 102 _ (by simp[scal,zp])) (h.sc_ 105 _ (by simp[scal,zp])) ((Keeps.alloc w1 _).some_ h21 (by simp)) hc1 (pre_sOf hP) (h.props.pall hP) (Buf.new w1) h.bb
  rw[hb] at e
  exact e
 ·obtain⟨xb,o,rfl,h1,h2,D⟩:=dst_of hg hgl hlt hT hblk hr hc ha (by simp[be2_length,lp_length]<;>omega) hlen
  exact⟨xb,h1,h2,zd5_c w' g xb _ _ (dz93 hblk) (pubrecDec_w w' g _ _ (pubackDec_c_c w' g xb o cb _ _ _ 0 false false 5 id code D rfl hid rfl|>.mono (fun e w2 h=>⟨h.1,by obtain⟨rfl,h⟩:=h;exact⟨rfl,h⟩⟩)))⟩
theorem zZ11 {p:Prop} (h:p:=by
 obtain⟨xb,o,rfl,h1,h2,D⟩:=dst_of hg hgl hlt hT hblk hr hc ha (by simp[be2_length,lp_length]<;>omega) hlen
 exact⟨xb,h1,h2,zd5_c w' g xb _ _ (dz93 hblk) (pubrecDec_w w' g _ _ (pubackDec_p_c w' g xb o cb _ _ _ 0 false false 5 id code l D rfl hid rfl hP (by decide) hl0|>.mono (fun e w2 h=>⟨h.1,by obtain⟨rfl,h⟩:=h;exact⟨rfl,h⟩⟩)))⟩
 ):p:=h
theorem road_pubrec5pl (id:Nat) (code:UInt8) (l:List PropV) (hid:id<65536) (hc1:code.toNat<128) (hl0:l≠[]) (hP:ProperL 5 l):Road ({zp 5 5 l with qos:=(0:Int),dup:=false,retain:=false,id:=(id:Int),code:=(code.toNat:Int)}) 5:=by
 have hlen:(be2 id++([code]++(encPL l++[]))).length≤50000000:=by
  have hle:=encPL_le hP
  exact zZ3
 have hb:be2 id++[code]++pbytes (sOf l)=be2 id++([code]++(encPL l++[])):=by
  simp[pb_enc hP]
 refine⟨5,0,false,false,be2 id++([code]++(encPL l++[])),by unfold HdOK;simp,hlen,fun w0 w1 bp G v F h21 h=>?_,fun w1 g hg hgl w' Ab cb hlt hT hblk hr hc ha=>?_⟩
 ·refine zz5_c w1 G _ (h.c93 5 rfl) ?_
  have hs:=h.props.pall hP
  refine pubrecEncode_c _ _ _ _ ?_
  have e:=pubackpl_c _ G w1.heap.size (arr F) F 0 false false 5 id code (sOf l) (h.enc 5 0 5 rfl rfl rfl (by omega) (by omega)) hid (h.sc_ 102 _ (by simp[scal,zp])) (h.sc_ 105 _ (by simp[scal,zp])) ((Keeps.alloc w1 _).some_ h21 (by simp)) hc1 (by rw[pre_sOf hP];exact encL_ne hl0) hs (Buf.new w1) h.bb
  rw[hb] at e
  exact e
 ·exact zZ11
theorem road_pubrec5ph (id:Nat) (code:UInt8) (l:List PropV) (hid:id<65536) (hc1:128≤code.toNat) (hl0:l≠[]) (hP:ProperL 5 l):Road ({zp 5 5 l with qos:=(0:Int),dup:=false,retain:=false,id:=(id:Int),code:=(code.toNat:Int)}) 5:=by
 have hlen:(be2 id++([code]++(encPL l++[]))).length≤50000000:=by
  have hle:=encPL_le hP
  exact zZ3
 have hb:be2 id++[code]++pbytes (sOf l)=be2 id++([code]++(encPL l++[])):=by
  simp[pb_enc hP]
 refine⟨5,0,false,false,be2 id++([code]++(encPL l++[])),by unfold HdOK;simp,hlen,fun w0 w1 bp G v F h21 h=>?_,fun w1 g hg hgl w' Ab cb hlt hT hblk hr hc ha=>?_⟩
 ·refine zz5_c w1 G _ (h.c93 5 rfl) ?_
  have hs:=h.props.pall hP
  refine pubrecEncode_c _ _ _ _ ?_
  have e:=pubackph_c _ G w1.heap.size (arr F) F 0 false false 5 id code (sOf l) (h.enc 5 0 5 rfl rfl rfl (by omega) (by omega)) hid (h.sc_ 102 _ (by simp[scal,zp])) (h.sc_ 105 _ (by simp[scal,zp])) ((Keeps.alloc w1 _).some_ h21 (by simp)) hc1 (by rw[pre_sOf hP];exact encL_ne hl0) hs (Buf.new w1) h.bb
  rw[hb] at e
  exact e
 ·exact zZ11
theorem road_pubrel4 (id:Nat) (hid:id<65536):Road ({zp 6 4 [] with qos:=(1:Int),dup:=false,retain:=false,id:=(id:Int)}) 4:=by
 have hlen:(be2 id++[]).length≤50000000:=by
  skip
  exact zZ3
 have hb:be2 id=be2 id++[]:=by
  simp
 refine⟨6,1,false,false,be2 id++[],by unfold HdOK;simp,hlen,fun w0 w1 bp G v F h21 h=>?_,fun w1 g hg hgl w' Ab cb hlt hT hblk hr hc ha=>?_⟩
 ·refine zz6_c w1 G _ (h.c93 6 rfl) ?_
  refine pubrelEncode_c _ _ _ _ ?_
  have e:=puback4_c _ G w1.heap.size (arr F) F 1 false false 6 id (h.enc 6 1 4 rfl rfl rfl (by omega) (by omega)) hid (h.sc_ 102 _ (by simp[scal,zp])) (Buf.new w1) h.bb
  rw[hb] at e
  exact e
 ·obtain⟨xb,o,rfl,h1,h2,D⟩:=dst_of hg hgl hlt hT hblk hr hc ha (by simp[be2_length,lp_length]<;>omega) hlen
  exact⟨xb,h1,h2,zd6_c w' g xb _ _ (dz93 hblk) (pubrelDec_w w' g _ _ (pubackDec_n_c w' g xb o cb _ _ _ 1 false false 6 id 4 D rfl hid rfl|>.mono (fun e w2 h=>⟨h.1,by obtain⟨rfl,h⟩:=h;exact⟨rfl,h⟩⟩)))⟩
theorem road_pubrel5n (id:Nat) (hid:id<65536) (hP:ProperL 6 []):Road ({zp 6 5 [] with qos:=(1:Int),dup:=false,retain:=false,id:=(id:Int)}) 5:=by
 have hlen:(be2 id++[]).length≤50000000:=by
  skip
  exact zZ3
 have hb:be2 id=be2 id++[]:=by
  simp
 refine⟨6,1,false,false,be2 id++[],by unfold HdOK;simp,hlen,fun w0 w1 bp G v F h21 h=>?_,fun w1 g hg hgl w' Ab cb hlt hT hblk hr hc ha=>?_⟩
 ·refine zz6_c w1 G _ (h.c93 6 rfl) ?_
  refine pubrelEncode_c _ _ _ _ ?_
  have e:=pubackn_c _ G w1.heap.size (arr F) F 1 false false 6 id 0 (sOf []) (h.enc 6 1 5 rfl rfl rfl (by omega) (by omega)) hid (h.sc_ 102 _ (by simp[scal,zp])) (h.sc_ 105 _ (by simp[scal,zp])) ((Keeps.alloc w1 _).some_ h21 (by simp)) (by decide) (pre_sOf hP) (h.props.pall hP) (Buf.new w1) h.bb
  rw[hb] at e
  exact e
 ·obtain⟨xb,o,rfl,h1,h2,D⟩:=dst_of hg hgl hlt hT hblk hr hc ha (by simp[be2_length,lp_length]<;>omega) hlen
  exact⟨xb,h1,h2,zd6_c w' g xb _ _ (dz93 hblk) (pubrelDec_w w' g _ _ (pubackDec_n_c w' g xb o cb _ _ _ 1 false false 6 id 5 D rfl hid rfl|>.mono (fun e w2 h=>⟨h.1,by obtain⟨rfl,h⟩:=h;exact⟨rfl,h⟩⟩)))⟩
theorem road_pubrel5c (id:Nat) (code:UInt8) (hid:id<65536) (hc1:128≤code.toNat) (hP:ProperL 6 []):Road ({zp 6 5 [] with qos:=(1:Int),dup:=false,retain:=false,id:=(id:Int),code:=(code.toNat:Int)}) 5:=by
 have hlen:(be2 id++([code]++[])).length≤50000000:=by
  skip
  exact zZ3
 have hb:be2 id++[code]=be2 id++([code]++[]):=by
  simp
 refine⟨6,1,false,false,be2 id++([code]++[]),by unfold HdOK;simp,hlen,fun w0 w1 bp G v F h21 h=>?_,fun w1 g hg hgl w' Ab cb hlt hT hblk hr hc ha=>?_⟩
 ·refine zz6_c w1 G _ (h.c93 6 rfl) ?_
  refine pubrelEncode_c _ _ _ _ ?_
  have e:=pubackc_c _ G w1.heap.size (arr F) F 1 false false 6 id code (sOf []) (h.enc 6 1 5 rfl rfl rfl (by omega) (by omega)) hid (h.sc_ 102 _ (by simp[scal,zp])) (h.sc_ 105 _ (by simp[scal,zp])) ((Keeps.alloc w1 _).some_ h21 (by simp)) hc1 (pre_sOf hP) (h.props.pall hP) (Buf.new w1) h.bb
  rw[hb] at e
  exact e
 ·obtain⟨xb,o,rfl,h1,h2,D⟩:=dst_of hg hgl hlt hT hblk hr hc ha (by simp[be2_length,lp_length]<;>omega) hlen
  exact⟨xb,h1,h2,zd6_c w' g xb _ _ (dz93 hblk) (pubrelDec_w w' g _ _ (pubackDec_c_c w' g xb o cb _ _ _ 1 false false 6 id code D rfl hid rfl|>.mono (fun e w2 h=>⟨h.1,by obtain⟨rfl,h⟩:=h;exact⟨rfl,h⟩⟩)))⟩
theorem zZ12 {p:Prop} (h:p:=by
 obtain⟨xb,o,rfl,h1,h2,D⟩:=dst_of hg hgl hlt hT hblk hr hc ha (by simp[be2_length,lp_length]<;>omega) hlen
 exact⟨xb,h1,h2,zd6_c w' g xb _ _ (dz93 hblk) (pubrelDec_w w' g _ _ (pubackDec_p_c w' g xb o cb _ _ _ 1 false false 6 id code l D rfl hid rfl hP (by decide) hl0|>.mono (fun e w2 h=>⟨h.1,by obtain⟨rfl,h⟩:=h;exact⟨rfl,h⟩⟩)))⟩
 ):p:=h
theorem road_pubrel5pl (id:Nat) (code:UInt8) (l:List PropV) (hid:id<65536) (hc1:code.toNat<128) (hl0:l≠[]) (hP:ProperL 6 l):Road ({zp 6 5 l with qos:=(1:Int),dup:=false,retain:=false,id:=(id:Int),code:=(code.toNat:Int)}) 5:=by
 have hlen:(be2 id++([code]++(encPL l++[]))).length≤50000000:=by
  have hle:=encPL_le hP
  exact zZ3
 have hb:be2 id++[code]++pbytes (sOf l)=be2 id++([code]++(encPL l++[])):=by
  simp[pb_enc hP]
 refine⟨6,1,false,false,be2 id++([code]++(encPL l++[])),by unfold HdOK;simp,hlen,fun w0 w1 bp G v F h21 h=>?_,fun w1 g hg hgl w' Ab cb hlt hT hblk hr hc ha=>?_⟩
 ·refine zz6_c w1 G _ (h.c93 6 rfl) ?_
  have hs:=h.props.pall hP
  refine pubrelEncode_c _ _ _ _ ?_
  have e:=pubackpl_c _ G w1.heap.size (arr F) F 1 false false 6 id code (sOf l) (h.enc 6 1 5 rfl rfl rfl (by omega) (by omega)) hid (h.sc_ 102 _ (by simp[scal,zp])) (h.sc_ 105 _ (by simp[scal,zp])) ((Keeps.alloc w1 _).some_ h21 (by simp)) hc1 (by rw[pre_sOf hP];exact encL_ne hl0) hs (Buf.new w1) h.bb
  rw[hb] at e
  exact e
 ·exact zZ12
theorem road_pubrel5ph (id:Nat) (code:UInt8) (l:List PropV) (hid:id<65536) (hc1:128≤code.toNat) (hl0:l≠[]) (hP:ProperL 6 l):Road ({zp 6 5 l with qos:=(1:Int),dup:=false,retain:=false,id:=(id:Int),code:=(code.toNat:Int)}) 5:=by
 have hlen:(be2 id++([code]++(encPL l++[]))).length≤50000000:=by
  have hle:=encPL_le hP
  exact zZ3
 have hb:be2 id++[code]++pbytes (sOf l)=be2 id++([code]++(encPL l++[])):=by
  simp[pb_enc hP]
 refine⟨6,1,false,false,be2 id++([code]++(encPL l++[])),by unfold HdOK;simp,hlen,fun w0 w1 bp G v F h21 h=>?_,fun w1 g hg hgl w' Ab cb hlt hT hblk hr hc ha=>?_⟩
 ·refine zz6_c w1 G _ (h.c93 6 rfl) ?_
  have hs:=h.props.pall hP
  refine pubrelEncode_c _ _ _ _ ?_
  have e:=pubackph_c _ G w1.heap.size (arr F) F 1 false false 6 id code (sOf l) (h.enc 6 1 5 rfl rfl rfl (by omega) (by omega)) hid (h.sc_ 102 _ (by simp[scal,zp])) (h.sc_ 105 _ (by simp[scal,zp])) ((Keeps.alloc w1 _).some_ h21 (by simp)) hc1 (by rw[pre_sOf hP];exact encL_ne hl0) hs (Buf.new w1) h.bb
  rw[hb] at e
  exact e
 ·exact zZ12
theorem road_pubcomp4 (id:Nat) (hid:id<65536):Road ({zp 7 4 [] with qos:=(0:Int),dup:=false,retain:=false,id:=(id:Int)}) 4:=by
 have hlen:(be2 id++[]).length≤50000000:=by
  skip
  exact zZ3
 have hb:be2 id=be2 id++[]:=by
  simp
 refine⟨7,0,false,false,be2 id++[],by unfold HdOK;simp,hlen,fun w0 w1 bp G v F h21 h=>?_,fun w1 g hg hgl w' Ab cb hlt hT hblk hr hc ha=>?_⟩
 ·refine zz7_c w1 G _ (h.c93 7 rfl) ?_
  refine pubcompEncode_c _ _ _ _ ?_
  have e:=puback4_c _ G w1.heap.size (arr F) F 0 false false 7 id (h.enc 7 0 4 rfl rfl rfl (by omega) (by omega)) hid (h.sc_ 102 _ (by simp[scal,zp])) (Buf.new w1) h.bb
  rw[hb] at e
  exact e
 ·obtain⟨xb,o,rfl,h1,h2,D⟩:=dst_of hg hgl hlt hT hblk hr hc ha (by simp[be2_length,lp_length]<;>omega) hlen
  exact⟨xb,h1,h2,zd7_c w' g xb _ _ (dz93 hblk) (pubcompDec_w w' g _ _ (pubackDec_n_c w' g xb o cb _ _ _ 0 false false 7 id 4 D rfl hid rfl|>.mono (fun e w2 h=>⟨h.1,by obtain⟨rfl,h⟩:=h;exact⟨rfl,h⟩⟩)))⟩
theorem road_pubcomp5n (id:Nat) (hid:id<65536) (hP:ProperL 7 []):Road ({zp 7 5 [] with qos:=(0:Int),dup:=false,retain:=false,id:=(id:Int)}) 5:=by
 have hlen:(be2 id++[]).length≤50000000:=by
  skip
  exact zZ3
 have hb:be2 id=be2 id++[]:=by
  simp
 refine⟨7,0,false,false,be2 id++[],by unfold HdOK;simp,hlen,fun w0 w1 bp G v F h21 h=>?_,fun w1 g hg hgl w' Ab cb hlt hT hblk hr hc ha=>?_⟩
 ·refine zz7_c w1 G _ (h.c93 7 rfl) ?_
  refine pubcompEncode_c _ _ _ _ ?_
  have e:=pubackn_c _ G w1.heap.size (arr F) F 0 false false 7 id 0 (sOf []) (h.enc 7 0 5 rfl rfl rfl (by omega) (by omega)) hid (h.sc_ 102 _ (by simp[scal,zp])) (h.sc_ 105 _ (by simp[scal,zp])) ((Keeps.alloc w1 _).some_ h21 (by simp)) (by decide) (pre_sOf hP) (h.props.pall hP) (Buf.new w1) h.bb
  rw[hb] at e
  exact e
 ·obtain⟨xb,o,rfl,h1,h2,D⟩:=dst_of hg hgl hlt hT hblk hr hc ha (by simp[be2_length,lp_length]<;>omega) hlen
  exact⟨xb,h1,h2,zd7_c w' g xb _ _ (dz93 hblk) (pubcompDec_w w' g _ _ (pubackDec_n_c w' g xb o cb _ _ _ 0 false false 7 id 5 D rfl hid rfl|>.mono (fun e w2 h=>⟨h.1,by obtain⟨rfl,h⟩:=h;exact⟨rfl,h⟩⟩)))⟩
theorem road_pubcomp5c (id:Nat) (code:UInt8) (hid:id<65536) (hc1:128≤code.toNat) (hP:ProperL 7 []):Road ({zp 7 5 [] with qos:=(0:Int),dup:=false,retain:=false,id:=(id:Int),code:=(code.toNat:Int)}) 5:=by
 have hlen:(be2 id++([code]++[])).length≤50000000:=by
  skip
  exact zZ3
 have hb:be2 id++[code]=be2 id++([code]++[]):=by
  simp
 refine⟨7,0,false,false,be2 id++([code]++[]),by unfold HdOK;simp,hlen,fun w0 w1 bp G v F h21 h=>?_,fun w1 g hg hgl w' Ab cb hlt hT hblk hr hc ha=>?_⟩
 ·refine zz7_c w1 G _ (h.c93 7 rfl) ?_
  refine pubcompEncode_c _ _ _ _ ?_
  have e:=pubackc_c _ G w1.heap.size (arr F) F 0 false false 7 id code (sOf []) (h.enc 7 0 5 rfl rfl rfl (by omega) (by omega)) hid (h.sc_ 102 _ (by simp[scal,zp])) (h.sc_ 105 _ (by simp[scal,zp])) ((Keeps.alloc w1 _).some_ h21 (by simp)) hc1 (pre_sOf hP) (h.props.pall hP) (Buf.new w1) h.bb
  rw[hb] at e
  exact e
 ·obtain⟨xb,o,rfl,h1,h2,D⟩:=dst_of hg hgl hlt hT hblk hr hc ha (by simp[be2_length,lp_length]<;>omega) hlen
  exact⟨xb,h1,h2,zd7_c w' g xb _ _ (dz93 hblk) (pubcompDec_w w' g _ _ (pubackDec_c_c w' g xb o cb _ _ _ 0 false false 7 id code D rfl hid rfl|>.mono (fun e w2 h=>⟨h.1,by obtain⟨rfl,h⟩:=h;exact⟨rfl,h⟩⟩)))⟩
theorem zZ9 {p:Prop} (h:p:=by
 obtain⟨xb,o,rfl,h1,h2,D⟩:=dst_of hg hgl hlt hT hblk hr hc ha (by simp[be2_length,lp_length]<;>omega) hlen
 exact⟨xb,h1,h2,zd7_c w' g xb _ _ (dz93 hblk) (pubcompDec_w w' g _ _ (pubackDec_p_c w' g xb o cb _ _ _ 0 false false 7 id code l D rfl hid rfl hP (by decide) hl0|>.mono (fun e w2 h=>⟨h.1,by obtain⟨rfl,h⟩:=h;exact⟨rfl,h⟩⟩)))⟩
 ):p:=h
theorem road_pubcomp5pl (id:Nat) (code:UInt8) (l:List PropV) (hid:id<65536) (hc1:code.toNat<128) (hl0:l≠[]) (hP:ProperL 7 l):Road ({zp 7 5 l with qos:=(0:Int),dup:=false,retain:=false,id:=(id:Int),code:=(code.toNat:Int)}) 5:=by
 have hlen:(be2 id++([code]++(encPL l++[]))).length≤50000000:=by
  have hle:=encPL_le hP
  exact zZ3
 have hb:be2 id++[code]++pbytes (sOf l)=be2 id++([code]++(encPL l++[])):=by
  simp[pb_enc hP]
 refine⟨7,0,false,false,be2 id++([code]++(encPL l++[])),by unfold HdOK;simp,hlen,fun w0 w1 bp G v F h21 h=>?_,fun w1 g hg hgl w' Ab cb hlt hT hblk hr hc ha=>?_⟩
 ·refine zz7_c w1 G _ (h.c93 7 rfl) ?_
  have hs:=h.props.pall hP
  refine pubcompEncode_c _ _ _ _ ?_
  have e:=pubackpl_c _ G w1.heap.size (arr F) F 0 false false 7 id code (sOf l) (h.enc 7 0 5 rfl rfl rfl (by omega) (by omega)) hid (h.sc_ 102 _ (by simp[scal,zp])) (h.sc_ 105 _ (by simp[scal,zp])) ((Keeps.alloc w1 _).some_ h21 (by simp)) hc1 (by rw[pre_sOf hP];exact encL_ne hl0) hs (Buf.new w1) h.bb
  rw[hb] at e
  exact e
 ·exact zZ9
theorem road_pubcomp5ph (id:Nat) (code:UInt8) (l:List PropV) (hid:id<65536) (hc1:128≤code.toNat) (hl0:l≠[]) (hP:ProperL 7 l):Road ({zp 7 5 l with qos:=(0:Int),dup:=false,retain:=false,id:=(id:Int),code:=(code.toNat:Int)}) 5:=by
 have hlen:(be2 id++([code]++(encPL l++[]))).length≤50000000:=by
  have hle:=encPL_le hP
  exact zZ3
 have hb:be2 id++[code]++pbytes (sOf l)=be2 id++([code]++(encPL l++[])):=by
  simp[pb_enc hP]
 refine⟨7,0,false,false,be2 id++([code]++(encPL l++[])),by unfold HdOK;simp,hlen,fun w0 w1 bp G v F h21 h=>?_,fun w1 g hg hgl w' Ab cb hlt hT hblk hr hc ha=>?_⟩
 ·refine zz7_c w1 G _ (h.c93 7 rfl) ?_
  have hs:=h.props.pall hP
  refine pubcompEncode_c _ _ _ _ ?_
  have e:=pubackph_c _ G w1.heap.size (arr F) F 0 false false 7 id code (sOf l) (h.enc 7 0 5 rfl rfl rfl (by omega) (by omega)) hid (h.sc_ 102 _ (by simp[scal,zp])) (h.sc_ 105 _ (by simp[scal,zp])) ((Keeps.alloc w1 _).some_ h21 (by simp)) hc1 (by rw[pre_sOf hP];exact encL_ne hl0) hs (Buf.new w1) h.bb
  rw[hb] at e
  exact e
 ·exact zZ9
theorem road_disc5 (code:UInt8) (l:List PropV) (hP:ProperL 14 l):Road ({zp 14 5 l with qos:=(0:Int),dup:=false,retain:=false,code:=(code.toNat:Int)}) 5:=by
 have hlen:([code]++(encPL l++[])).length≤50000000:=by
  have hle:=encPL_le hP
  exact zZ3
 have hb:[code]++pbytes (sOf l)=[code]++(encPL l++[]):=by
  simp[pb_enc hP]
 refine⟨14,0,false,false,[code]++(encPL l++[]),by unfold HdOK;simp,hlen,fun w0 w1 bp G v F h21 h=>?_,fun w1 g hg hgl w' Ab cb hlt hT hblk hr hc ha=>?_⟩
 ·refine zz14_c w1 G _ (h.c93 14 rfl) ?_
  have hs:=h.props.pall hP
  have e:=disconnectEncode5_c _ G w1.heap.size (arr F) F 0 false false code (h.enc 14 0 5 rfl rfl rfl (by omega) (by omega)) (h.sc_ 105 _ (by simp[scal,zp])) (sOf l) hs (Buf.new w1) h.bb
  rw[hb] at e
  exact e
 ·obtain⟨xb,o,rfl,h1,h2,D⟩:=dst_of hg hgl hlt hT hblk hr hc ha (by simp[be2_length,lp_length]<;>omega) hlen
  exact⟨xb,h1,h2,zd14_c w' g xb _ _ (dz93 hblk) (discDec5_c w' g xb o cb _ _ _ 0 false false code l D rfl hP rfl)⟩
theorem road_auth (code:UInt8) (l:List PropV) (hP:ProperL 15 l):Road ({zp 15 5 l with qos:=(0:Int),dup:=false,retain:=false,code:=(code.toNat:Int)}) 5:=by
 have hlen:([code]++(encPL l++[])).length≤50000000:=by
  have hle:=encPL_le hP
  exact zZ3
 have hb:[code]++pbytes (sOf l)=[code]++(encPL l++[]):=by
  simp[pb_enc hP]
 refine⟨15,0,false,false,[code]++(encPL l++[]),by unfold HdOK;simp,hlen,fun w0 w1 bp G v F h21 h=>?_,fun w1 g hg hgl w' Ab cb hlt hT hblk hr hc ha=>?_⟩
 ·refine zz15_c w1 G _ (h.c93 15 rfl) ?_
  have hs:=h.props.pall hP
  have e:=authEncode_c _ G w1.heap.size (arr F) F 0 false false code (h.enc 15 0 5 rfl rfl rfl (by omega) (by omega)) (h.sc_ 105 _ (by simp[scal,zp])) (sOf l) hs (Buf.new w1) h.bb
  rw[hb] at e
  exact e
 ·obtain⟨xb,o,rfl,h1,h2,D⟩:=dst_of hg hgl hlt hT hblk hr hc ha (by simp[be2_length,lp_length]<;>omega) hlen
  exact⟨xb,h1,h2,zd15_c w' g xb _ _ (dz93 hblk) (authDec_c w' g xb o cb _ _ _ 0 false false code l D rfl hP)⟩
theorem road_pingreq4:Road ({zp 12 4 [] with qos:=(0:Int),dup:=false,retain:=false}) 4:=by
 refine⟨12,0,false,false,[],by unfold HdOK;simp,by simp,fun w0 w1 bp G v F h21 h=>?_,fun w1 g hg hgl w' Ab cb hlt hT hblk hr hc ha=>?_⟩
 ·exact zz12_c w1 G _ (h.c93 12 rfl) (pingreqEncode_c _ G w1.heap.size (arr F) F 0 false false 4 (h.enc 12 0 4 rfl rfl rfl (by omega) (by omega)) (h.sc_ 92 _ (by simp[scal,zp])) (Buf.new w1) h.bb)
 ·exact⟨w1.heap.size,Nat.le_refl _,hlt,zd12_c w' g _ _ _ (dz93 hblk) (ping12_0c w' g _ _ _ 0 false false 4 hblk)⟩
theorem road_pingresp4:Road ({zp 13 4 [] with qos:=(0:Int),dup:=false,retain:=false}) 4:=by
 refine⟨13,0,false,false,[],by unfold HdOK;simp,by simp,fun w0 w1 bp G v F h21 h=>?_,fun w1 g hg hgl w' Ab cb hlt hT hblk hr hc ha=>?_⟩
 ·exact zz13_c w1 G _ (h.c93 13 rfl) (pingrespEncode_c _ G w1.heap.size (arr F) F 0 false false 4 (h.enc 13 0 4 rfl rfl rfl (by omega) (by omega)) (h.sc_ 92 _ (by simp[scal,zp])) (Buf.new w1) h.bb)
 ·exact⟨w1.heap.size,Nat.le_refl _,hlt,zd13_c w' g _ _ _ (dz93 hblk) (ping13_0c w' g _ _ _ 0 false false 4 hblk)⟩
theorem road_pingreq5:Road ({zp 12 5 [] with qos:=(0:Int),dup:=false,retain:=false}) 5:=by
 refine⟨12,0,false,false,[],by unfold HdOK;simp,by simp,fun w0 w1 bp G v F h21 h=>?_,fun w1 g hg hgl w' Ab cb hlt hT hblk hr hc ha=>?_⟩
 ·exact zz12_c w1 G _ (h.c93 12 rfl) (pingreqEncode_c _ G w1.heap.size (arr F) F 0 false false 5 (h.enc 12 0 5 rfl rfl rfl (by omega) (by omega)) (h.sc_ 92 _ (by simp[scal,zp])) (Buf.new w1) h.bb)
 ·exact⟨w1.heap.size,Nat.le_refl _,hlt,zd12_c w' g _ _ _ (dz93 hblk) (ping12_0c w' g _ _ _ 0 false false 5 hblk)⟩
theorem road_pingresp5:Road ({zp 13 5 [] with qos:=(0:Int),dup:=false,retain:=false}) 5:=by
 refine⟨13,0,false,false,[],by unfold HdOK;simp,by simp,fun w0 w1 bp G v F h21 h=>?_,fun w1 g hg hgl w' Ab cb hlt hT hblk hr hc ha=>?_⟩
 ·exact zz13_c w1 G _ (h.c93 13 rfl) (pingrespEncode_c _ G w1.heap.size (arr F) F 0 false false 5 (h.enc 13 0 5 rfl rfl rfl (by omega) (by omega)) (h.sc_ 92 _ (by simp[scal,zp])) (Buf.new w1) h.bb)
 ·exact⟨w1.heap.size,Nat.le_refl _,hlt,zd13_c w' g _ _ _ (dz93 hblk) (ping13_0c w' g _ _ _ 0 false false 5 hblk)⟩
theorem road_disc4:Road ({zp 14 4 [] with qos:=(0:Int),dup:=false,retain:=false}) 4:=by
 refine⟨14,0,false,false,[],by unfold HdOK;simp,by simp,fun w0 w1 bp G v F h21 h=>?_,fun w1 g hg hgl w' Ab cb hlt hT hblk hr hc ha=>?_⟩
 ·exact zz14_c w1 G _ (h.c93 14 rfl) (disconnectEncode4_c _ G w1.heap.size (arr F) F 0 false false (h.enc 14 0 4 rfl rfl rfl (by omega) (by omega)) (Buf.new w1) h.bb)
 ·exact⟨w1.heap.size,Nat.le_refl _,hlt,zd14_c w' g _ _ _ (dz93 hblk) (disc0_0c w' g _ _ _ 0 false false hblk)⟩
theorem zZ13 {p:Prop} (h:p:=by
 obtain⟨s,h1,rfl⟩:=List.mem_map.1 hu
 have:=hs s h1
 have:=this.1.1
 simp only[toV]
 omega
 ):p:=h
theorem zZ16 {p:Prop} (h:p:=by
 simp only[List.length_append,be2_length]<;>omega
 ):p:=h
theorem road_sub4 (id:Nat) (subs:List SubP) (hid:id<65536) (hid0:0<id) (hs0:∀u∈subs,u.nl=false∧u.ap=false∧u.handling=0) (hs:∀u∈subs,TextOK u.filter∧(0≤u.qos∧u.qos≤2)∧0≤u.handling∧u.handling≤2) (hsl:subs.length≤10):Road ({zp 8 4 [] with qos:=(1:Int),dup:=false,retain:=false,id:=(id:Int),subs:=subs}) 4:=by
 have hlen:(be2 id++(subs.flatMap (fun s=>encS4 (toV 0 s)))).length≤50000000:=by
  have hfl:=flat_le subs (fun s=>encS4 (toV 0 s)) 70000 (fun u hu=>by have:=(hs u hu).1.1;simp[encS4,encS5,toV,lp_length];omega)
  skip
  exact zZ16
 have hb:be2 id++(subs.map (toV 0)).flatMap encS4=be2 id++(subs.flatMap (fun s=>encS4 (toV 0 s))):=by
  simp[List.flatMap_map]
 refine⟨8,1,false,false,be2 id++(subs.flatMap (fun s=>encS4 (toV 0 s))),by unfold HdOK;simp,hlen,fun w0 w1 bp G v F h21 h=>?_,fun w1 g hg hgl w' Ab cb hlt hT hblk hr hc ha=>?_⟩
 ·refine zz8_c w1 G _ (h.c93 8 rfl) ?_
  obtain⟨A0,c0,e89,r89,a89⟩:=h.subs
  have r9:Rd (w1.alloc (.cells #[.slice none 0 0] 111)) 9 A0 (subs.map (toV 0)).length ((subs.map (toV 0)).flatMap SubV.cells):=by rw[List.length_map,List.flatMap_map];exact r89.keep (Keeps.alloc _ _) (by simp)
  have a9:∀a,A0=some a→a.block<(w1.alloc (.cells #[.slice none 0 0] 111)).heap.size:=fun a ha=>by have:=a89 a ha;rw[World.size_alloc];omega
  have hus:∀u∈subs.map (toV 0),u.f.size<65536∧u.h<3∧u.q<3:=fun u hu=>by
   exact zZ13
  have e:=subscribeEncode4_c _ G w1.heap.size (arr F) F 1 false false id (subs.map (toV 0)) A0 c0 (h.enc 8 1 4 rfl rfl rfl (by omega) (by omega)) hid hid0 (h.sc_ 102 _ (by simp[scal,zp])) (by rw[List.length_map];exact e89) r9 a9 hus (by rw[List.length_map];omega) (Buf.new w1) h.bb
  rw[hb] at e
  exact e
 ·obtain⟨xb,o,rfl,h1,h2,D⟩:=dst_of hg hgl hlt hT hblk hr hc ha (by simp[be2_length,lp_length]<;>omega) hlen
  have hfl:=flat_le subs (fun s=>encS4 (toV 0 s)) 70000 (fun u hu=>by have:=(hs u hu).1.1;simp[encS4,encS5,toV,lp_length];omega)
  exact⟨xb,h1,h2,zd8_c w' g xb _ _ (dz93 hblk) (subDec4_c w' g xb o cb _ _ _ 1 false false id subs D rfl hid hs hs0 (by omega) (by omega))⟩
theorem zZ2 {p:Prop} (h:p:=by
 refine zz8_c w1 G _ (h.c93 8 rfl) ?_
 obtain⟨A0,c0,e89,r89,a89⟩:=h.subs
 have r9:Rd (w1.alloc (.cells #[.slice none 0 0] 111)) 9 A0 (subs.map (toV 0)).length ((subs.map (toV 0)).flatMap SubV.cells):=by rw[List.length_map,List.flatMap_map];exact r89.keep (Keeps.alloc _ _) (by simp)
 have a9:∀a,A0=some a→a.block<(w1.alloc (.cells #[.slice none 0 0] 111)).heap.size:=fun a ha=>by have:=a89 a ha;rw[World.size_alloc];omega
 have hus:∀u∈subs.map (toV 0),u.f.size<65536∧u.h<3∧u.q<3:=fun u hu=>by
  exact zZ13
 have hs:=h.props.pall hP
 have e:=subscribeEncode5_c _ G w1.heap.size (arr F) F 1 false false id (subs.map (toV 0)) A0 c0 (h.enc 8 1 5 rfl rfl rfl (by omega) (by omega)) hid hid0 (h.sc_ 102 _ (by simp[scal,zp])) (by rw[List.length_map];exact e89) r9 a9 hus (by rw[List.length_map];omega) (sOf l) hs (Buf.new w1) h.bb
 rw[hb] at e
 exact e
 ):p:=h
theorem zZ14 {p:Prop} (h:p:=by
 have hfl:=flat_le subs (fun s=>encS5 (toV 0 s)) 70000 (fun u hu=>by have:=(hs u hu).1.1;simp[encS4,encS5,toV,lp_length];omega)
 have hle:=encPL_le hP
 exact zZ16
 ):p:=h
theorem road_sub5n (id:Nat) (l:List PropV) (subs:List SubP) (hid:id<65536) (hid0:0<id) (hP:ProperL 8 l) (hnm:numsOf l=[]) (hs:∀u∈subs,TextOK u.filter∧(0≤u.qos∧u.qos≤2)∧0≤u.handling∧u.handling≤2) (hsl:subs.length≤10):Road ({zp 8 5 l with qos:=(1:Int),dup:=false,retain:=false,id:=(id:Int),subs:=subs}) 5:=by
 have hlen:(be2 id++(encPL l++(subs.flatMap (fun s=>encS5 (toV 0 s))))).length≤50000000:=by
  exact zZ14
 have hb:be2 id++pbytes (sOf l)++(subs.map (toV 0)).flatMap encS5=be2 id++(encPL l++(subs.flatMap (fun s=>encS5 (toV 0 s)))):=by
  simp[pb_enc hP,List.flatMap_map]
 refine⟨8,1,false,false,be2 id++(encPL l++(subs.flatMap (fun s=>encS5 (toV 0 s)))),by unfold HdOK;simp,hlen,fun w0 w1 bp G v F h21 h=>?_,fun w1 g hg hgl w' Ab cb hlt hT hblk hr hc ha=>?_⟩
 ·exact zZ2
 ·obtain⟨xb,o,rfl,h1,h2,D⟩:=dst_of hg hgl hlt hT hblk hr hc ha (by simp[be2_length,lp_length]<;>omega) hlen
  have hfl:=flat_le subs (fun s=>encS5 (toV 0 s)) 70000 (fun u hu=>by have:=(hs u hu).1.1;simp[encS4,encS5,toV,lp_length];omega)
  exact⟨xb,h1,h2,zd8_c w' g xb _ _ (dz93 hblk) (subDec5n_c w' g xb o cb _ _ _ 1 false false id l subs D rfl hid hP hnm hs (by omega) (by omega))⟩
theorem road_sub5s (id:Nat) (l:List PropV) (a0:Nat) (at0:List Nat) (subs:List SubP) (hid:id<65536) (hid0:0<id) (hP:ProperL 8 l) (hnm:numsOf l=a0::at0) (hs:∀u∈subs,TextOK u.filter∧(0≤u.qos∧u.qos≤2)∧0≤u.handling∧u.handling≤2) (hsl:subs.length≤10):Road ({zp 8 5 l with qos:=(1:Int),dup:=false,retain:=false,id:=(id:Int),subs:=subs}) 5:=by
 have hlen:(be2 id++(encPL l++(subs.flatMap (fun s=>encS5 (toV 0 s))))).length≤50000000:=by
  exact zZ14
 have hb:be2 id++pbytes (sOf l)++(subs.map (toV 0)).flatMap encS5=be2 id++(encPL l++(subs.flatMap (fun s=>encS5 (toV 0 s)))):=by
  simp[pb_enc hP,List.flatMap_map]
 refine⟨8,1,false,false,be2 id++(encPL l++(subs.flatMap (fun s=>encS5 (toV 0 s)))),by unfold HdOK;simp,hlen,fun w0 w1 bp G v F h21 h=>?_,fun w1 g hg hgl w' Ab cb hlt hT hblk hr hc ha=>?_⟩
 ·exact zZ2
 ·obtain⟨xb,o,rfl,h1,h2,D⟩:=dst_of hg hgl hlt hT hblk hr hc ha (by simp[be2_length,lp_length]<;>omega) hlen
  have hfl:=flat_le subs (fun s=>encS5 (toV 0 s)) 70000 (fun u hu=>by have:=(hs u hu).1.1;simp[encS4,encS5,toV,lp_length];omega)
  exact⟨xb,h1,h2,zd8_c w' g xb _ _ (dz93 hblk) (subDec5s_c w' g xb o cb _ _ _ 1 false false id l a0 at0 subs D rfl hid hP hnm hs (by omega) (by omega))⟩
theorem road_unsub4 (id:Nat) (subs:List SubP) (hid:id<65536) (hid0:0<id) (hs0:∀u∈subs,u=⟨u.filter,0,false,false,0⟩) (hs:∀u∈subs,TextOK u.filter∧(0≤u.qos∧u.qos≤2)∧0≤u.handling∧u.handling≤2) (hsl:subs.length≤10):Road ({zp 10 4 [] with qos:=(1:Int),dup:=false,retain:=false,id:=(id:Int),subs:=subs}) 4:=by
 have hlen:(be2 id++(subs.flatMap (fun s=>lp s.filter.data.toList))).length≤50000000:=by
  have hfl:=flat_le subs (fun s=>lp s.filter.data.toList) 70000 (fun u hu=>by have:=(hs u hu).1.1;simp[encS4,encS5,toV,lp_length];omega)
  skip
  exact zZ16
 have hb:be2 id++(subs.map (toV 0)).flatMap encF=be2 id++(subs.flatMap (fun s=>lp s.filter.data.toList)):=by
  simp[List.flatMap_map,encF,toV]
 refine⟨10,1,false,false,be2 id++(subs.flatMap (fun s=>lp s.filter.data.toList)),by unfold HdOK;simp,hlen,fun w0 w1 bp G v F h21 h=>?_,fun w1 g hg hgl w' Ab cb hlt hT hblk hr hc ha=>?_⟩
 ·refine zz10_c w1 G _ (h.c93 10 rfl) ?_
  obtain⟨A0,c0,e89,r89,a89⟩:=h.subs
  have r9:Rd (w1.alloc (.cells #[.slice none 0 0] 111)) 9 A0 (subs.map (toV 0)).length ((subs.map (toV 0)).flatMap SubV.cells):=by rw[List.length_map,List.flatMap_map];exact r89.keep (Keeps.alloc _ _) (by simp)
  have a9:∀a,A0=some a→a.block<(w1.alloc (.cells #[.slice none 0 0] 111)).heap.size:=fun a ha=>by have:=a89 a ha;rw[World.size_alloc];omega
  have hus:∀u∈subs.map (toV 0),u.f.size<65536∧u.h<3∧u.q<3:=fun u hu=>by
   exact zZ13
  have e:=unsubscribeEncode4_c _ G w1.heap.size (arr F) F 1 false false id (subs.map (toV 0)) A0 c0 (h.enc 10 1 4 rfl rfl rfl (by omega) (by omega)) hid hid0 (h.sc_ 102 _ (by simp[scal,zp])) (by rw[List.length_map];exact e89) r9 a9 hus (by rw[List.length_map];omega) (Buf.new w1) h.bb
  rw[hb] at e
  exact e
 ·obtain⟨xb,o,rfl,h1,h2,D⟩:=dst_of hg hgl hlt hT hblk hr hc ha (by simp[be2_length,lp_length]<;>omega) hlen
  have hfl:=flat_le subs (fun s=>lp s.filter.data.toList) 70000 (fun u hu=>by have:=(hs u hu).1.1;simp[encS4,encS5,toV,lp_length];omega)
  exact⟨xb,h1,h2,zd10_c w' g xb _ _ (dz93 hblk) (unsubDec4_c w' g xb o cb _ _ _ 1 false false id subs D rfl hid (fun u hu=>(hs u hu).1) hs0 (by omega) (by omega))⟩
theorem road_unsub5 (id:Nat) (l:List PropV) (subs:List SubP) (hid:id<65536) (hid0:0<id) (hP:ProperL 10 l) (hs0:∀u∈subs,u=⟨u.filter,0,false,false,0⟩) (hs:∀u∈subs,TextOK u.filter∧(0≤u.qos∧u.qos≤2)∧0≤u.handling∧u.handling≤2) (hsl:subs.length≤10):Road ({zp 10 5 l with qos:=(1:Int),dup:=false,retain:=false,id:=(id:Int),subs:=subs}) 5:=by
 have hlen:(be2 id++(encPL l++(subs.flatMap (fun s=>lp s.filter.data.toList)))).length≤50000000:=by
  have hfl:=flat_le subs (fun s=>lp s.filter.data.toList) 70000 (fun u hu=>by have:=(hs u hu).1.1;simp[encS4,encS5,toV,lp_length];omega)
  have hle:=encPL_le hP
  exact zZ16
 have hb:be2 id++pbytes (sOf l)++(subs.map (toV 0)).flatMap encF=be2 id++(encPL l++(subs.flatMap (fun s=>lp s.filter.data.toList))):=by
  simp[pb_enc hP,List.flatMap_map,encF,toV]
 refine⟨10,1,false,false,be2 id++(encPL l++(subs.flatMap (fun s=>lp s.filter.data.toList))),by unfold HdOK;simp,hlen,fun w0 w1 bp G v F h21 h=>?_,fun w1 g hg hgl w' Ab cb hlt hT hblk hr hc ha=>?_⟩
 ·refine zz10_c w1 G _ (h.c93 10 rfl) ?_
  obtain⟨A0,c0,e89,r89,a89⟩:=h.subs
  have r9:Rd (w1.alloc (.cells #[.slice none 0 0] 111)) 9 A0 (subs.map (toV 0)).length ((subs.map (toV 0)).flatMap SubV.cells):=by rw[List.length_map,List.flatMap_map];exact r89.keep (Keeps.alloc _ _) (by simp)
  have a9:∀a,A0=some a→a.block<(w1.alloc (.cells #[.slice none 0 0] 111)).heap.size:=fun a ha=>by have:=a89 a ha;rw[World.size_alloc];omega
  have hus:∀u∈subs.map (toV 0),u.f.size<65536∧u.h<3∧u.q<3:=fun u hu=>by
   exact zZ13
  have hs:=h.props.pall hP
  have e:=unsubscribeEncode5_c _ G w1.heap.size (arr F) F 1 false false id (subs.map (toV 0)) A0 c0 (h.enc 10 1 5 rfl rfl rfl (by omega) (by omega)) hid hid0 (h.sc_ 102 _ (by simp[scal,zp])) (by rw[List.length_map];exact e89) r9 a9 hus (by rw[List.length_map];omega) (sOf l) hs (Buf.new w1) h.bb
  rw[hb] at e
  exact e
 ·obtain⟨xb,o,rfl,h1,h2,D⟩:=dst_of hg hgl hlt hT hblk hr hc ha (by simp[be2_length,lp_length]<;>omega) hlen
  have hfl:=flat_le subs (fun s=>lp s.filter.data.toList) 70000 (fun u hu=>by have:=(hs u hu).1.1;simp[encS4,encS5,toV,lp_length];omega)
  exact⟨xb,h1,h2,zd10_c w' g xb _ _ (dz93 hblk) (unsubDec5_c w' g xb o cb _ _ _ 1 false false id l subs D rfl hid hP (fun u hu=>(hs u hu).1) hs0 (by omega) (by omega))⟩
theorem OptEnc.parts {lo G:Nat} {w:World} {F:Nat→Value} {fl d:Nat} {b:Bool} {x:List UInt8} (h:OptEnc lo G w F fl d (if b then[x] else[])):F fl=.bool b∧∃ys,DatNew lo G w (F d) ys∧(b=true→ys=x)∧(b=false→ys=[]):=by
 cases b
 ·rcases h with⟨_,h1,h2⟩|⟨ys,h1,_⟩
  ·exact⟨h1,[],by rw[h2];exact DatNew.nil _ _ _,(fun e=>by cases e),fun _=>rfl⟩
  ·simp at h1
 ·rcases h with⟨h1,_⟩|⟨ys,h1,h2,h3⟩
  ·simp at h1
  ·simp at h1;subst h1;exact⟨h2,_,h3,fun _=>rfl,fun e=>by cases e⟩
theorem WillEnc.yes {lo G:Nat} {w:World} {F:Nat→Value} {u:WillV} (h:WillEnc lo G w F [u]):F 47=.bool true∧F 46=.int .u8 u.qos∧F 48=.bool u.retain∧F 42=.string u.topic∧DatNew lo G w (F 40) u.payload∧PStF G w F 0 u.props:=by
 rcases h with⟨h1,_⟩|⟨u2,h1,h2⟩
 ·simp at h1
 ·simp at h1;subst h1;exact h2
theorem WillEnc.no {lo G:Nat} {w:World} {F:Nat→Value} (h:WillEnc lo G w F []):F 47=.bool false∧F 46=.int .u8 0∧F 48=.bool false∧F 42=.string ⟨#[]⟩∧F 40=.slice none 0 0∧PStF G w F 0 []:=by
 rcases h with⟨_,h1⟩|⟨u2,h1,h2⟩
 ·exact h1
 ·simp at h1
theorem ProperL.nil (k:Int):ProperL k []:=⟨by simp,by simp,by simp,List.Pairwise.nil⟩
theorem optR_eq (b:Bool) (l rest:List UInt8):optR b l rest=optD b l++rest:=by cases b<;>rfl
theorem optD_eq {b:Bool} {ys x:List UInt8} (h:b=true→ys=x):optD b ys=optD b x:=by
 cases b
 ·rfl
 ·rw[h rfl]
theorem opt_le {b:Bool} {ys x:List UInt8} (h1:b=true→ys=x) (h0:b=false→ys=[]) (hx:x.length≤200):ys.length≤65535:=by
 cases b
 ·rw[h0 rfl];simp
 ·rw[h1 rfl];omega
theorem zZ15 {p:Prop} (h:p:=by
 cases uf<;>cases pf<;>simp[willR,optR,be2_length,lp_length]<;>omega
 ):p:=h
theorem road_connect4w (nm cid:ByteArray) (cl pf uf:Bool) (ka:Nat) (u:WillV) (un pw:List UInt8) (hpn:nm.size<65536) (hka:ka<65536) (hcid:TextOK cid) (hu1:TextOK u.topic) (hu2:u.payload.length≤1000) (hu3:0≤u.qos∧u.qos≤2) (hu4:ProperL 16 u.props) (hu5:u.props=[]) (hun:un.length≤200) (hpw:pw.length≤200):Road ({zp 1 4 [] with qos:=(0:Int),dup:=false,retain:=false,name:=nm,level:=4,client:=cid,clean:=cl,keep:=(ka:Int),will:=[u],user:=if uf then[un] else[],pass:=if pf then[pw] else[]}) 4:=by
 have hcs:=hcid.1
 have hut:=hu1.1
 have hle2:=encPL_le hu4
 have hlen:(lp nm.data.toList++([UInt8.ofNat 4]++([flagB cl true u.retain pf uf (u.qos.toNat)]++(be2 ka++(lp cid.data.toList++(willR false true u (optR uf un (optR pf pw [])))))))).length≤50000000:=by
  exact zZ15
 refine⟨1,0,false,false,lp nm.data.toList++([UInt8.ofNat 4]++([flagB cl true u.retain pf uf (u.qos.toNat)]++(be2 ka++(lp cid.data.toList++(willR false true u (optR uf un (optR pf pw []))))))),by unfold HdOK;simp,hlen,fun w0 w1 bp G v F h21 h=>?_,fun w1 g hg hgl w' Ab cb hlt hT hblk hr hc ha=>?_⟩
 ·refine zz1_c w1 G _ (h.c93 1 rfl) ?_
  obtain⟨A39,c39,e39,r39,a39,_⟩:=h.d39.parts
  obtain⟨e45,yu,du,hy1,hy0⟩:=OptEnc.parts (b:=uf) (x:=un) h.user
  obtain⟨A38,c38,e38,r38,a38,_⟩:=du.parts
  obtain⟨e44,yp,dp,hz1,hz0⟩:=OptEnc.parts (b:=pf) (x:=pw) h.pass
  obtain⟨A37,c37,e37,r37,a37,_⟩:=dp.parts
  obtain⟨e47,e46,e48,e42,d40,p0⟩:=WillEnc.yes h.will
  obtain⟨A40,c40,e40,r40,a40,_⟩:=d40.parts
  have e46:F 46=.int .u8 (u.qos.toNat:Int):=by rw[e46,Int.toNat_of_nonneg hu3.1]
  have e:=connectEncode4_c _ G w1.heap.size (arr F) F 0 false false nm.data.toList yu yp u.payload A39 A38 A37 A40 c39 c38 c37 c40 ka (u.qos.toNat) cl true u.retain pf uf cid u.topic (h.enc 1 0 4 rfl rfl rfl (by omega) (by omega)) e39 r39 a39 (by simp;omega) e38 r38 a38 (opt_le hy1 hy0 hun) e37 r37 a37 (opt_le hz1 hz0 hpw) e40 r40 a40 (by omega) (h.sc_ 41 _ (by simp[scal,zp])) (by omega) e42 (by omega) (h.sc_ 43 _ (by simp[scal,zp])) hka e44 e45 e46 (by omega) e47 e48 (h.sc_ 49 _ (by simp[scal,zp])) (Buf.new w1) h.bb
  have hb:lp nm.data.toList++[UInt8.ofNat 4]++[flagB cl true u.retain pf uf (u.qos.toNat)]++be2 ka++lp cid.data.toList++willB4 true u.topic u.payload++optD uf yu++optD pf yp=lp nm.data.toList++([UInt8.ofNat 4]++([flagB cl true u.retain pf uf (u.qos.toNat)]++(be2 ka++(lp cid.data.toList++(willR false true u (optR uf un (optR pf pw []))))))):=by
   simp[optR_eq,optD_eq hy1,optD_eq hz1,willR,willB4]
  rw[hb] at e
  exact e
 ·obtain⟨xb,o,rfl,h1,h2,D⟩:=dst_of hg hgl hlt hT hblk hr hc ha (by simp[lp_length]<;>omega) hlen
  exact⟨xb,h1,h2,zd1_c w' g xb _ _ (dz93 hblk) (connDec4_c w' g xb o cb _ _ _ 0 false false nm cl true u.retain pf uf (u.qos.toNat) _ ka cid u un pw D rfl hpn (by omega) rfl hka hcid (fun _=>⟨Int.toNat_of_nonneg hu3.1,rfl,hu1,by omega,hu5⟩) (by omega) (by omega))⟩
theorem road_connect4n (nm cid:ByteArray) (cl pf uf:Bool) (ka:Nat) (u:WillV) (un pw:List UInt8) (hpn:nm.size<65536) (hka:ka<65536) (hcid:TextOK cid) (hun:un.length≤200) (hpw:pw.length≤200):Road ({zp 1 4 [] with qos:=(0:Int),dup:=false,retain:=false,name:=nm,level:=4,client:=cid,clean:=cl,keep:=(ka:Int),will:=[],user:=if uf then[un] else[],pass:=if pf then[pw] else[]}) 4:=by
 have hcs:=hcid.1
 have hlen:(lp nm.data.toList++([UInt8.ofNat 4]++([flagB cl false false pf uf (0)]++(be2 ka++(lp cid.data.toList++(willR false false u (optR uf un (optR pf pw [])))))))).length≤50000000:=by
  exact zZ15
 refine⟨1,0,false,false,lp nm.data.toList++([UInt8.ofNat 4]++([flagB cl false false pf uf (0)]++(be2 ka++(lp cid.data.toList++(willR false false u (optR uf un (optR pf pw []))))))),by unfold HdOK;simp,hlen,fun w0 w1 bp G v F h21 h=>?_,fun w1 g hg hgl w' Ab cb hlt hT hblk hr hc ha=>?_⟩
 ·refine zz1_c w1 G _ (h.c93 1 rfl) ?_
  obtain⟨A39,c39,e39,r39,a39,_⟩:=h.d39.parts
  obtain⟨e45,yu,du,hy1,hy0⟩:=OptEnc.parts (b:=uf) (x:=un) h.user
  obtain⟨A38,c38,e38,r38,a38,_⟩:=du.parts
  obtain⟨e44,yp,dp,hz1,hz0⟩:=OptEnc.parts (b:=pf) (x:=pw) h.pass
  obtain⟨A37,c37,e37,r37,a37,_⟩:=dp.parts
  obtain⟨e47,e46,e48,e42,e40,p0⟩:=WillEnc.no h.will
  have e:=connectEncode4_c _ G w1.heap.size (arr F) F 0 false false nm.data.toList yu yp [] A39 A38 A37 none c39 c38 c37 0 ka (0) cl false false pf uf cid ⟨#[]⟩ (h.enc 1 0 4 rfl rfl rfl (by omega) (by omega)) e39 r39 a39 (by simp;omega) e38 r38 a38 (opt_le hy1 hy0 hun) e37 r37 a37 (opt_le hz1 hz0 hpw) e40 (Rd.none_ _ _) (by simp) (by simp) (h.sc_ 41 _ (by simp[scal,zp])) (by omega) e42 (by decide) (h.sc_ 43 _ (by simp[scal,zp])) hka e44 e45 e46 (by omega) e47 e48 (h.sc_ 49 _ (by simp[scal,zp])) (Buf.new w1) h.bb
  have hb:lp nm.data.toList++[UInt8.ofNat 4]++[flagB cl false false pf uf (0)]++be2 ka++lp cid.data.toList++willB4 false ⟨#[]⟩ []++optD uf yu++optD pf yp=lp nm.data.toList++([UInt8.ofNat 4]++([flagB cl false false pf uf (0)]++(be2 ka++(lp cid.data.toList++(willR false false u (optR uf un (optR pf pw []))))))):=by
   simp[optR_eq,optD_eq hy1,optD_eq hz1,willR,willB4]
  rw[hb] at e
  exact e
 ·obtain⟨xb,o,rfl,h1,h2,D⟩:=dst_of hg hgl hlt hT hblk hr hc ha (by simp[lp_length]<;>omega) hlen
  exact⟨xb,h1,h2,zd1_c w' g xb _ _ (dz93 hblk) (connDec4_c w' g xb o cb _ _ _ 0 false false nm cl false false pf uf (0) _ ka cid u un pw D rfl hpn (by omega) rfl hka hcid (fun e=>by cases e) (by omega) (by omega))⟩
theorem road_connect5w (nm cid:ByteArray) (cl pf uf:Bool) (ka:Nat) (l:List PropV) (u:WillV) (un pw:List UInt8) (hpn:nm.size<65536) (hka:ka<65536) (hP:ProperL 1 l) (hcid:TextOK cid) (hu1:TextOK u.topic) (hu2:u.payload.length≤1000) (hu3:0≤u.qos∧u.qos≤2) (hu4:ProperL 16 u.props) (hun:un.length≤200) (hpw:pw.length≤200):Road ({zp 1 5 l with qos:=(0:Int),dup:=false,retain:=false,name:=nm,level:=5,client:=cid,clean:=cl,keep:=(ka:Int),will:=[u],user:=if uf then[un] else[],pass:=if pf then[pw] else[]}) 5:=by
 have hcs:=hcid.1
 have hle:=encPL_le hP
 have hut:=hu1.1
 have hle2:=encPL_le hu4
 have hlen:(lp nm.data.toList++([UInt8.ofNat 5]++([flagB cl true u.retain pf uf (u.qos.toNat)]++(be2 ka++(encPL l++(lp cid.data.toList++(willR true true u (optR uf un (optR pf pw []))))))))).length≤50000000:=by
  exact zZ15
 refine⟨1,0,false,false,lp nm.data.toList++([UInt8.ofNat 5]++([flagB cl true u.retain pf uf (u.qos.toNat)]++(be2 ka++(encPL l++(lp cid.data.toList++(willR true true u (optR uf un (optR pf pw [])))))))),by unfold HdOK;simp,hlen,fun w0 w1 bp G v F h21 h=>?_,fun w1 g hg hgl w' Ab cb hlt hT hblk hr hc ha=>?_⟩
 ·refine zz1_c w1 G _ (h.c93 1 rfl) ?_
  obtain⟨A39,c39,e39,r39,a39,_⟩:=h.d39.parts
  obtain⟨e45,yu,du,hy1,hy0⟩:=OptEnc.parts (b:=uf) (x:=un) h.user
  obtain⟨A38,c38,e38,r38,a38,_⟩:=du.parts
  obtain⟨e44,yp,dp,hz1,hz0⟩:=OptEnc.parts (b:=pf) (x:=pw) h.pass
  obtain⟨A37,c37,e37,r37,a37,_⟩:=dp.parts
  obtain⟨e47,e46,e48,e42,d40,p0⟩:=WillEnc.yes h.will
  obtain⟨A40,c40,e40,r40,a40,_⟩:=d40.parts
  have e46:F 46=.int .u8 (u.qos.toNat:Int):=by rw[e46,Int.toNat_of_nonneg hu3.1]
  have hs:=h.props.pall hP
  have hs2:PAll (w1.alloc (.cells #[.slice none 0 0] 111)) 99 (fun j=>F (0+j)) (sOf u.props):=p0.pall hu4
  have e:=connectEncode5_c _ G w1.heap.size (arr F) F 0 false false nm.data.toList yu yp u.payload A39 A38 A37 A40 c39 c38 c37 c40 ka (u.qos.toNat) cl true u.retain pf uf cid u.topic (h.enc 1 0 5 rfl rfl rfl (by omega) (by omega)) e39 r39 a39 (by simp;omega) e38 r38 a38 (opt_le hy1 hy0 hun) e37 r37 a37 (opt_le hz1 hz0 hpw) e40 r40 a40 (by omega) (h.sc_ 41 _ (by simp[scal,zp])) (by omega) e42 (by omega) (h.sc_ 43 _ (by simp[scal,zp])) hka e44 e45 e46 (by omega) e47 e48 (h.sc_ 49 _ (by simp[scal,zp])) (sOf l) hs (sOf u.props) hs2 (Buf.new w1) h.bb
  have hb:lp nm.data.toList++[UInt8.ofNat 5]++[flagB cl true u.retain pf uf (u.qos.toNat)]++be2 ka++pbytes (sOf l)++lp cid.data.toList++willB5 true (sOf u.props) u.topic u.payload++optD uf yu++optD pf yp=lp nm.data.toList++([UInt8.ofNat 5]++([flagB cl true u.retain pf uf (u.qos.toNat)]++(be2 ka++(encPL l++(lp cid.data.toList++(willR true true u (optR uf un (optR pf pw [])))))))):=by
   simp[optR_eq,optD_eq hy1,optD_eq hz1,willR,pb_enc hP,willB5,pb_enc hu4]
  rw[hb] at e
  exact e
 ·obtain⟨xb,o,rfl,h1,h2,D⟩:=dst_of hg hgl hlt hT hblk hr hc ha (by simp[lp_length]<;>omega) hlen
  exact⟨xb,h1,h2,zd1_c w' g xb _ _ (dz93 hblk) (connDec5_c w' g xb o cb _ _ _ 0 false false nm cl true u.retain pf uf (u.qos.toNat) _ ka l cid u un pw D rfl hpn (by omega) rfl hka hP hcid (fun _=>⟨Int.toNat_of_nonneg hu3.1,rfl,hu1,by omega,hu4⟩) (by omega) (by omega))⟩
theorem road_connect5n (nm cid:ByteArray) (cl pf uf:Bool) (ka:Nat) (l:List PropV) (u:WillV) (un pw:List UInt8) (hpn:nm.size<65536) (hka:ka<65536) (hP:ProperL 1 l) (hcid:TextOK cid) (hun:un.length≤200) (hpw:pw.length≤200):Road ({zp 1 5 l with qos:=(0:Int),dup:=false,retain:=false,name:=nm,level:=5,client:=cid,clean:=cl,keep:=(ka:Int),will:=[],user:=if uf then[un] else[],pass:=if pf then[pw] else[]}) 5:=by
 have hcs:=hcid.1
 have hle:=encPL_le hP
 have hlen:(lp nm.data.toList++([UInt8.ofNat 5]++([flagB cl false false pf uf (0)]++(be2 ka++(encPL l++(lp cid.data.toList++(willR true false u (optR uf un (optR pf pw []))))))))).length≤50000000:=by
  exact zZ15
 refine⟨1,0,false,false,lp nm.data.toList++([UInt8.ofNat 5]++([flagB cl false false pf uf (0)]++(be2 ka++(encPL l++(lp cid.data.toList++(willR true false u (optR uf un (optR pf pw [])))))))),by unfold HdOK;simp,hlen,fun w0 w1 bp G v F h21 h=>?_,fun w1 g hg hgl w' Ab cb hlt hT hblk hr hc ha=>?_⟩
 ·refine zz1_c w1 G _ (h.c93 1 rfl) ?_
  obtain⟨A39,c39,e39,r39,a39,_⟩:=h.d39.parts
  obtain⟨e45,yu,du,hy1,hy0⟩:=OptEnc.parts (b:=uf) (x:=un) h.user
  obtain⟨A38,c38,e38,r38,a38,_⟩:=du.parts
  obtain⟨e44,yp,dp,hz1,hz0⟩:=OptEnc.parts (b:=pf) (x:=pw) h.pass
  obtain⟨A37,c37,e37,r37,a37,_⟩:=dp.parts
  obtain⟨e47,e46,e48,e42,e40,p0⟩:=WillEnc.no h.will
  have hs:=h.props.pall hP
  have hs2:PAll (w1.alloc (.cells #[.slice none 0 0] 111)) 99 (fun j=>F (0+j)) (sOf []):=p0.pall (ProperL.nil 16)
  have e:=connectEncode5_c _ G w1.heap.size (arr F) F 0 false false nm.data.toList yu yp [] A39 A38 A37 none c39 c38 c37 0 ka (0) cl false false pf uf cid ⟨#[]⟩ (h.enc 1 0 5 rfl rfl rfl (by omega) (by omega)) e39 r39 a39 (by simp;omega) e38 r38 a38 (opt_le hy1 hy0 hun) e37 r37 a37 (opt_le hz1 hz0 hpw) e40 (Rd.none_ _ _) (by simp) (by simp) (h.sc_ 41 _ (by simp[scal,zp])) (by omega) e42 (by decide) (h.sc_ 43 _ (by simp[scal,zp])) hka e44 e45 e46 (by omega) e47 e48 (h.sc_ 49 _ (by simp[scal,zp])) (sOf l) hs (sOf []) hs2 (Buf.new w1) h.bb
  have hb:lp nm.data.toList++[UInt8.ofNat 5]++[flagB cl false false pf uf (0)]++be2 ka++pbytes (sOf l)++lp cid.data.toList++willB5 false (sOf []) ⟨#[]⟩ []++optD uf yu++optD pf yp=lp nm.data.toList++([UInt8.ofNat 5]++([flagB cl false false pf uf (0)]++(be2 ka++(encPL l++(lp cid.data.toList++(willR true false u (optR uf un (optR pf pw [])))))))):=by
   simp[optR_eq,optD_eq hy1,optD_eq hz1,willR,pb_enc hP,willB5]
  rw[hb] at e
  exact e
 ·obtain⟨xb,o,rfl,h1,h2,D⟩:=dst_of hg hgl hlt hT hblk hr hc ha (by simp[lp_length]<;>omega) hlen
  exact⟨xb,h1,h2,zd1_c w' g xb _ _ (dz93 hblk) (connDec5_c w' g xb o cb _ _ _ 0 false false nm cl false false pf uf (0) _ ka l cid u un pw D rfl hpn (by omega) rfl hka hP hcid (fun e=>by cases e) (by omega) (by omega))⟩
def namedP (p:PkV):PkV:=if p.kind=1 then {p with name:=⟨#[77,81,84,84]⟩,level:=p.version} else if p.kind=6∨p.kind=8∨p.kind=10 then {p with qos:=1} else p
theorem PkV.ext' {a b:PkV} (h1:a.kind=b.kind) (h2:a.version=b.version) (h3:a.dup=b.dup) (h4:a.retain=b.retain) (h5:a.qos=b.qos) (h6:a.id=b.id) (h7:a.topic=b.topic) (h8:a.payload=b.payload) (h9:a.name=b.name) (h10:a.level=b.level) (h11:a.client=b.client) (h12:a.clean=b.clean) (h13:a.keep=b.keep) (h14:a.will=b.will) (h15:a.user=b.user) (h16:a.pass=b.pass) (h17:a.present=b.present) (h18:a.code=b.code) (h19:a.codes=b.codes) (h20:a.subs=b.subs) (h21:a.props=b.props):a=b:=by
 cases a;cases b;simp at*;simp[*]
theorem Road.of {a b:PkV} {v v':Int} (h:Road b v') (e:a=b) (ev:v=v'):Road a v:=by subst e;subst ev;exact h
theorem u8_of {c:Int} (h:0≤c∧c≤255):c=((UInt8.ofNat c.toNat).toNat:Int):=by rw[UInt8.toNat_ofNat'];omega
theorem u8_n {c:Int} (h:0≤c∧c≤255):(UInt8.ofNat c.toNat).toNat=c.toNat:=by rw[UInt8.toNat_ofNat'];omega
theorem nat_of {c:Int} (h:0≤c):c=(c.toNat:Int):=(Int.toNat_of_nonneg h).symm
theorem opt_of {l:List (List UInt8)} (h:l.length≤1) (hq:∀u∈l,u.length≤200):∃(b:Bool) (x:List UInt8),l=(if b then[x] else[])∧x.length≤200:=by
 rcases l with _|⟨x,_|_⟩
 ·exact⟨false,[],rfl,by simp⟩
 ·exact⟨true,x,rfl,hq x (by simp)⟩
 ·simp at h
theorem all_1 {p:PkV} (h:PkOK p) (ht:ToldOK p) (hk:p.kind=1):Road (namedP p) p.version:=by
 have e:=h.same
 have ek:kept p={zeroP p.kind p.version p.props with client:=p.client,clean:=p.clean,keep:=p.keep,will:=p.will,user:=p.user,pass:=p.pass}:=by unfold kept;simp[hk]
 rw[ek] at e
 have hn:namedP p={p with name:=⟨#[77,81,84,84]⟩,level:=p.version}:=by unfold namedP;simp[hk]
 have hq0:=(h.hdr (by omega)).2.2
 have hq:p.qos=0:=hq0
 have hP:=h.props
 rw[hk] at hP
 have hc:=h.k1 hk
 obtain⟨uf,un,hu,hul⟩:=opt_of hc.user hc.users
 obtain⟨pf,pw,hp,hpl⟩:=opt_of hc.pass hc.passes
 have hw:=hc.will
 have hka:=hc.keep
 rcases h.ver with hv|hv
 ·rcases e1:p.will with _|⟨u,_|_⟩
  ·exact Road.of (road_connect4n ⟨#[77,81,84,84]⟩ p.client p.clean pf uf p.keep.toNat ⟨⟨#[]⟩,[],0,false,[]⟩ un pw (by decide) (by omega) hc.client.1 hul hpl) (hn.trans (PkV.ext' hk hv e.dup e.retain hq e.id e.topic e.payload rfl hv e.client e.clean (nat_of hka.1) e1 hu hp e.present e.code e.codes e.subs (h.v4 hv).1)) hv
  ·have hwo:=hc.wills u (by rw[e1];simp)
   exact Road.of (road_connect4w ⟨#[77,81,84,84]⟩ p.client p.clean pf uf p.keep.toNat u un pw (by decide) (by omega) hc.client.1 hwo.topic.1 hwo.payload hwo.qos hwo.props (hwo.v4 hv) hul hpl) (hn.trans (PkV.ext' hk hv e.dup e.retain hq e.id e.topic e.payload rfl hv e.client e.clean (nat_of hka.1) e1 hu hp e.present e.code e.codes e.subs (h.v4 hv).1)) hv
  ·rw[e1] at hw;simp at hw
 ·rcases e1:p.will with _|⟨u,_|_⟩
  ·exact Road.of (road_connect5n ⟨#[77,81,84,84]⟩ p.client p.clean pf uf p.keep.toNat p.props ⟨⟨#[]⟩,[],0,false,[]⟩ un pw (by decide) (by omega) hP hc.client.1 hul hpl) (hn.trans (PkV.ext' hk hv e.dup e.retain hq e.id e.topic e.payload rfl hv e.client e.clean (nat_of hka.1) e1 hu hp e.present e.code e.codes e.subs rfl)) hv
  ·have hwo:=hc.wills u (by rw[e1];simp)
   exact Road.of (road_connect5w ⟨#[77,81,84,84]⟩ p.client p.clean pf uf p.keep.toNat p.props u un pw (by decide) (by omega) hP hc.client.1 hwo.topic.1 hwo.payload hwo.qos hwo.props hul hpl) (hn.trans (PkV.ext' hk hv e.dup e.retain hq e.id e.topic e.payload rfl hv e.client e.clean (nat_of hka.1) e1 hu hp e.present e.code e.codes e.subs rfl)) hv
  ·rw[e1] at hw;simp at hw
theorem all_2 {p:PkV} (h:PkOK p) (ht:ToldOK p) (hk:p.kind=2):Road (namedP p) p.version:=by
 have e:=h.same
 have ek:kept p={zeroP p.kind p.version p.props with present:=p.present,code:=p.code}:=by unfold kept;simp[hk]
 rw[ek] at e
 have hn:namedP p=p:=by unfold namedP;simp[hk]
 have hq0:=(h.hdr (by omega)).2.2
 have hq:p.qos=0:=hq0
 have hP:=h.props
 rw[hk] at hP
 have hc:=h.k2 hk
 rcases h.ver with hv|hv
 ·exact Road.of (road_connack4 p.present (UInt8.ofNat p.code.toNat)) (hn.trans (PkV.ext' hk hv e.dup e.retain hq e.id e.topic e.payload ht.name ht.level e.client e.clean e.keep e.will e.user e.pass e.present (u8_of hc) e.codes e.subs (h.v4 hv).1)) hv
 ·exact Road.of (road_connack5 p.present (UInt8.ofNat p.code.toNat) p.props hP) (hn.trans (PkV.ext' hk hv e.dup e.retain hq e.id e.topic e.payload ht.name ht.level e.client e.clean e.keep e.will e.user e.pass e.present (u8_of hc) e.codes e.subs rfl)) hv
theorem all_3 {p:PkV} (h:PkOK p) (ht:ToldOK p) (hk:p.kind=3):Road (namedP p) p.version:=by
 have e:=h.same
 have ek:kept p={zeroP p.kind p.version p.props with dup:=p.dup,retain:=p.retain,qos:=p.qos,id:=p.id,topic:=p.topic,payload:=p.payload}:=by unfold kept;simp[hk]
 rw[ek] at e
 have hn:namedP p=p:=by unfold namedP;simp[hk]
 have hP:=h.props
 rw[hk] at hP
 obtain⟨htp,hq0,hq2,hid,hid0,hpl⟩:=h.k3 hk
 have hT:=htp.1
 rcases h.ver with hv|hv
 ·by_cases hq:p.qos=0
  ·obtain⟨h1,h2⟩:=hid0 hq
   exact Road.of (road_publish4_0 p.retain p.topic p.payload hT hpl) (hn.trans (PkV.ext' hk hv h2 rfl hq h1 e.topic e.payload ht.name ht.level e.client e.clean e.keep e.will e.user e.pass e.present e.code e.codes e.subs (h.v4 hv).1)) hv
  ·have h1:=hid (by omega)
   exact Road.of (road_publish4_1 p.qos.toNat p.dup p.retain p.topic p.id.toNat p.payload hT (by omega) (by omega) (by omega) hpl) (hn.trans (PkV.ext' hk hv e.dup e.retain (nat_of hq0) (nat_of (by omega)) e.topic e.payload ht.name ht.level e.client e.clean e.keep e.will e.user e.pass e.present e.code e.codes e.subs (h.v4 hv).1)) hv
 ·by_cases hq:p.qos=0
  ·obtain⟨h1,h2⟩:=hid0 hq
   exact Road.of (road_publish5_0 p.retain p.topic p.props p.payload hT hP hpl) (hn.trans (PkV.ext' hk hv h2 rfl hq h1 e.topic e.payload ht.name ht.level e.client e.clean e.keep e.will e.user e.pass e.present e.code e.codes e.subs rfl)) hv
  ·have h1:=hid (by omega)
   exact Road.of (road_publish5_1 p.qos.toNat p.dup p.retain p.topic p.id.toNat p.props p.payload hT (by omega) (by omega) (by omega) hP hpl) (hn.trans (PkV.ext' hk hv e.dup e.retain (nat_of hq0) (nat_of (by omega)) e.topic e.payload ht.name ht.level e.client e.clean e.keep e.will e.user e.pass e.present e.code e.codes e.subs rfl)) hv
theorem all_4 {p:PkV} (h:PkOK p) (ht:ToldOK p) (hk:p.kind=4):Road (namedP p) p.version:=by
 have e:=h.same
 have ek:kept p={zeroP p.kind p.version p.props with id:=p.id,code:=p.code}:=by unfold kept;simp[hk]
 rw[ek] at e
 have hn:namedP p=p:=by unfold namedP;simp[hk]
 have hq0:=(h.hdr (by omega)).2.2
 have hq:p.qos=0:=hq0
 have hP:=h.props
 rw[hk] at hP
 obtain⟨hid,hc0,hc1,hc4⟩:=h.k4 (by omega)
 have htc:=ht.code (by omega)
 have hi:p.id.toNat<65536:=by omega
 have hi1:0≤p.id:=by omega
 rcases h.ver with hv|hv
 ·exact Road.of (road_puback4 p.id.toNat hi) (hn.trans (PkV.ext' hk hv e.dup e.retain hq (nat_of hi1) e.topic e.payload ht.name ht.level e.client e.clean e.keep e.will e.user e.pass e.present (hc4 hv) e.codes e.subs (h.v4 hv).1)) hv
 ·by_cases hl:p.props=[]
  ·rw[hl] at hP
   rcases htc with hc|hc
   ·exact Road.of (road_puback5n p.id.toNat hi hP) (hn.trans (PkV.ext' hk hv e.dup e.retain hq (nat_of hi1) e.topic e.payload ht.name ht.level e.client e.clean e.keep e.will e.user e.pass e.present hc e.codes e.subs hl)) hv
   ·exact Road.of (road_puback5c p.id.toNat (UInt8.ofNat p.code.toNat) hi (by rw[u8_n ⟨hc0,hc1⟩];omega) hP) (hn.trans (PkV.ext' hk hv e.dup e.retain hq (nat_of hi1) e.topic e.payload ht.name ht.level e.client e.clean e.keep e.will e.user e.pass e.present (u8_of ⟨hc0,hc1⟩) e.codes e.subs hl)) hv
  ·rcases htc with hc|hc
   ·exact Road.of (road_puback5pl p.id.toNat (UInt8.ofNat p.code.toNat) p.props hi (by rw[u8_n ⟨hc0,hc1⟩];omega) hl hP) (hn.trans (PkV.ext' hk hv e.dup e.retain hq (nat_of hi1) e.topic e.payload ht.name ht.level e.client e.clean e.keep e.will e.user e.pass e.present (u8_of ⟨hc0,hc1⟩) e.codes e.subs rfl)) hv
   ·exact Road.of (road_puback5ph p.id.toNat (UInt8.ofNat p.code.toNat) p.props hi (by rw[u8_n ⟨hc0,hc1⟩];omega) hl hP) (hn.trans (PkV.ext' hk hv e.dup e.retain hq (nat_of hi1) e.topic e.payload ht.name ht.level e.client e.clean e.keep e.will e.user e.pass e.present (u8_of ⟨hc0,hc1⟩) e.codes e.subs rfl)) hv
theorem all_5 {p:PkV} (h:PkOK p) (ht:ToldOK p) (hk:p.kind=5):Road (namedP p) p.version:=by
 have e:=h.same
 have ek:kept p={zeroP p.kind p.version p.props with id:=p.id,code:=p.code}:=by unfold kept;simp[hk]
 rw[ek] at e
 have hn:namedP p=p:=by unfold namedP;simp[hk]
 have hq0:=(h.hdr (by omega)).2.2
 have hq:p.qos=0:=hq0
 have hP:=h.props
 rw[hk] at hP
 obtain⟨hid,hc0,hc1,hc4⟩:=h.k4 (by omega)
 have htc:=ht.code (by omega)
 have hi:p.id.toNat<65536:=by omega
 have hi1:0≤p.id:=by omega
 rcases h.ver with hv|hv
 ·exact Road.of (road_pubrec4 p.id.toNat hi) (hn.trans (PkV.ext' hk hv e.dup e.retain hq (nat_of hi1) e.topic e.payload ht.name ht.level e.client e.clean e.keep e.will e.user e.pass e.present (hc4 hv) e.codes e.subs (h.v4 hv).1)) hv
 ·by_cases hl:p.props=[]
  ·rw[hl] at hP
   rcases htc with hc|hc
   ·exact Road.of (road_pubrec5n p.id.toNat hi hP) (hn.trans (PkV.ext' hk hv e.dup e.retain hq (nat_of hi1) e.topic e.payload ht.name ht.level e.client e.clean e.keep e.will e.user e.pass e.present hc e.codes e.subs hl)) hv
   ·exact Road.of (road_pubrec5c p.id.toNat (UInt8.ofNat p.code.toNat) hi (by rw[u8_n ⟨hc0,hc1⟩];omega) hP) (hn.trans (PkV.ext' hk hv e.dup e.retain hq (nat_of hi1) e.topic e.payload ht.name ht.level e.client e.clean e.keep e.will e.user e.pass e.present (u8_of ⟨hc0,hc1⟩) e.codes e.subs hl)) hv
  ·rcases htc with hc|hc
   ·exact Road.of (road_pubrec5pl p.id.toNat (UInt8.ofNat p.code.toNat) p.props hi (by rw[u8_n ⟨hc0,hc1⟩];omega) hl hP) (hn.trans (PkV.ext' hk hv e.dup e.retain hq (nat_of hi1) e.topic e.payload ht.name ht.level e.client e.clean e.keep e.will e.user e.pass e.present (u8_of ⟨hc0,hc1⟩) e.codes e.subs rfl)) hv
   ·exact Road.of (road_pubrec5ph p.id.toNat (UInt8.ofNat p.code.toNat) p.props hi (by rw[u8_n ⟨hc0,hc1⟩];omega) hl hP) (hn.trans (PkV.ext' hk hv e.dup e.retain hq (nat_of hi1) e.topic e.payload ht.name ht.level e.client e.clean e.keep e.will e.user e.pass e.present (u8_of ⟨hc0,hc1⟩) e.codes e.subs rfl)) hv
theorem all_6 {p:PkV} (h:PkOK p) (ht:ToldOK p) (hk:p.kind=6):Road (namedP p) p.version:=by
 have e:=h.same
 have ek:kept p={zeroP p.kind p.version p.props with id:=p.id,code:=p.code}:=by unfold kept;simp[hk]
 rw[ek] at e
 have hn:namedP p={p with qos:=1}:=by unfold namedP;simp[hk]
 have hq0:=(h.hdr (by omega)).2.2
 have hq:(1:Int)=1:=rfl
 have hP:=h.props
 rw[hk] at hP
 obtain⟨hid,hc0,hc1,hc4⟩:=h.k4 (by omega)
 have htc:=ht.code (by omega)
 have hi:p.id.toNat<65536:=by omega
 have hi1:0≤p.id:=by omega
 rcases h.ver with hv|hv
 ·exact Road.of (road_pubrel4 p.id.toNat hi) (hn.trans (PkV.ext' hk hv e.dup e.retain hq (nat_of hi1) e.topic e.payload ht.name ht.level e.client e.clean e.keep e.will e.user e.pass e.present (hc4 hv) e.codes e.subs (h.v4 hv).1)) hv
 ·by_cases hl:p.props=[]
  ·rw[hl] at hP
   rcases htc with hc|hc
   ·exact Road.of (road_pubrel5n p.id.toNat hi hP) (hn.trans (PkV.ext' hk hv e.dup e.retain hq (nat_of hi1) e.topic e.payload ht.name ht.level e.client e.clean e.keep e.will e.user e.pass e.present hc e.codes e.subs hl)) hv
   ·exact Road.of (road_pubrel5c p.id.toNat (UInt8.ofNat p.code.toNat) hi (by rw[u8_n ⟨hc0,hc1⟩];omega) hP) (hn.trans (PkV.ext' hk hv e.dup e.retain hq (nat_of hi1) e.topic e.payload ht.name ht.level e.client e.clean e.keep e.will e.user e.pass e.present (u8_of ⟨hc0,hc1⟩) e.codes e.subs hl)) hv
  ·rcases htc with hc|hc
   ·exact Road.of (road_pubrel5pl p.id.toNat (UInt8.ofNat p.code.toNat) p.props hi (by rw[u8_n ⟨hc0,hc1⟩];omega) hl hP) (hn.trans (PkV.ext' hk hv e.dup e.retain hq (nat_of hi1) e.topic e.payload ht.name ht.level e.client e.clean e.keep e.will e.user e.pass e.present (u8_of ⟨hc0,hc1⟩) e.codes e.subs rfl)) hv
   ·exact Road.of (road_pubrel5ph p.id.toNat (UInt8.ofNat p.code.toNat) p.props hi (by rw[u8_n ⟨hc0,hc1⟩];omega) hl hP) (hn.trans (PkV.ext' hk hv e.dup e.retain hq (nat_of hi1) e.topic e.payload ht.name ht.level e.client e.clean e.keep e.will e.user e.pass e.present (u8_of ⟨hc0,hc1⟩) e.codes e.subs rfl)) hv
theorem all_7 {p:PkV} (h:PkOK p) (ht:ToldOK p) (hk:p.kind=7):Road (namedP p) p.version:=by
 have e:=h.same
 have ek:kept p={zeroP p.kind p.version p.props with id:=p.id,code:=p.code}:=by unfold kept;simp[hk]
 rw[ek] at e
 have hn:namedP p=p:=by unfold namedP;simp[hk]
 have hq0:=(h.hdr (by omega)).2.2
 have hq:p.qos=0:=hq0
 have hP:=h.props
 rw[hk] at hP
 obtain⟨hid,hc0,hc1,hc4⟩:=h.k4 (by omega)
 have htc:=ht.code (by omega)
 have hi:p.id.toNat<65536:=by omega
 have hi1:0≤p.id:=by omega
 rcases h.ver with hv|hv
 ·exact Road.of (road_pubcomp4 p.id.toNat hi) (hn.trans (PkV.ext' hk hv e.dup e.retain hq (nat_of hi1) e.topic e.payload ht.name ht.level e.client e.clean e.keep e.will e.user e.pass e.present (hc4 hv) e.codes e.subs (h.v4 hv).1)) hv
 ·by_cases hl:p.props=[]
  ·rw[hl] at hP
   rcases htc with hc|hc
   ·exact Road.of (road_pubcomp5n p.id.toNat hi hP) (hn.trans (PkV.ext' hk hv e.dup e.retain hq (nat_of hi1) e.topic e.payload ht.name ht.level e.client e.clean e.keep e.will e.user e.pass e.present hc e.codes e.subs hl)) hv
   ·exact Road.of (road_pubcomp5c p.id.toNat (UInt8.ofNat p.code.toNat) hi (by rw[u8_n ⟨hc0,hc1⟩];omega) hP) (hn.trans (PkV.ext' hk hv e.dup e.retain hq (nat_of hi1) e.topic e.payload ht.name ht.level e.client e.clean e.keep e.will e.user e.pass e.present (u8_of ⟨hc0,hc1⟩) e.codes e.subs hl)) hv
  ·rcases htc with hc|hc
   ·exact Road.of (road_pubcomp5pl p.id.toNat (UInt8.ofNat p.code.toNat) p.props hi (by rw[u8_n ⟨hc0,hc1⟩];omega) hl hP) (hn.trans (PkV.ext' hk hv e.dup e.retain hq (nat_of hi1) e.topic e.payload ht.name ht.level e.client e.clean e.keep e.will e.user e.pass e.present (u8_of ⟨hc0,hc1⟩) e.codes e.subs rfl)) hv
   ·exact Road.of (road_pubcomp5ph p.id.toNat (UInt8.ofNat p.code.toNat) p.props hi (by rw[u8_n ⟨hc0,hc1⟩];omega) hl hP) (hn.trans (PkV.ext' hk hv e.dup e.retain hq (nat_of hi1) e.topic e.payload ht.name ht.level e.client e.clean e.keep e.will e.user e.pass e.present (u8_of ⟨hc0,hc1⟩) e.codes e.subs rfl)) hv
theorem all_8 {p:PkV} (h:PkOK p) (ht:ToldOK p) (hk:p.kind=8):Road (namedP p) p.version:=by
 have e:=h.same
 have ek:kept p={zeroP p.kind p.version p.props with id:=p.id,subs:=p.subs}:=by unfold kept;simp[hk]
 rw[ek] at e
 have hn:namedP p={p with qos:=1}:=by unfold namedP;simp[hk]
 have hq0:=(h.hdr (by omega)).2.2
 have hq:(1:Int)=1:=rfl
 have hP:=h.props
 rw[hk] at hP
 obtain⟨hid,hsl,hso⟩:=h.k8 (by omega)
 have hi:p.id.toNat<65536:=by omega
 have hi1:0≤p.id:=by omega
 have hi0:0<p.id.toNat:=by omega
 have hs:∀u∈p.subs,TextOK u.filter∧(0≤u.qos∧u.qos≤2)∧0≤u.handling∧u.handling≤2:=fun u hu=>⟨(hso u hu).f.1,(hso u hu).q,(hso u hu).h⟩
 rcases h.ver with hv|hv
 ·exact Road.of (road_sub4 p.id.toNat p.subs hi hi0 (fun u hu=>(hso u hu).four (.inl hv)) hs hsl) (hn.trans (PkV.ext' hk hv e.dup e.retain hq (nat_of hi1) e.topic e.payload ht.name ht.level e.client e.clean e.keep e.will e.user e.pass e.present e.code e.codes e.subs (h.v4 hv).1)) hv
 ·rcases e2:numsOf p.props with _|⟨a0,at0⟩
  ·exact Road.of (road_sub5n p.id.toNat p.props p.subs hi hi0 hP e2 hs hsl) (hn.trans (PkV.ext' hk hv e.dup e.retain hq (nat_of hi1) e.topic e.payload ht.name ht.level e.client e.clean e.keep e.will e.user e.pass e.present e.code e.codes e.subs rfl)) hv
  ·exact Road.of (road_sub5s p.id.toNat p.props a0 at0 p.subs hi hi0 hP e2 hs hsl) (hn.trans (PkV.ext' hk hv e.dup e.retain hq (nat_of hi1) e.topic e.payload ht.name ht.level e.client e.clean e.keep e.will e.user e.pass e.present e.code e.codes e.subs rfl)) hv
theorem all_10 {p:PkV} (h:PkOK p) (ht:ToldOK p) (hk:p.kind=10):Road (namedP p) p.version:=by
 have e:=h.same
 have ek:kept p={zeroP p.kind p.version p.props with id:=p.id,subs:=p.subs}:=by unfold kept;simp[hk]
 rw[ek] at e
 have hn:namedP p={p with qos:=1}:=by unfold namedP;simp[hk]
 have hq0:=(h.hdr (by omega)).2.2
 have hq:(1:Int)=1:=rfl
 have hP:=h.props
 rw[hk] at hP
 obtain⟨hid,hsl,hso⟩:=h.k8 (by omega)
 have hi:p.id.toNat<65536:=by omega
 have hi1:0≤p.id:=by omega
 have hi0:0<p.id.toNat:=by omega
 have hs:∀u∈p.subs,TextOK u.filter∧(0≤u.qos∧u.qos≤2)∧0≤u.handling∧u.handling≤2:=fun u hu=>⟨(hso u hu).f.1,(hso u hu).q,(hso u hu).h⟩
 have hs0:∀u∈p.subs,u=⟨u.filter,0,false,false,0⟩:=fun u hu=>by
  have h1:=(hso u hu).four (.inr hk)
  have h2:=(hso u hu).un hk
  cases u;simp at h1 h2;simp[h1,h2]
 rcases h.ver with hv|hv
 ·exact Road.of (road_unsub4 p.id.toNat p.subs hi hi0 hs0 hs hsl) (hn.trans (PkV.ext' hk hv e.dup e.retain hq (nat_of hi1) e.topic e.payload ht.name ht.level e.client e.clean e.keep e.will e.user e.pass e.present e.code e.codes e.subs (h.v4 hv).1)) hv
 ·exact Road.of (road_unsub5 p.id.toNat p.props p.subs hi hi0 hP hs0 hs hsl) (hn.trans (PkV.ext' hk hv e.dup e.retain hq (nat_of hi1) e.topic e.payload ht.name ht.level e.client e.clean e.keep e.will e.user e.pass e.present e.code e.codes e.subs rfl)) hv
theorem all_9 {p:PkV} (h:PkOK p) (ht:ToldOK p) (hk:p.kind=9):Road (namedP p) p.version:=by
 have e:=h.same
 have ek:kept p={zeroP p.kind p.version p.props with id:=p.id,codes:=p.codes}:=by unfold kept;simp[hk]
 rw[ek] at e
 have hn:namedP p=p:=by unfold namedP;simp[hk]
 have hq0:=(h.hdr (by omega)).2.2
 have hq:p.qos=0:=hq0
 have hP:=h.props
 rw[hk] at hP
 obtain⟨hid,hcl,hco,hc4⟩:=h.k9 (by omega)
 have hi:p.id.toNat<65536:=by omega
 have hi1:0≤p.id:=by omega
 rcases h.ver with hv|hv
 ·exact Road.of (road_suback4 p.id.toNat p.codes hi (by omega)) (hn.trans (PkV.ext' hk hv e.dup e.retain hq (nat_of hi1) e.topic e.payload ht.name ht.level e.client e.clean e.keep e.will e.user e.pass e.present e.code e.codes e.subs (h.v4 hv).1)) hv
 ·exact Road.of (road_suback5 p.id.toNat p.props p.codes hi hP (by omega)) (hn.trans (PkV.ext' hk hv e.dup e.retain hq (nat_of hi1) e.topic e.payload ht.name ht.level e.client e.clean e.keep e.will e.user e.pass e.present e.code e.codes e.subs rfl)) hv
theorem all_11 {p:PkV} (h:PkOK p) (ht:ToldOK p) (hk:p.kind=11):Road (namedP p) p.version:=by
 have e:=h.same
 have ek:kept p={zeroP p.kind p.version p.props with id:=p.id,codes:=p.codes}:=by unfold kept;simp[hk]
 rw[ek] at e
 have hn:namedP p=p:=by unfold namedP;simp[hk]
 have hq0:=(h.hdr (by omega)).2.2
 have hq:p.qos=0:=hq0
 have hP:=h.props
 rw[hk] at hP
 obtain⟨hid,hcl,hco,hc4⟩:=h.k9 (by omega)
 have hi:p.id.toNat<65536:=by omega
 have hi1:0≤p.id:=by omega
 rcases h.ver with hv|hv
 ·exact Road.of (road_unsuback4 p.id.toNat hi) (hn.trans (PkV.ext' hk hv e.dup e.retain hq (nat_of hi1) e.topic e.payload ht.name ht.level e.client e.clean e.keep e.will e.user e.pass e.present e.code (hc4 hk hv) e.subs (h.v4 hv).1)) hv
 ·exact Road.of (road_unsuback5 p.id.toNat p.props p.codes hi hP (by omega)) (hn.trans (PkV.ext' hk hv e.dup e.retain hq (nat_of hi1) e.topic e.payload ht.name ht.level e.client e.clean e.keep e.will e.user e.pass e.present e.code e.codes e.subs rfl)) hv
theorem none_12 {l:List PropV} (h:ProperL 12 l):l=[]:=by
 rcases l with _|⟨x,t⟩
 ·rfl
 ·have:=h.al x (by simp)
  simp[alB] at this
theorem all_12 {p:PkV} (h:PkOK p) (ht:ToldOK p) (hk:p.kind=12):Road (namedP p) p.version:=by
 have e:=h.same
 have ek:kept p=zeroP p.kind p.version p.props:=by unfold kept;simp[hk]
 rw[ek] at e
 have hn:namedP p=p:=by unfold namedP;simp[hk]
 have hq0:=(h.hdr (by omega)).2.2
 have hq:p.qos=0:=hq0
 have hP:=h.props
 rw[hk] at hP
 have hpn:=none_12 hP
 rcases h.ver with hv|hv
 ·exact Road.of (road_pingreq4) (hn.trans (PkV.ext' hk hv e.dup e.retain hq e.id e.topic e.payload ht.name ht.level e.client e.clean e.keep e.will e.user e.pass e.present e.code e.codes e.subs (h.v4 hv).1)) hv
 ·exact Road.of (road_pingreq5) (hn.trans (PkV.ext' hk hv e.dup e.retain hq e.id e.topic e.payload ht.name ht.level e.client e.clean e.keep e.will e.user e.pass e.present e.code e.codes e.subs hpn)) hv
theorem none_13 {l:List PropV} (h:ProperL 13 l):l=[]:=by
 rcases l with _|⟨x,t⟩
 ·rfl
 ·have:=h.al x (by simp)
  simp[alB] at this
theorem all_13 {p:PkV} (h:PkOK p) (ht:ToldOK p) (hk:p.kind=13):Road (namedP p) p.version:=by
 have e:=h.same
 have ek:kept p=zeroP p.kind p.version p.props:=by unfold kept;simp[hk]
 rw[ek] at e
 have hn:namedP p=p:=by unfold namedP;simp[hk]
 have hq0:=(h.hdr (by omega)).2.2
 have hq:p.qos=0:=hq0
 have hP:=h.props
 rw[hk] at hP
 have hpn:=none_13 hP
 rcases h.ver with hv|hv
 ·exact Road.of (road_pingresp4) (hn.trans (PkV.ext' hk hv e.dup e.retain hq e.id e.topic e.payload ht.name ht.level e.client e.clean e.keep e.will e.user e.pass e.present e.code e.codes e.subs (h.v4 hv).1)) hv
 ·exact Road.of (road_pingresp5) (hn.trans (PkV.ext' hk hv e.dup e.retain hq e.id e.topic e.payload ht.name ht.level e.client e.clean e.keep e.will e.user e.pass e.present e.code e.codes e.subs hpn)) hv
theorem all_14 {p:PkV} (h:PkOK p) (ht:ToldOK p) (hk:p.kind=14):Road (namedP p) p.version:=by
 have e:=h.same
 have ek:kept p={zeroP p.kind p.version p.props with code:=p.code}:=by unfold kept;simp[hk]
 rw[ek] at e
 have hn:namedP p=p:=by unfold namedP;simp[hk]
 have hq0:=(h.hdr (by omega)).2.2
 have hq:p.qos=0:=hq0
 have hP:=h.props
 rw[hk] at hP
 obtain⟨hc0,hc1,hc4⟩:=h.k14 (by omega)
 rcases h.ver with hv|hv
 ·exact Road.of (road_disc4) (hn.trans (PkV.ext' hk hv e.dup e.retain hq e.id e.topic e.payload ht.name ht.level e.client e.clean e.keep e.will e.user e.pass e.present (hc4 hv) e.codes e.subs (h.v4 hv).1)) hv
 ·exact Road.of (road_disc5 (UInt8.ofNat p.code.toNat) p.props hP) (hn.trans (PkV.ext' hk hv e.dup e.retain hq e.id e.topic e.payload ht.name ht.level e.client e.clean e.keep e.will e.user e.pass e.present (u8_of ⟨hc0,hc1⟩) e.codes e.subs rfl)) hv
theorem all_15 {p:PkV} (h:PkOK p) (ht:ToldOK p) (hk:p.kind=15):Road (namedP p) p.version:=by
 have e:=h.same
 have ek:kept p={zeroP p.kind p.version p.props with code:=p.code}:=by unfold kept;simp[hk]
 rw[ek] at e
 have hn:namedP p=p:=by unfold namedP;simp[hk]
 have hq0:=(h.hdr (by omega)).2.2
 have hq:p.qos=0:=hq0
 have hP:=h.props
 rw[hk] at hP
 obtain⟨hc0,hc1,hc4⟩:=h.k14 (by omega)
 have hv:p.version=5:=by
  rcases h.ver with hv|hv
  ·exact absurd hk (h.v4 hv).2
  ·exact hv
 exact Road.of (road_auth (UInt8.ofNat p.code.toNat) p.props hP) (hn.trans (PkV.ext' hk hv e.dup e.retain hq e.id e.topic e.payload ht.name ht.level e.client e.clean e.keep e.will e.user e.pass e.present (u8_of ⟨hc0,hc1⟩) e.codes e.subs rfl)) hv
theorem road_all {p:PkV} (h:PkOK p) (ht:ToldOK p):Road (namedP p) p.version:=by
 have hk:=h.kind
 obtain hk|hk|hk|hk|hk|hk|hk|hk|hk|hk|hk|hk|hk|hk|hk:p.kind=1∨p.kind=2∨p.kind=3∨p.kind=4∨p.kind=5∨p.kind=6∨p.kind=7∨p.kind=8∨p.kind=9∨p.kind=10∨p.kind=11∨p.kind=12∨p.kind=13∨p.kind=14∨p.kind=15:=by omega
 ·exact all_1 h ht hk
 ·exact all_2 h ht hk
 ·exact all_3 h ht hk
 ·exact all_4 h ht hk
 ·exact all_5 h ht hk
 ·exact all_6 h ht hk
 ·exact all_7 h ht hk
 ·exact all_8 h ht hk
 ·exact all_9 h ht hk
 ·exact all_10 h ht hk
 ·exact all_11 h ht hk
 ·exact all_12 h ht hk
 ·exact all_13 h ht hk
 ·exact all_14 h ht hk
 ·exact all_15 h ht hk
theorem zZ0 {p:Prop} (h:p:=by
 have hrf:=hr.keep hkf (by simp)
 have HB:=hH hb
 have HKF:=hH hkf
 have HRF:=hH hrf
 obtain⟨tg,htg⟩:∃tg,(namedP p).cells v=tg:=⟨_,rfl⟩
 have hts:tg.size=21:=by rw[←htg];rfl
 have h1:tg.all (·.oneCell')=true:=by
  rw[←htg,PkV.cells]
  simp only[List.all_toArray,List.all_cons,List.all_nil,hsl.1,hsl.2.1,hsl.2.2.1,hsl.2.2.2.1,hsl.2.2.2.2.1,hsl.2.2.2.2.2.1,hsl.2.2.2.2.2.2];rfl
 rw[htg] at HB
 rw[htg]
 have hi:(prog.info? 29).map (·.size)=some tg.size:=by rw[hts];kernel_rfl
 have HI:=hH hi
 have H1:=hH h1
 have HTS:=hH hts
 clear hb hkf hrf hp hr hsl htg hts h1 hi hnp hk
 obtain⟨cs0,hcs0⟩:∃cs0,p.cells v=cs0:=⟨_,rfl⟩
 rw[hcs0] at HW
 rw[hcs0]
 clear hcs0
 go_enter func10,ntmps10
 go_upto_region 1 with fail
 rw[HW.o]
 clear HW
 go_wp2_with (first|refine wpList_load_row rfl 29 (.tmp 1) rfl w.heap.size rfl 29 tg (0,0) _ HB.o underlying29 rfl HI.o ?_|refine wpList_store_row rfl 29 (.tmp 2) (.tmp 16) rfl (w.heap.size+1) tg rfl rfl 29 z29 HRF.o HI.o HTS.o.symm H1.o ?_)
 (try simp only[Exit.inBlock,Exit.then])
 refine bodyPost_ret (v:=.agg tg) ?_ rfl ⟨rfl,(HKW.o.trans HKF.o (by simp)).trans (keeps_setRow _ _ _) (by simp)⟩
 exact results_cell_row rfl _ _ (w.heap.size+1) 29 tg (0,0) _ rfl (blk_setRow HRF.o tg) underlying29 rfl HI.o
 ):p:=h
theorem named1_c (N:Nat→Prop) (w:World) (p:PkV) (v:Nat→Value) (hm:PkMem N w p v) (hk:p.kind=1):Calls prog 10 #[.agg (p.cells v)] w fun e w'=>e=.returned (.agg ((namedP p).cells v))∧Keeps [] w w':=by
 obtain⟨W,hW⟩:∃W,(w.alloc (.cells (p.cells v) 29)).alloc (.cells #[.int .i64 0,.int .i64 0,.bool false,.bool false,.int .i64 0,.int .i64 0,.string ⟨#[]⟩,.slice none 0 0,.string ⟨#[]⟩,.int .i64 0,.string ⟨#[]⟩,.bool false,.int .i64 0,.slice none 0 0,.slice none 0 0,.slice none 0 0,.bool false,.int .i64 0,.slice none 0 0,.slice none 0 0,.slice none 0 0] 29)=W:=⟨_,rfl⟩
 have hp:Blk W w.heap.size 29 (p.cells v):=by rw[←hW];exact(Blk.new _ _ _).alloc _
 have hr:Blk W (w.heap.size+1) 29 z29:=by rw[←hW];have h:=Blk.new (w.alloc (.cells (p.cells v) 29)) 29 z29;rwa [World.size_alloc] at h
 have HKW:Hd (Keeps [] w W):=by rw[←hW];exact(Keeps.alloc _ _).trans (Keeps.alloc _ _) (by simp)
 have HW:=hH hW
 have hsl:=hm.sl
 clear hW hm
 have c0:W.cell? ⟨w.heap.size,0,none⟩=some (.int .i64 p.kind):=by rw[hp.cell];rfl
 have c1:W.cell? ⟨w.heap.size,1,none⟩=some (.int .i64 p.version):=by rw[hp.cell];rfl
 have c8:W.cell? ⟨w.heap.size,8,none⟩=some (.string p.name):=by rw[hp.cell];rfl
 have c9:W.cell? ⟨w.heap.size,9,none⟩=some (.int .i64 p.level):=by rw[hp.cell];rfl
 have f8:=hp.frozen 8
 have f9:=hp.frozen 9
 have hb1:(p.kind==1)=true:=by rw[beq_iff_eq];exact hk
 have hnp:namedP p={p with name:=⟨#[77,81,84,84]⟩,level:=p.version}:=by unfold namedP;simp[hk]
 have hb:Blk ((W.setCell ⟨w.heap.size,8,none⟩ (.string ⟨#[77,81,84,84]⟩)).setCell ⟨w.heap.size,9,none⟩ (.int .i64 p.version)) w.heap.size 29 ((namedP p).cells v):=by rw[hnp];exact(hp.set_ 8 (.string ⟨#[77,81,84,84]⟩)).set_ 9 (.int .i64 p.version)
 have hkf:Keeps [w.heap.size] W ((W.setCell ⟨w.heap.size,8,none⟩ (.string ⟨#[77,81,84,84]⟩)).setCell ⟨w.heap.size,9,none⟩ (.int .i64 p.version)):=(Keeps.setCell W ⟨w.heap.size,8,none⟩ (.string ⟨#[77,81,84,84]⟩)).trans (Keeps.setCell _ ⟨w.heap.size,9,none⟩ (.int .i64 p.version)) (by simp)
 exact zZ0
theorem zZ4 {p:Prop} (h:p:=by
 have hnp:namedP p={p with qos:=1}:=by unfold namedP;simp[hk]
 have hb:Blk (W.setCell ⟨w.heap.size,4,none⟩ (.int .i64 1)) w.heap.size 29 ((namedP p).cells v):=by rw[hnp];exact hp.set_ 4 (.int .i64 1)
 have hkf:Keeps [w.heap.size] W (W.setCell ⟨w.heap.size,4,none⟩ (.int .i64 1)):=Keeps.setCell W ⟨w.heap.size,4,none⟩ (.int .i64 1)
 exact zZ0
 ):p:=h
theorem named6_c (N:Nat→Prop) (w:World) (p:PkV) (v:Nat→Value) (hm:PkMem N w p v) (hk:p.kind=6):Calls prog 10 #[.agg (p.cells v)] w fun e w'=>e=.returned (.agg ((namedP p).cells v))∧Keeps [] w w':=by
 obtain⟨W,hW⟩:∃W,(w.alloc (.cells (p.cells v) 29)).alloc (.cells #[.int .i64 0,.int .i64 0,.bool false,.bool false,.int .i64 0,.int .i64 0,.string ⟨#[]⟩,.slice none 0 0,.string ⟨#[]⟩,.int .i64 0,.string ⟨#[]⟩,.bool false,.int .i64 0,.slice none 0 0,.slice none 0 0,.slice none 0 0,.bool false,.int .i64 0,.slice none 0 0,.slice none 0 0,.slice none 0 0] 29)=W:=⟨_,rfl⟩
 have hp:Blk W w.heap.size 29 (p.cells v):=by rw[←hW];exact(Blk.new _ _ _).alloc _
 have hr:Blk W (w.heap.size+1) 29 z29:=by rw[←hW];have h:=Blk.new (w.alloc (.cells (p.cells v) 29)) 29 z29;rwa [World.size_alloc] at h
 have HKW:Hd (Keeps [] w W):=by rw[←hW];exact(Keeps.alloc _ _).trans (Keeps.alloc _ _) (by simp)
 have HW:=hH hW
 have hsl:=hm.sl
 clear hW hm
 have c0:W.cell? ⟨w.heap.size,0,none⟩=some (.int .i64 p.kind):=by rw[hp.cell];rfl
 have c1:W.cell? ⟨w.heap.size,1,none⟩=some (.int .i64 p.version):=by rw[hp.cell];rfl
 have c4:W.cell? ⟨w.heap.size,4,none⟩=some (.int .i64 p.qos):=by rw[hp.cell];rfl
 have f4:=hp.frozen 4
 have hb1:(p.kind==1)=false:=by rw[beq_eq_false_iff_ne];omega
 have hb6:(p.kind==6)=true:=by rw[beq_iff_eq];exact hk
 have hb8:(p.kind==8)=false:=by rw[beq_eq_false_iff_ne];omega
 have hb10:(p.kind==10)=false:=by rw[beq_eq_false_iff_ne];omega
 exact zZ4
theorem named8_c (N:Nat→Prop) (w:World) (p:PkV) (v:Nat→Value) (hm:PkMem N w p v) (hk:p.kind=8):Calls prog 10 #[.agg (p.cells v)] w fun e w'=>e=.returned (.agg ((namedP p).cells v))∧Keeps [] w w':=by
 obtain⟨W,hW⟩:∃W,(w.alloc (.cells (p.cells v) 29)).alloc (.cells #[.int .i64 0,.int .i64 0,.bool false,.bool false,.int .i64 0,.int .i64 0,.string ⟨#[]⟩,.slice none 0 0,.string ⟨#[]⟩,.int .i64 0,.string ⟨#[]⟩,.bool false,.int .i64 0,.slice none 0 0,.slice none 0 0,.slice none 0 0,.bool false,.int .i64 0,.slice none 0 0,.slice none 0 0,.slice none 0 0] 29)=W:=⟨_,rfl⟩
 have hp:Blk W w.heap.size 29 (p.cells v):=by rw[←hW];exact(Blk.new _ _ _).alloc _
 have hr:Blk W (w.heap.size+1) 29 z29:=by rw[←hW];have h:=Blk.new (w.alloc (.cells (p.cells v) 29)) 29 z29;rwa [World.size_alloc] at h
 have HKW:Hd (Keeps [] w W):=by rw[←hW];exact(Keeps.alloc _ _).trans (Keeps.alloc _ _) (by simp)
 have HW:=hH hW
 have hsl:=hm.sl
 clear hW hm
 have c0:W.cell? ⟨w.heap.size,0,none⟩=some (.int .i64 p.kind):=by rw[hp.cell];rfl
 have c1:W.cell? ⟨w.heap.size,1,none⟩=some (.int .i64 p.version):=by rw[hp.cell];rfl
 have c4:W.cell? ⟨w.heap.size,4,none⟩=some (.int .i64 p.qos):=by rw[hp.cell];rfl
 have f4:=hp.frozen 4
 have hb1:(p.kind==1)=false:=by rw[beq_eq_false_iff_ne];omega
 have hb6:(p.kind==6)=false:=by rw[beq_eq_false_iff_ne];omega
 have hb8:(p.kind==8)=true:=by rw[beq_iff_eq];exact hk
 have hb10:(p.kind==10)=false:=by rw[beq_eq_false_iff_ne];omega
 exact zZ4
theorem named10_c (N:Nat→Prop) (w:World) (p:PkV) (v:Nat→Value) (hm:PkMem N w p v) (hk:p.kind=10):Calls prog 10 #[.agg (p.cells v)] w fun e w'=>e=.returned (.agg ((namedP p).cells v))∧Keeps [] w w':=by
 obtain⟨W,hW⟩:∃W,(w.alloc (.cells (p.cells v) 29)).alloc (.cells #[.int .i64 0,.int .i64 0,.bool false,.bool false,.int .i64 0,.int .i64 0,.string ⟨#[]⟩,.slice none 0 0,.string ⟨#[]⟩,.int .i64 0,.string ⟨#[]⟩,.bool false,.int .i64 0,.slice none 0 0,.slice none 0 0,.slice none 0 0,.bool false,.int .i64 0,.slice none 0 0,.slice none 0 0,.slice none 0 0] 29)=W:=⟨_,rfl⟩
 have hp:Blk W w.heap.size 29 (p.cells v):=by rw[←hW];exact(Blk.new _ _ _).alloc _
 have hr:Blk W (w.heap.size+1) 29 z29:=by rw[←hW];have h:=Blk.new (w.alloc (.cells (p.cells v) 29)) 29 z29;rwa [World.size_alloc] at h
 have HKW:Hd (Keeps [] w W):=by rw[←hW];exact(Keeps.alloc _ _).trans (Keeps.alloc _ _) (by simp)
 have HW:=hH hW
 have hsl:=hm.sl
 clear hW hm
 have c0:W.cell? ⟨w.heap.size,0,none⟩=some (.int .i64 p.kind):=by rw[hp.cell];rfl
 have c1:W.cell? ⟨w.heap.size,1,none⟩=some (.int .i64 p.version):=by rw[hp.cell];rfl
 have c4:W.cell? ⟨w.heap.size,4,none⟩=some (.int .i64 p.qos):=by rw[hp.cell];rfl
 have f4:=hp.frozen 4
 have hb1:(p.kind==1)=false:=by rw[beq_eq_false_iff_ne];omega
 have hb6:(p.kind==6)=false:=by rw[beq_eq_false_iff_ne];omega
 have hb8:(p.kind==8)=false:=by rw[beq_eq_false_iff_ne];omega
 have hb10:(p.kind==10)=true:=by rw[beq_iff_eq];exact hk
 exact zZ4
theorem named0_c (N:Nat→Prop) (w:World) (p:PkV) (v:Nat→Value) (hm:PkMem N w p v) (hk:¬p.kind=1∧¬p.kind=6∧¬p.kind=8∧¬p.kind=10):Calls prog 10 #[.agg (p.cells v)] w fun e w'=>e=.returned (.agg ((namedP p).cells v))∧Keeps [] w w':=by
 obtain⟨W,hW⟩:∃W,(w.alloc (.cells (p.cells v) 29)).alloc (.cells #[.int .i64 0,.int .i64 0,.bool false,.bool false,.int .i64 0,.int .i64 0,.string ⟨#[]⟩,.slice none 0 0,.string ⟨#[]⟩,.int .i64 0,.string ⟨#[]⟩,.bool false,.int .i64 0,.slice none 0 0,.slice none 0 0,.slice none 0 0,.bool false,.int .i64 0,.slice none 0 0,.slice none 0 0,.slice none 0 0] 29)=W:=⟨_,rfl⟩
 have hp:Blk W w.heap.size 29 (p.cells v):=by rw[←hW];exact(Blk.new _ _ _).alloc _
 have hr:Blk W (w.heap.size+1) 29 z29:=by rw[←hW];have h:=Blk.new (w.alloc (.cells (p.cells v) 29)) 29 z29;rwa [World.size_alloc] at h
 have HKW:Hd (Keeps [] w W):=by rw[←hW];exact(Keeps.alloc _ _).trans (Keeps.alloc _ _) (by simp)
 have HW:=hH hW
 have hsl:=hm.sl
 clear hW hm
 have c0:W.cell? ⟨w.heap.size,0,none⟩=some (.int .i64 p.kind):=by rw[hp.cell];rfl
 have c1:W.cell? ⟨w.heap.size,1,none⟩=some (.int .i64 p.version):=by rw[hp.cell];rfl
 have hb1:(p.kind==1)=false:=by rw[beq_eq_false_iff_ne];omega
 have hb6:(p.kind==6)=false:=by rw[beq_eq_false_iff_ne];omega
 have hb8:(p.kind==8)=false:=by rw[beq_eq_false_iff_ne];omega
 have hb10:(p.kind==10)=false:=by rw[beq_eq_false_iff_ne];omega
 have hnp:namedP p=p:=by unfold namedP;rw[if_neg hk.1,if_neg (by omega)]
 have hb:Blk (W) w.heap.size 29 ((namedP p).cells v):=by rw[hnp];exact hp
 have hkf:Keeps [w.heap.size] W (W):=(Keeps.refl [w.heap.size] W)
 exact zZ0
theorem named_c (N:Nat→Prop) (w:World) (p:PkV) (v:Nat→Value) (hm:PkMem N w p v):Calls prog 10 #[.agg (p.cells v)] w fun e w'=>e=.returned (.agg ((namedP p).cells v))∧Keeps [] w w':=by
 by_cases h1:p.kind=1
 ·exact named1_c N w p v hm h1
 by_cases h6:p.kind=6
 ·exact named6_c N w p v hm h6
 by_cases h8:p.kind=8
 ·exact named8_c N w p v hm h8
 by_cases h10:p.kind=10
 ·exact named10_c N w p v hm h10
 exact named0_c N w p v hm ⟨h1,h6,h8,h10⟩
structure PkFact (p:PkV):Prop where
 code:0≤p.code∧p.code≤255
 id:0≤p.id∧p.id≤65535
 keep:0≤p.keep∧p.keep≤65535
 qos:0≤p.qos∧p.qos≤2
 payl:p.payload.length≤100000
 codes:(∀x∈p.codes,0≤x∧x≤255)∧p.codes.length≤1000
 wills:p.will.length≤1∧∀u∈p.will,(0≤u.qos∧u.qos≤255)∧u.payload.length≤100000∧∃k,ProperL k u.props
 users:p.user.length≤1∧∀u∈p.user,u.length≤100000
 passes:p.pass.length≤1∧∀u∈p.pass,u.length≤100000
 subs:p.subs.length≤1000∧∀s∈p.subs,(0≤s.qos∧s.qos≤255)∧0≤s.handling∧s.handling≤255
theorem fact_1 {p:PkV} (h:PkOK p) (hk:p.kind=1):PkFact p:=by
 have e:=h.same
 have ek:kept p={zeroP p.kind p.version p.props with client:=p.client,clean:=p.clean,keep:=p.keep,will:=p.will,user:=p.user,pass:=p.pass}:=by unfold kept;simp[hk]
 rw[ek] at e
 have hc:=h.k1 hk
 exact⟨(by have c:p.code=0:=e.code;omega),(by have c:p.id=0:=e.id;omega),hc.keep,(by have:=(h.hdr (by omega)).2.2;omega),(by have c:p.payload=[]:=e.payload;rw[c];simp),(by have c:p.codes=[]:=e.codes;rw[c];simp),⟨hc.will,fun u hu=>by have w:=hc.wills u hu;have:=w.qos;have:=w.payload;exact⟨by omega,by omega,16,w.props⟩⟩,⟨hc.user,fun u hu=>by have:=hc.users u hu;omega⟩,⟨hc.pass,fun u hu=>by have:=hc.passes u hu;omega⟩,(by have c:p.subs=[]:=e.subs;rw[c];simp)⟩
theorem fact_2 {p:PkV} (h:PkOK p) (hk:p.kind=2):PkFact p:=by
 have e:=h.same
 have ek:kept p={zeroP p.kind p.version p.props with present:=p.present,code:=p.code}:=by unfold kept;simp[hk]
 rw[ek] at e
 exact⟨(h.k2 hk),(by have c:p.id=0:=e.id;omega),(by have c:p.keep=0:=e.keep;omega),(by have:=(h.hdr (by omega)).2.2;omega),(by have c:p.payload=[]:=e.payload;rw[c];simp),(by have c:p.codes=[]:=e.codes;rw[c];simp),(by have c:p.will=[]:=e.will;rw[c];simp),(by have c:p.user=[]:=e.user;rw[c];simp),(by have c:p.pass=[]:=e.pass;rw[c];simp),(by have c:p.subs=[]:=e.subs;rw[c];simp)⟩
theorem fact_3 {p:PkV} (h:PkOK p) (hk:p.kind=3):PkFact p:=by
 have e:=h.same
 have ek:kept p={zeroP p.kind p.version p.props with dup:=p.dup,retain:=p.retain,qos:=p.qos,id:=p.id,topic:=p.topic,payload:=p.payload}:=by unfold kept;simp[hk]
 rw[ek] at e
 obtain⟨htp,hq0,hq2,hid,hid0,hpl⟩:=h.k3 hk
 exact⟨(by have c:p.code=0:=e.code;omega),(by
  by_cases hq:p.qos=0
  ·have:=(hid0 hq).1;omega
  ·have:=hid (by omega);omega),(by have c:p.keep=0:=e.keep;omega),⟨hq0,hq2⟩,(by omega),(by have c:p.codes=[]:=e.codes;rw[c];simp),(by have c:p.will=[]:=e.will;rw[c];simp),(by have c:p.user=[]:=e.user;rw[c];simp),(by have c:p.pass=[]:=e.pass;rw[c];simp),(by have c:p.subs=[]:=e.subs;rw[c];simp)⟩
theorem zZ1 {p:Prop} (h:p:=by
 have e:=h.same
 have ek:kept p={zeroP p.kind p.version p.props with id:=p.id,code:=p.code}:=by unfold kept;simp[hk]
 rw[ek] at e
 obtain⟨hid,hc0,hc1,hc4⟩:=h.k4 (by omega)
 exact⟨⟨hc0,hc1⟩,(by omega),(by have c:p.keep=0:=e.keep;omega),(by have:=(h.hdr (by omega)).2.2;omega),(by have c:p.payload=[]:=e.payload;rw[c];simp),(by have c:p.codes=[]:=e.codes;rw[c];simp),(by have c:p.will=[]:=e.will;rw[c];simp),(by have c:p.user=[]:=e.user;rw[c];simp),(by have c:p.pass=[]:=e.pass;rw[c];simp),(by have c:p.subs=[]:=e.subs;rw[c];simp)⟩
 ):p:=h
theorem fact_4 {p:PkV} (h:PkOK p) (hk:p.kind=4):PkFact p:=by
 exact zZ1
theorem fact_5 {p:PkV} (h:PkOK p) (hk:p.kind=5):PkFact p:=by
 exact zZ1
theorem fact_6 {p:PkV} (h:PkOK p) (hk:p.kind=6):PkFact p:=by
 exact zZ1
theorem fact_7 {p:PkV} (h:PkOK p) (hk:p.kind=7):PkFact p:=by
 exact zZ1
theorem zZ5 {p:Prop} (h:p:=by
 have e:=h.same
 have ek:kept p={zeroP p.kind p.version p.props with id:=p.id,subs:=p.subs}:=by unfold kept;simp[hk]
 rw[ek] at e
 obtain⟨hid,hsl,hso⟩:=h.k8 (by omega)
 exact⟨(by have c:p.code=0:=e.code;omega),(by omega),(by have c:p.keep=0:=e.keep;omega),(by have:=(h.hdr (by omega)).2.2;omega),(by have c:p.payload=[]:=e.payload;rw[c];simp),(by have c:p.codes=[]:=e.codes;rw[c];simp),(by have c:p.will=[]:=e.will;rw[c];simp),(by have c:p.user=[]:=e.user;rw[c];simp),(by have c:p.pass=[]:=e.pass;rw[c];simp),⟨by omega,fun u hu=>by have:=(hso u hu).q;have:=(hso u hu).h;omega⟩⟩
 ):p:=h
theorem fact_8 {p:PkV} (h:PkOK p) (hk:p.kind=8):PkFact p:=by
 exact zZ5
theorem zZ7 {p:Prop} (h:p:=by
 have e:=h.same
 have ek:kept p={zeroP p.kind p.version p.props with id:=p.id,codes:=p.codes}:=by unfold kept;simp[hk]
 rw[ek] at e
 obtain⟨hid,hcl,hco,hc4⟩:=h.k9 (by omega)
 exact⟨(by have c:p.code=0:=e.code;omega),(by omega),(by have c:p.keep=0:=e.keep;omega),(by have:=(h.hdr (by omega)).2.2;omega),(by have c:p.payload=[]:=e.payload;rw[c];simp),⟨hco,by omega⟩,(by have c:p.will=[]:=e.will;rw[c];simp),(by have c:p.user=[]:=e.user;rw[c];simp),(by have c:p.pass=[]:=e.pass;rw[c];simp),(by have c:p.subs=[]:=e.subs;rw[c];simp)⟩
 ):p:=h
theorem fact_9 {p:PkV} (h:PkOK p) (hk:p.kind=9):PkFact p:=by
 exact zZ7
theorem fact_10 {p:PkV} (h:PkOK p) (hk:p.kind=10):PkFact p:=by
 exact zZ5
theorem fact_11 {p:PkV} (h:PkOK p) (hk:p.kind=11):PkFact p:=by
 exact zZ7
theorem zZ8 {p:Prop} (h:p:=by
 have e:=h.same
 have ek:kept p=zeroP p.kind p.version p.props:=by unfold kept;simp[hk]
 rw[ek] at e
 exact⟨(by have c:p.code=0:=e.code;omega),(by have c:p.id=0:=e.id;omega),(by have c:p.keep=0:=e.keep;omega),(by have:=(h.hdr (by omega)).2.2;omega),(by have c:p.payload=[]:=e.payload;rw[c];simp),(by have c:p.codes=[]:=e.codes;rw[c];simp),(by have c:p.will=[]:=e.will;rw[c];simp),(by have c:p.user=[]:=e.user;rw[c];simp),(by have c:p.pass=[]:=e.pass;rw[c];simp),(by have c:p.subs=[]:=e.subs;rw[c];simp)⟩
 ):p:=h
theorem fact_12 {p:PkV} (h:PkOK p) (hk:p.kind=12):PkFact p:=by
 exact zZ8
theorem fact_13 {p:PkV} (h:PkOK p) (hk:p.kind=13):PkFact p:=by
 exact zZ8
theorem zZ6 {p:Prop} (h:p:=by
 have e:=h.same
 have ek:kept p={zeroP p.kind p.version p.props with code:=p.code}:=by unfold kept;simp[hk]
 rw[ek] at e
 obtain⟨hc0,hc1,hc4⟩:=h.k14 (by omega)
 exact⟨⟨hc0,hc1⟩,(by have c:p.id=0:=e.id;omega),(by have c:p.keep=0:=e.keep;omega),(by have:=(h.hdr (by omega)).2.2;omega),(by have c:p.payload=[]:=e.payload;rw[c];simp),(by have c:p.codes=[]:=e.codes;rw[c];simp),(by have c:p.will=[]:=e.will;rw[c];simp),(by have c:p.user=[]:=e.user;rw[c];simp),(by have c:p.pass=[]:=e.pass;rw[c];simp),(by have c:p.subs=[]:=e.subs;rw[c];simp)⟩
 ):p:=h
theorem fact_14 {p:PkV} (h:PkOK p) (hk:p.kind=14):PkFact p:=by
 exact zZ6
theorem fact_15 {p:PkV} (h:PkOK p) (hk:p.kind=15):PkFact p:=by
 exact zZ6
theorem pk_fact {p:PkV} (h:PkOK p):PkFact p:=by
 have hk:=h.kind
 obtain hk|hk|hk|hk|hk|hk|hk|hk|hk|hk|hk|hk|hk|hk|hk:p.kind=1∨p.kind=2∨p.kind=3∨p.kind=4∨p.kind=5∨p.kind=6∨p.kind=7∨p.kind=8∨p.kind=9∨p.kind=10∨p.kind=11∨p.kind=12∨p.kind=13∨p.kind=14∨p.kind=15:=by omega
 ·exact fact_1 h hk
 ·exact fact_2 h hk
 ·exact fact_3 h hk
 ·exact fact_4 h hk
 ·exact fact_5 h hk
 ·exact fact_6 h hk
 ·exact fact_7 h hk
 ·exact fact_8 h hk
 ·exact fact_9 h hk
 ·exact fact_10 h hk
 ·exact fact_11 h hk
 ·exact fact_12 h hk
 ·exact fact_13 h hk
 ·exact fact_14 h hk
 ·exact fact_15 h hk
theorem named_cases (p:PkV):(p.kind=1∧namedP p={p with name:=⟨#[77,81,84,84]⟩,level:=p.version})∨(p.kind≠1∧p.kind≠3∧namedP p={p with qos:=1})∨(p.kind≠1∧namedP p=p):=by
 unfold namedP
 by_cases h1:p.kind=1
 ·exact .inl ⟨h1,if_pos h1⟩
 ·rw[if_neg h1]
  by_cases h2:p.kind=6∨p.kind=8∨p.kind=10
  ·exact .inr (.inl ⟨h1,by omega,if_pos h2⟩)
  ·exact .inr (.inr ⟨h1,if_neg h2⟩)
theorem nums_named {p:PkV} (h:PkOK p) (ht:ToldOK p):PkNums (namedP p):=by
 have f:=pk_fact h
 have hv:0≤p.version∧p.version≤255:=by have:=h.ver;omega
 have hk:0≤p.kind∧p.kind≤255:=by have:=h.kind;omega
 have hq:0≤p.qos∧p.qos≤255:=by have:=f.qos;omega
 have hl:0≤p.level∧p.level≤255:=by have:=ht.level;omega
 rcases named_cases p with⟨h1,e⟩|⟨h1,_,e⟩|⟨h1,e⟩<;>rw[e]
 ·exact⟨hk,hv,hq,hv,f.code,f.id,f.keep,fun _=>rfl,f.codes,f.payl,f.wills,f.users,f.passes,f.subs,_,h.props⟩
 ·exact⟨hk,hv,(show(0:Int)≤1∧(1:Int)≤255 by decide),hl,f.code,f.id,f.keep,fun h=>absurd h h1,f.codes,f.payl,f.wills,f.users,f.passes,f.subs,_,h.props⟩
 ·exact⟨hk,hv,hq,hl,f.code,f.id,f.keep,fun h=>absurd h h1,f.codes,f.payl,f.wills,f.users,f.passes,f.subs,_,h.props⟩
theorem pl_named {p:PkV} (h:PkOK p) (ht:ToldOK p):PkPl (namedP p):=by
 have n:=nums_named h ht
 have hl:(namedP p).level=if (namedP p).kind=1 then(namedP p).version else 0:=by
  rcases named_cases p with⟨h1,e⟩|⟨h1,_,e⟩|⟨h1,e⟩<;>rw[e]
  ·exact(if_pos h1).symm
  ·rw[if_neg h1];exact ht.level
  ·rw[if_neg h1];exact ht.level
 exact⟨n.kind,n.version,n.qos,n.code,n.id,n.keep,hl,n.payl,n.props,n.wills.2,n.users.2,n.passes.2,⟨n.codes.2,n.codes.1⟩,n.subs⟩
theorem zZ18 {p:Prop} (h:p:=by
 exact⟨⟨rfl,rfl,rfl,rfl,fun _=>rfl,rfl,rfl,rfl,rfl,rfl,rfl,rfl,rfl⟩,rfl,rfl,rfl,rfl,rfl,rfl⟩
 ):p:=h
theorem same_named (p:PkV):SameP (namedP p) p:=by
 rcases named_cases p with⟨h1,e⟩|⟨h1,h3,e⟩|⟨h1,e⟩<;>rw[e]
 ·exact zZ18
 ·exact⟨⟨rfl,rfl,rfl,rfl,fun h=>absurd h h3,rfl,rfl,rfl,rfl,rfl,rfl,rfl,rfl⟩,rfl,rfl,rfl,rfl,rfl,rfl⟩
 ·exact zZ18
theorem fits_named {p:PkV} (h:Fits p):Fits (namedP p):=by
 rcases named_cases p with⟨h1,e⟩|⟨h1,h3,e⟩|⟨h1,e⟩<;>rw[e]
 ·exact {h with name:=(show(4:Nat)≤2147483647 by decide)}
 ·exact {h with}
 ·exact h
theorem zZ17 {p:Prop} (h:p:=by
 rcases named_cases p with⟨h1,e⟩|⟨h1,h3,e⟩|⟨h1,e⟩<;>rw[e]
 ·exact {h with}
 ·exact {h with}
 ·exact h
 ):p:=h
theorem lens_named {p:PkV} (h:Lens p):Lens (namedP p):=by
 exact zZ17
theorem mem_named {N:Nat→Prop} {w:World} {p:PkV} {v:Nat→Value} (h:PkMem N w p v):PkMem N w (namedP p) v:=by
 exact zZ17
end Go.Proofs.YtkglmacaecmhdaaGreatDoor
