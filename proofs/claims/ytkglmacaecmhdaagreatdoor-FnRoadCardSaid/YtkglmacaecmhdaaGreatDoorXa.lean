/- FnRoad, part Xa: the walks of E7, E8. -/
import Derived.Test.YtkglmacaecmhdaaGreatDoorX
set_option linter.unusedVariables false
set_option linter.unusedSimpArgs false
set_option maxHeartbeats 8000000
set_option maxRecDepth 100000
namespace Go.Proofs.YtkglmacaecmhdaaGreatDoor
open Go Go.RowKit Tryz
def BodyRd (w:World) (g:Nat) (t q:Int) (dup ret:Bool) (ver:Int) (body:List UInt8) (p:PkV):Prop:=
 ∀(w':World) (Ab:Option Addr) (cb:Nat),w.heap.size<w'.heap.size→Lib.Utf8Tabs 28 29 w'→Blk w' g 86 (arr (dz t q dup ret ver body.length))→Rd w' 1 Ab body.length (bvs body)→body.length≤cb→(∀a,Ab=some a→a.block<w'.heap.size∧w.heap.size≤a.block)→
  ∃xb,w.heap.size≤xb∧xb<w'.heap.size∧Calls prog 33 #[.pointer (some ⟨g,0,none⟩),.slice Ab body.length cb] w' (ZRd w' g xb p)
def D1Out (w:World) (g pr:Nat) (p:PkV) (w':World):Prop:=∃B xb f,w.heap.size≤B∧w.heap.size≤xb∧xb<w'.heap.size∧Blk w' g 86 (arr f)∧PkGot B xb w' p f∧Blk w' pr 3 #[.int .i64 0]∧Keeps [g,pr] w w'
theorem dz_of {t q:Int} {dup ret:Bool} {ver:Int} {m:Nat} {cs:Array Value} (hz:cs.size=108) (hf:∀j,j<93∨96<j→cs[j]?=(arr (upd z86 103 (.int .u8 ver)))[j]?) (h93:cs[93]?=some (.int .u8 t)) (h94:cs[94]?=some (.int .u8 q)) (h95:cs[95]?=some (.bool dup)) (h96:cs[96]?=some (.bool ret)):
 cs.setIfInBounds 92 (.int .i64 (m:Int))=arr (dz t q dup ret ver m):=by
 refine arr_ext (by simpa using hz) (fun j hj=>?_)
 rw[Array.getElem?_setIfInBounds]
 unfold dz
 by_cases e:92=j
 ·subst e;rw[if_pos rfl,if_pos (by omega)];rfl
 ·rw[if_neg e]
  simp only[upd]
  rw[if_neg (Ne.symm e)]
  by_cases e6:j=96
  ·subst e6;exact h96
  rw[if_neg e6]
  by_cases e5:j=95
  ·subst e5;exact h95
  rw[if_neg e5]
  by_cases e4:j=94
  ·subst e4;exact h94
  rw[if_neg e4]
  by_cases e3:j=93
  ·subst e3;exact h93
  rw[if_neg e3,hf j (by omega),arr_get _ _ hj]
  rfl
theorem zXa0 {p:Prop} (h:p:=by
 have CL2:=hH hcl2
 clear hcl2
 repeat((first|refine tkx ?_|refine tku ?_);simp only[setN,Act.put,s1,s2,s3])
 refine tkc fun K hK=>?_
 go_simp
 refine(CL2.o).mono ?_
 rintro e w5 ⟨A5,c5,rfl,hr5,hk5,hc5,hb5⟩
 have hkd:=(Keeps.drew w4).trans hk5 (by simp)
 clear hHeld
 refine hK.out _ _ ⟨hkd.some_ v0 (by simp),hkd.some_ v1 (by simp)⟩ (fun hHeld=>?_)
 clear hK K
 simp only[setN,Act.put,s1,s2,s3]
 repeat((first|refine tkx ?_|refine tku ?_);simp only[setN,Act.put,s1,s2,s3])
 have hb5g:=HB4.o.keep hkd (by simp)
 rw[←HM.o] at hb5g
 have hkw5:=HK4.o.trans hkd (by simp)
 obtain⟨xb,hxb0,hxb,hz33⟩:=HZ.o w5 A5 c5 (Nat.lt_of_lt_of_le HLT.o hkd.size) (tabs_keep HT.o hkw5 (by simp;omega) (by simp;omega)) hb5g hr5 hc5 (fun a ha=>⟨(hb5 a ha).2,Nat.le_trans HK4.o.size (hb5 a ha).1⟩)
 refine tkc fun K hK=>?_
 go_simp
 refine hz33.mono ?_
 rintro e w6 ⟨rfl,f,hbf,hgot,hk6⟩
 have hkz:=hkd.mono (S':=[g]) (by simp)
 have hkz:=hkz.trans hk6 (by simp)
 clear hHeld
 refine hK.out _ _ ⟨hkz.some_ v0 (by simpa using hxg),hkz.some_ v1 (by simpa using hxd)⟩ (fun hHeld=>?_)
 clear hK K
 simp only[setN,Act.put,s1,s2,s3]
 repeat((first|refine tkx ?_|refine tku ?_);simp only[setN,Act.put,s1,s2,s3])
 refine tkDone (by kernel_rfl) ?_
 have HFIN:Hd (D1Out w g pr p w6):=⟨_,xb,f,hkw5.size,hxb0,Nat.lt_of_lt_of_le hxb hk6.size,hbf,hgot,HPR4.o.keep hkz (by simpa using Ne.symm hgr),HK4.o.trans hkz (by simp)⟩
 clear hbf hgot hk6 hkz hkd hkw5 hb5g hr5 hc5 hb5 hk5 hHeld v0 v1
 go_wp2_with fail
 go_ret
 exact⟨rfl,HFIN.o⟩
 ):p:=h
theorem dec1_c (w:World) (px pd pr g db ob c n t q:Nat) (dup ret:Bool) (ver:Int) (body:List UInt8) (p:PkV) (hv:HdOK t q dup ret)
 (hpx:Blk w px 62 #[.pointer (some ⟨g,0,none⟩)]) (hpd:Blk w pd 22 #[.slice (some ⟨db,ob,none⟩) n c]) (hpr:Blk w pr 3 #[.int .i64 0]) (hg:Blk w g 86 (arr (upd z86 103 (.int .u8 ver))))
 (hr:RB w db ob (hdrB t q dup ret::(vlen body.length++body))) (hn:1+((vlen body.length).length+body.length)=n) (hc:n≤c) (hdb:db<w.heap.size) (hdg:db≠g) (hdr:db≠pr) (hgr:g≠pr) (hbl:body.length≤100000000) (hT:Lib.Utf8Tabs 28 29 w) (hg29:29<g) (hp29:29<pr) (hZ:BodyRd w g t q dup ret ver body p):
 Calls prog 30 #[.pointer (some ⟨px,0,none⟩),.pointer (some ⟨pd,0,none⟩),.pointer (some ⟨pr,0,none⟩)] w fun e w'=>e=.returned (.bool true)∧D1Out w g pr p w':=by
 have hxg:px≠g:=hpx.ne_ hg (by decide)
 have hxd:pd≠g:=hpd.ne_ hg (by decide)
 have hxr:px≠pr:=hpx.ne_ hpr (by decide)
 have hdr2:pd≠pr:=hpd.ne_ hpr (by decide)
 have hgl:=hg.lt
 have hprl:=hpr.lt
 have hvp:=vlen_pos body.length
 have hvl:=vlen_le body.length (by omega)
 have hc93:∀(j:Nat) (v:Value),j<108→upd z86 103 (.int .u8 ver) j=v→w.cell? ⟨g,j,none⟩=some v:=fun j v hj h=>by rw[hg.cell,arr_get _ _ hj,h]
 have hD:=hH (fun (w':World) (k:Keeps [] w w')=>hdrDec_c w' g (arr (upd z86 103 (.int .u8 ver))) t q dup ret hv (hg.keep k (by simp)) (arr_size _) (k.some_ (hc93 93 _ (by omega) rfl) (by simp)) (k.some_ (hc93 94 _ (by omega) rfl) (by simp)) (k.some_ (hc93 95 _ (by omega) rfl) (by simp)) (k.some_ (hc93 96 _ (by omega) rfl) (by simp)))
 have x0:w.cell? ⟨px,0,none⟩=some (.pointer (some ⟨g,0,none⟩)):=by rw[hpx.cell];rfl
 have x1:w.cell? ⟨pd,0,none⟩=some (.slice (some ⟨db,ob,none⟩) n c):=by rw[hpd.cell];rfl
 have xb0:w.cell? ⟨db,ob,none⟩=some (.int .u8 ((hdrB t q dup ret).toNat:Int)):=hr.at0 _ rfl
 have HPX:=hH hpx
 have HPD:=hH hpd
 have HPR:=hH hpr
 have HG:=hH hg
 have HR:=hH hr
 have HZ:=hH hZ
 have HT:=hH hT
 have HN:=hH hn
 clear hpx hpd hpr hg hr hZ hT hv hc93 hn
 obtain⟨fb,hfb⟩:∃fb:UInt8,hdrB t q dup ret=fb:=⟨_,rfl⟩
 rw[hfb] at hD xb0 HR
 clear hfb
 have hn2:2≤n:=by have:=HN.o;omega
 have h0n:0<n:=by omega
 have hc1:¬c=1:=by omega
 have hnn:n≤100000010:=by have:=HN.o;omega
 go_enter func30,ntmps30
 go_wp2_with fail
 refine tkStart (S:=(fun w'=>w'.cell? ⟨px,0,none⟩=some (.pointer (some ⟨g,0,none⟩))∧w'.cell? ⟨pd,0,none⟩=some (.slice (some ⟨db,ob,none⟩) n c)∧w'.cell? ⟨db,ob,none⟩=some (.int .u8 (fb.toNat:Int)))) (by kernel_rfl) (⟨x0,x1,xb0⟩) (fun hHeld=>?_)
 simp only[s4,s5,Nat.reduceAdd,s6,s7]
 repeat((first|refine tkx ?_|refine tku ?_);simp only[setN,Act.put,s1,s2,s3])
 refine tkc fun K hK=>?_
 go_simp
 refine(hD.o _ (Keeps.drew w)).mono ?_
 rintro e w1 ⟨rfl,cs1,hb1,hz1,hf1,h93,h94,h95,h96,hk1⟩
 have hk1:=((Keeps.drew w).mono (S':=[g]) (by simp)).trans hk1 (by simp)
 have y0:=hk1.some_ x0 (by simpa using hxg)
 have y1:=hk1.some_ x1 (by simpa using hxd)
 have yb:=hk1.some_ xb0 (by simpa using hdg)
 refine hK.out _ _ ⟨y0,y1,yb⟩ (fun hHeld=>?_)
 clear hK K
 simp only[setN,Act.put,s1,s2,s3]
 repeat((first|refine tkx ?_|refine tku ?_);simp only[setN,Act.put,s1,s2,s3])
 refine tkDone (by kernel_rfl) ?_
 have HB1:=hH hb1
 have HK1:=hH hk1
 have HDZ:=hH (dz_of (m:=body.length) hz1 hf1 h93 h94 h95 h96)
 clear hHeld hb1 hz1 hf1 h93 h94 h95 h96 x0 x1 xb0 yb hk1 hD
 have hl1:(vlen body.length++body).length=n-1:=by have:=HN.o;simp;omega
 have hr1:=(HR.o.drop 1).keep HK1.o (by simpa using hdg)
 have hr1:RB w1 db (ob+1) (vlen body.length++body):=hr1
 obtain⟨ys,hys⟩:∃ys,vlen body.length++body=ys:=⟨_,rfl⟩
 rw[hys] at hr1 hl1
 have hcl:=clone2_c w1 (some ⟨db,ob+1,none⟩) (c-1) ys (rb_rd hr1) (by omega)
 rw[hl1] at hcl
 have CL:=hH hcl
 have HYS:=hH hys
 clear hcl hr1 hys
 go_wp2_with fail
 go_fit (CL.o)
 rintro e w2 ⟨A1,c1,rfl,hr2,hk2,hc2,hb2⟩
 obtain⟨b1,o1,rfl,hr2c⟩:=hr2.2 (by omega)
 have hzd:=zzDecodeLength_c w2 b1 o1 c1 body.length body (by omega) (by rw[HYS.o];exact rd_rb hr2) (by rw[HYS.o];exact hc2) (hb2 _ rfl).2 (by omega)
 rw[HYS.o,hl1] at hzd
 have ZD:=hH hzd
 have HK2:=hH hk2
 have HLT2:Hd (w.heap.size<w2.heap.size):=by have h1:=hb2 _ rfl;have:=HK1.o.size;show _<_;omega
 clear hzd hr2 hr2c hk2 hb2
 obtain⟨sz,hsz⟩:∃sz,(vlen body.length).length=sz:=⟨_,rfl⟩
 rw[hsz] at ZD hvp hvl
 have HSZ:=hH hsz
 clear hsz
 obtain⟨m,hm⟩:∃m,body.length=m:=⟨_,rfl⟩
 have HM:=hH hm
 rw[hm] at ZD hbl
 clear hm
 have hnq:1+(sz+m)=n:=by have:=HN.o;have:=HSZ.o;have:=HM.o;omega
 obtain⟨lo,hlo⟩:∃lo,1+sz=lo:=⟨_,rfl⟩
 have h1:(1:Int)+(sz:Int)=(lo:Int):=by omega
 have h2:(lo:Int)+(m:Int)=(n:Int):=by omega
 have h3:(n:Int) -1-(sz:Int) -(m:Int)=0:=by omega
 have hlon:lo≤n:=by omega
 have hnlo:n-lo=m:=by omega
 have hwl:IntKind.i64.wrap (lo:Int)=(lo:Int):=IntWalk.i64_in _ (by omega)
 have hwn:IntKind.i64.wrap (n:Int)=(n:Int):=IntWalk.i64_in _ (by omega)
 have hlc:lo≤c:=by omega
 have HLO:=hH hlo
 have HNQ:=hH hnq
 have HNLO:=hH hnlo
 clear hlo hnq hnlo
 go_wp2_with fail
 go_fit (ZD.o)
 rintro e w3 ⟨rfl,hk3⟩
 have hz32:=hk3.size
 have HK3:=hH ((HK1.o.trans HK2.o (by simp)).trans hk3 (by simp))
 have HB3:=hH ((HB1.o.keep HK2.o (by simp)).keep hk3 (by simp))
 have HPR3:=hH (HPR.o.keep HK3.o (by simpa using Ne.symm hgr))
 have z0:=(HK2.o.trans hk3 (by simp)).some_ y0 (by simp)
 have z1:=(HK2.o.trans hk3 (by simp)).some_ y1 (by simp)
 have z92:w3.cell? ⟨g,92,none⟩=some (cs1.getD 92 undef):=by
  have hz:cs1.size=108:=by have:=congrArg Array.size HDZ.o;simpa [arr_size] using this
  rw[HB3.o.cell];simp[Array.getD,hz]
 have f92:=HB3.o.frozen 92
 have zr:w3.cell? ⟨pr,0,none⟩=some (.int .i64 0):=by rw[HPR3.o.cell];rfl
 have fr:=HPR3.o.frozen 0
 clear hk3 y0 y1
 go_wp2_with fail
 have hb4:=(HB3.o.set_ 92 (.int .i64 (m:Int))).far (p:=⟨pr,0,none⟩) hgr (.int .i64 0)
 rw[←HM.o,HDZ.o,HM.o] at hb4
 have hpr4:=(HPR3.o.far (p:=⟨g,92,none⟩) (Ne.symm hgr) (.int .i64 (m:Int))).set_ 0 (.int .i64 0)
 have hk4:Keeps [g,pr] w ((w3.setCell ⟨g,92,none⟩ (.int .i64 (m:Int))).setCell ⟨pr,0,none⟩ (.int .i64 0)):=((HK3.o.mono (by simp)).trans (Keeps.setCell w3 ⟨g,92,none⟩ (.int .i64 (m:Int))) (by simp)).trans (Keeps.setCell _ ⟨pr,0,none⟩ (.int .i64 0)) (by simp)
 have v0:=(hk4.some_ (show w.cell? ⟨px,0,none⟩=some (.pointer (some ⟨g,0,none⟩)) by rw[HPX.o.cell];rfl) (by simp;exact⟨hxg,hxr⟩))
 have v1:=(hk4.some_ (show w.cell? ⟨pd,0,none⟩=some (.slice (some ⟨db,ob,none⟩) n c) by rw[HPD.o.cell];rfl) (by simp;exact⟨hxd,hdr2⟩))
 have HLT:Hd (w.heap.size<((w3.setCell ⟨g,92,none⟩ (.int .i64 (m:Int))).setCell ⟨pr,0,none⟩ (.int .i64 0)).heap.size):=by show _<_;rw[World.size_setCell,World.size_setCell];exact Nat.lt_of_lt_of_le HLT2.o hz32
 clear hz32
 have HB4:=hH hb4
 have HPR4:=hH hpr4
 have HK4:=hH hk4
 clear hb4 hpr4 hk4 z0 z1 z92 f92 zr fr
 generalize (w3.setCell ⟨g,92,none⟩ (.int .i64 (m:Int))).setCell ⟨pr,0,none⟩ (.int .i64 0)=w4 at*
 have hdrop:(fb::(vlen body.length++body)).drop lo=body:=by rw[←HLO.o,←HSZ.o];show(fb::(vlen body.length++body)).drop _=_;rw[Nat.add_comm,List.drop_succ_cons,List.drop_left]
 have hrb:RB w4 db (ob+lo) body:=by have h:=(HR.o.drop lo).keep HK4.o (by simp;exact⟨hdg,hdr⟩);rwa [hdrop] at h
 have HRB:=hH hrb
 clear hdrop hrb
 refine tkStart (S:=(fun w'=>w'.cell? ⟨px,0,none⟩=some (.pointer (some ⟨g,0,none⟩))∧w'.cell? ⟨pd,0,none⟩=some (.slice (some ⟨db,ob,none⟩) n c))) (by kernel_rfl) (⟨v0,v1⟩) (fun hHeld=>?_)
 simp only[s4,s5,Nat.reduceAdd,s6,s7]
 by_cases hcl:c=lo
 ·have hm0:body=[]:=List.eq_nil_of_length_eq_zero (by have:=HM.o;have:=HNLO.o;omega)
  have hnle:n≤lo:=by omega
  subst hm0
  have hcl2:=clone2_c w4.drew (some ⟨db,ob,none⟩) 0 [] ⟨by simp[bvs],fun h=>by simp at h⟩ (by simp)
  rw[show([]:List UInt8).length=0 from rfl] at hcl2
  exact zXa0
 ·skip
  skip
  skip
  have hcl2:=clone2_c w4.drew (some ⟨db,ob+lo,none⟩) (c-lo) body (rb_rd (HRB.o.keep (Keeps.drew w4) (by simp))) (by have:=HM.o;omega)
  rw[HM.o,←HNLO.o] at hcl2
  exact zXa0
theorem z103 (v:Value):Tryz.zeroCells86.setIfInBounds 103 v=arr (upd z86 103 v):=by
 have hz:Tryz.zeroCells86.size=108:=by kernel_rfl
 refine arr_ext (by simp) (fun j hj=>?_)
 rw[Array.getElem?_setIfInBounds]
 unfold upd
 by_cases e:103=j
 ·subst e;rw[if_pos rfl,if_pos (by omega),if_pos rfl]
 ·rw[if_neg e,if_neg (Ne.symm e)]
  simp[z86,Array.getD,hz,hj]
theorem results_c2 {fn:Func} {p p2 u:Tmp} {ty ty2:TypeId} (h:fn.results=#[.cell p ty,.cell p2 ty2,.tmp u]) (tmps:Array Value) (P:Program) (w:World):
 (results fn tmps).run P w=((asAddr (tmps.getD p undef)).run P w).andThen fun a w1=>((loadVar ty a).run P w1).andThen fun v w2=>((asAddr (tmps.getD p2 undef)).run P w2).andThen fun a2 w3=>((loadVar ty2 a2).run P w3).andThen fun v2 w4=>.ok (.tuple #[v,v2,tmps.getD u undef]) w4:=by
 simp only[results,h]
 simp[Sem.run_bind,Result.andThen]
theorem results11_c (tmps:Array Value) (a1 a2:Addr) (tg:Array Value) (w:World) (h1:tmps.getD 4 undef=.pointer (some a1)) (h2:tmps.getD 5 undef=.pointer (some a2)) (h3:tmps.getD 6 undef=.bool true) (l1:(loadVar 29 a1).run prog w=.ok (.agg tg) w) (l2:(loadVar 3 a2).run prog w=.ok (.int .i64 0) w):
 (results Tryz.f11 tmps).run prog w=.ok (.tuple #[.agg tg,.int .i64 0,.bool true]) w:=by
 have ha:∀a:Addr,(asAddr (.pointer (some a))).run prog w=.ok a w:=fun _=>rfl
 rw[results_c2 Tryz.results11,h1,h2,h3,ha]
 simp only[Result.andThen_ok,l1,ha,l2]
def DecOut (w:World) (p:PkV) (e:Ending) (w':World):Prop:=∃v,e=.returned (.tuple #[.agg (p.cells v),.int .i64 0,.bool true])∧PkMem AllB w' p v∧Keeps [] w w'
theorem zXa1 {p:Prop} (h:p:=by
 exact⟨ys,y1.mono all,fun i u hi=>by obtain⟨z,z3,z4⟩:=y2 i u hi;exact⟨z,z3,z4.mono all⟩⟩
 ):p:=h
theorem decode_c (w:World) (db ob c n t q:Nat) (dup ret:Bool) (ver:Int) (body:List UInt8) (p:PkV) (hv:HdOK t q dup ret) (hver:0≤ver∧ver≤255) (hp:PkPl p)
 (hr:RB w db ob (hdrB t q dup ret::(vlen body.length++body))) (hn:1+((vlen body.length).length+body.length)=n) (hc:n≤c) (hdb:db<w.heap.size) (hbl:body.length≤100000000) (hT:Lib.Utf8Tabs 28 29 w) (h29:29<w.heap.size) (hZ:∀(w1:World) (g:Nat),29<g→g<w1.heap.size→BodyRd w1 g t q dup ret ver body p):
 Calls prog 11 #[.int .i64 ver,.slice (some ⟨db,ob,none⟩) n c] w (DecOut w p):=by
 obtain⟨W3,hW3⟩:∃W,(((w.alloc (.cells #[.slice (some ⟨db,ob,none⟩) n c] 22)).alloc (.cells #[.int .i64 0,.int .i64 0,.bool false,.bool false,.int .i64 0,.int .i64 0,.string ⟨#[]⟩,.slice none 0 0,.string ⟨#[]⟩,.int .i64 0,.string ⟨#[]⟩,.bool false,.int .i64 0,.slice none 0 0,.slice none 0 0,.slice none 0 0,.bool false,.int .i64 0,.slice none 0 0,.slice none 0 0,.slice none 0 0] 29)).alloc (.cells #[.int .i64 0] 3))=W:=⟨_,rfl⟩
 have hk3:Keeps [] w W3:=by rw[←hW3];exact((Keeps.alloc _ _).trans (Keeps.alloc _ _) (by simp)).trans (Keeps.alloc _ _) (by simp)
 have hs3:W3.heap.size=w.heap.size+3:=by rw[←hW3];simp
 have hpd:Blk W3 w.heap.size 22 #[.slice (some ⟨db,ob,none⟩) n c]:=by rw[←hW3];exact((Blk.new _ _ _).alloc _).alloc _
 have hpp:Blk W3 (w.heap.size+1) 29 z29:=by rw[←hW3];have h:=Blk.new (w.alloc (.cells #[.slice (some ⟨db,ob,none⟩) n c] 22)) 29 z29;rw[World.size_alloc] at h;exact h.alloc _
 have hpr:Blk W3 (w.heap.size+2) 3 #[.int .i64 0]:=by rw[←hW3];have h:=Blk.new ((w.alloc (.cells #[.slice (some ⟨db,ob,none⟩) n c] 22)).alloc (.cells #[.int .i64 0,.int .i64 0,.bool false,.bool false,.int .i64 0,.int .i64 0,.string ⟨#[]⟩,.slice none 0 0,.string ⟨#[]⟩,.int .i64 0,.string ⟨#[]⟩,.bool false,.int .i64 0,.slice none 0 0,.slice none 0 0,.slice none 0 0,.bool false,.int .i64 0,.slice none 0 0,.slice none 0 0,.slice none 0 0] 29)) 3 #[.int .i64 0];rw[World.size_alloc,World.size_alloc] at h;exact h
 have hwi:=within_c (W3.alloc (.cells #[.int .i64 ver] 3)) 255 (some ⟨W3.heap.size,0,none⟩) 1 [ver] (rd_new W3 3 #[.int .i64 ver] 1 1 rfl) (by simp)
 have hin:inside 255 [ver]=true:=by simp[inside];exact hver
 rw[hin] at hwi
 have WI:=hH hwi
 have HPD:=hH hpd
 have HPP:=hH hpp
 have HPR:=hH hpr
 have HK3:=hH hk3
 have HS3:=hH hs3
 have HW3:=hH hW3
 have HR:=hH hr
 have HZ:=hH hZ
 have HT:=hH hT
 have HP:=hH hp
 have HN:=hH hn
 clear hwi hin hpd hpp hpr hk3 hs3 hW3 hr hZ hT hp hn
 have hwv:IntKind.u8.wrap ver=ver:=IntWalk.u8_in _ (by omega)
 have hn2:¬((n:Int)<2):=by have:=HN.o;have:=vlen_pos body.length;omega
 have hnd:decide ((n:Int)<2)=false:=decide_eq_false hn2
 go_enter func11,ntmps11
 go_upto_region 1 with fail
 rw[HW3.o]
 clear HW3
 go_wp2_with fail
 go_fit (WI.o)
 rintro e w4 ⟨rfl,hk4⟩
 have hk34:=(Keeps.alloc W3 (.cells #[.int .i64 ver] 3)).trans hk4 (by simp)
 have x1:w4.cell? ⟨w.heap.size,0,none⟩=some (.slice (some ⟨db,ob,none⟩) n c):=by rw[(HPD.o.keep hk34 (by simp)).cell];rfl
 have HK4:=hH hk34
 clear hk4 hk34
 have hmf:∀(fn:Fn) (first cap:Array Value) (w:World),(Instr.makeFunc fn first cap).run prog w=.ok (.func fn first cap) w:=fun _ _ _ _=>rfl
 go_wp2_with fail
 obtain⟨W,hW⟩:∃W,((w4.alloc (.cells (Tryz.zeroCells86.setIfInBounds 103 (.int .u8 ver)) 86)).alloc (.cells #[.pointer (some ⟨w4.heap.size,0,none⟩)] 62))=W:=⟨_,rfl⟩
 have hg:Blk W w4.heap.size 86 (arr (upd z86 103 (.int .u8 ver))):=by rw[←hW,←z103];exact(Blk.new _ _ _).alloc _
 have hx:Blk W (w4.heap.size+1) 62 #[.pointer (some ⟨w4.heap.size,0,none⟩)]:=by rw[←hW];have h:=Blk.new (w4.alloc (.cells (Tryz.zeroCells86.setIfInBounds 103 (.int .u8 ver)) 86)) 62 #[.pointer (some ⟨w4.heap.size,0,none⟩)];rwa [World.size_alloc] at h
 have hk:Keeps [] W3 W:=by rw[←hW];exact(HK4.o.trans (Keeps.alloc _ _) (by simp)).trans (Keeps.alloc _ _) (by simp)
 have hs:W.heap.size=w4.heap.size+2:=by rw[←hW];simp
 have hz4:=HK4.o.size
 rw[hW]
 clear hW
 have kd:=Keeps.alloc W (.cells #[.bool false] 4)
 have hkd:=hk.trans kd (by simp)
 have hs3:=HS3.o
 have hd1:=dec1_c (W.alloc (.cells #[.bool false] 4)) (w4.heap.size+1) w.heap.size (w.heap.size+1+1) w4.heap.size db ob c n t q dup ret ver body p hv (hx.alloc _) (HPD.o.keep hkd (by simp)) (HPR.o.keep hkd (by simp)) (hg.alloc _) (HR.o.keep (HK3.o.trans hkd (by simp)) (by simp)) HN.o hc (by have:=(HK3.o.trans hkd (by simp)).size;omega) (by omega) (by omega) (by omega) hbl (tabs_keep HT.o (HK3.o.trans hkd (by simp)) (by simp) (by simp)) (by omega) (by omega) (HZ.o _ _ (by omega) (by rw[World.size_alloc];omega))
 have ht:=try_c W 30 #[.pointer (some ⟨w4.heap.size+1,0,none⟩),.pointer (some ⟨w.heap.size,0,none⟩),.pointer (some ⟨w.heap.size+1+1,0,none⟩)] true [w4.heap.size,w.heap.size+1+1] (fun w'=>D1Out (W.alloc (.cells #[.bool false] 4)) w4.heap.size (w.heap.size+1+1) p w') (by rw[hs];simp;omega) (fun _=>by kernel_rfl) (hd1.mono (by rintro e w' ⟨rfl,h⟩;exact⟨rfl,h,by obtain⟨_,_,_,_,_,_,_,_,_,h⟩:=h;exact h⟩))
 have TR:=hH ht
 have HX:=hH hx
 have HKW:=hH hk
 have HSW:=hH hs
 clear hd1 ht hkd kd hg hk hs hx
 go_fit (TR.o)
 rintro e w6 ⟨rfl,w5,⟨B,xb,f,hB,hxb0,hxb,hbf,hgot,hpr5,hk5⟩,hk5b,rfl⟩
 have hst:=Keeps.setCell w5 ⟨W.heap.size,0,none⟩ (.bool true)
 have hsW:=HSW.o
 have hz5:(W.alloc (.cells #[.bool false] 4)).heap.size=W.heap.size+1:=by simp
 have hk6:Keeps [w4.heap.size,w.heap.size+1+1] W (w5.setCell ⟨W.heap.size,0,none⟩ (.bool true)):=(((Keeps.alloc W (.cells #[.bool false] 4)).mono (by simp)).trans hk5 (by simp)).trans hst (by simp)
 have hbx:=HX.o.keep hk6 (by simp;omega)
 have hbg:=hbf.keep hst (by simp;omega)
 have hbr:=hpr5.keep hst (by simp;omega)
 have hbp:=(HPP.o.keep HKW.o (by simp)).keep hk6 (by simp;omega)
 have hgx:xb<(w5.setCell ⟨W.heap.size,0,none⟩ (.bool true)).heap.size:=by rw[World.size_setCell];exact hxb
 have hgot6:=hgot.keep hst (by simp;omega) (by simp;omega)
 have hkw6:Keeps [] w (w5.setCell ⟨W.heap.size,0,none⟩ (.bool true)):=(HK3.o.trans HKW.o (by simp)).trans hk6 (by simp;omega)
 have HBX:=hH hbx
 have HBG:=hH hbg
 have HBR:=hH hbr
 have HBP:=hH hbp
 have HGX:=hH hgx
 have HGOT:=hH hgot6
 have HKW6:=hH hkw6
 clear hst hz5 hk6 hbx hbg hbr hbp hgx hgot6 hkw6 hgot hbf hpr5 hk5 hk5b hxb hB hxb0 TR x1
 generalize w5.setCell ⟨W.heap.size,0,none⟩ (.bool true)=w6 at*
 have z0:w6.cell? ⟨w4.heap.size+1,0,none⟩=some (.pointer (some ⟨w4.heap.size,0,none⟩)):=by rw[HBX.o.cell];rfl
 have z2:w6.cell? ⟨w.heap.size+1+1,0,none⟩=some (.int .i64 0):=by rw[HBR.o.cell];rfl
 have PL:=hH (fun (w':World) (k:Keeps [] w6 w')=>plain_c w' w4.heap.size B xb p f (HBG.o.keep k (by simp)) (HGOT.o.keep k (by simp) (by simp)) HP.o (Nat.lt_of_lt_of_le HGX.o k.size))
 have hi29:(prog.info? 29).map (·.size)=some 21:=by kernel_rfl
 have HI29:=hH hi29
 clear hi29
 go_wp2_with fail
 refine tkStart (S:=(fun w'=>w'.cell? ⟨w4.heap.size+1,0,none⟩=some (.pointer (some ⟨w4.heap.size,0,none⟩))∧w'.cell? ⟨w.heap.size+1+1,0,none⟩=some (.int .i64 0))) (by kernel_rfl) (⟨z0,z2⟩) (fun hHeld=>?_)
 simp only[s4,s5,Nat.reduceAdd,s6,s7]
 repeat((first|refine tkx ?_|refine tku ?_);simp only[setN,Act.put,s1,s2,s3])
 refine tki 2 29 ?_
 simp only[setN,Act.put,s1,s2,s3]
 refine tkc fun K hK=>?_
 go_simp
 refine(PL.o _ (Keeps.drew w6)).mono ?_
 rintro e w7 ⟨v,rfl,hm,hk7⟩
 have hk7:=(Keeps.drew w6).trans hk7 (by simp)
 clear hHeld
 refine hK.out _ _ ⟨hk7.some_ z0 (by simp),hk7.some_ z2 (by simp)⟩ (fun hHeld=>?_)
 clear hK K
 simp only[setN,Act.put,s1,s2,s3]
 repeat((first|refine tkx ?_|refine tku ?_);simp only[setN,Act.put,s1,s2,s3])
 have hs3:=HS3.o
 have hsW:=HSW.o
 have hz4:=HK4.o.size
 have hbp:=HBP.o.keep hk7 (by simp)
 have hbr:=HBR.o.keep hk7 (by simp)
 have hbx:=HBX.o.keep hk7 (by simp)
 obtain⟨tg,htg⟩:∃tg,p.cells v=tg:=⟨_,rfl⟩
 have hsz:tg.size=21:=by rw[←htg];rfl
 have h1:tg.all (·.oneCell')=true:=by
  have hs:=hm.sl
  rw[←htg]
  show(#[.int .i64 p.kind,.int .i64 p.version,.bool p.dup,.bool p.retain,.int .i64 p.qos,.int .i64 p.id,.string p.topic,v 7,.string p.name,.int .i64 p.level,.string p.client,.bool p.clean,.int .i64 p.keep,v 13,v 14,v 15,.bool p.present,.int .i64 p.code,v 18,v 19,v 20]:Array Value).all _=true
  simp only[List.all_toArray,List.all_cons,List.all_nil,hs.1,hs.2.1,hs.2.2.1,hs.2.2.2.1,hs.2.2.2.2.1,hs.2.2.2.2.2.1,hs.2.2.2.2.2.2];rfl
 rw[htg]
 have hi:(prog.info? 29).map (·.size)=some tg.size:=by rw[hsz];exact HI29.o
 refine tkc fun K hK=>?_
 refine wp_store_row 29 (.tmp 4) (.tmp 28) rfl (w.heap.size+1) tg (by rfl) (by rfl) 29 z29 hbp hi hsz.symm h1 ?_
 have hset:=keeps_setRow w7 (w.heap.size+1) tg
 have hbp2:=blk_setRow hbp tg
 have hbr2:=hbr.keep hset (by simp)
 have hbx2:=hbx.keep hset (by simp;omega)
 clear hHeld
 refine hK.out _ _ ⟨by rw[hbx2.cell];rfl,by rw[hbr2.cell];rfl⟩ (fun hHeld=>?_)
 clear hK K
 simp only[setN,Act.put,s1,s2,s3]
 refine tkc fun K hK=>?_
 refine wp_one (gg:=w.heap.size+1+1) (off:=0) (v:=.int .i64 0) hbr2 (by simp) 3 (.tmp 5) (.tmp 29) rfl rfl rfl (by kernel_rfl) rfl ?_
 have hset2:=Keeps.setCell (w7.setRow (w.heap.size+1) tg) ⟨w.heap.size+1+1,0,none⟩ (.int .i64 0)
 have hbp3:=hbp2.keep hset2 (by simp)
 have hbr3:=hbr2.set_ 0 (.int .i64 0)
 have hbx3:=hbx2.keep hset2 (by simp;omega)
 clear hHeld
 refine hK.out _ _ ⟨by rw[hbx3.cell];rfl,by rw[hbr3.cell];rfl⟩ (fun hHeld=>?_)
 clear hK K
 simp only[setN,Act.put,s1,s2,s3]
 repeat((first|refine tkx ?_|refine tku ?_);simp only[setN,Act.put,s1,s2,s3])
 refine tkDone (by kernel_rfl) ?_
 have hm2:=(hm.keep hset (fun x hx hn=>by have hn:w6.drew.heap.size<x:=hn;have h6:w6.heap.size<x:=hn;have hb1:=HBP.o.lt;simp at hx;omega)).keep hset2 (fun x hx hn=>by have h6:w6.heap.size<x:=hn;have hb1:=HBR.o.lt;simp at hx;omega)
 have hkw:=((HKW6.o.trans hk7 (by simp)).trans hset (by simp<;>omega)).trans hset2 (by simp<;>omega)
 have HM2:=hH hm2
 have HKF:=hH hkw
 have HB3:=hH hbp3
 have y2:((w7.setRow (w.heap.size+1) tg).setCell ⟨w.heap.size+1+1,0,none⟩ (.int .i64 0)).cell? ⟨w.heap.size+1+1,0,none⟩=some (.int .i64 0):=by rw[hbr3.cell];rfl
 generalize (w7.setRow (w.heap.size+1) tg).setCell ⟨w.heap.size+1+1,0,none⟩ (.int .i64 0)=w8 at*
 have hload:(loadVar 29 ⟨w.heap.size+1,0,none⟩).run prog w8=.ok (.agg tg) w8:=by
  have h:=run_loadVar_mid (P:=prog) w8 (w.heap.size+1) 0 29 tg.toList _ (fun j v hv=>by rw[Nat.zero_add,HB3.o.cell];simpa using hv) underlying29 rfl (by simpa using hi)
  rwa [Array.toArray_toList] at h
 have hload2:(loadVar 3 ⟨w.heap.size+1+1,0,none⟩).run prog w8=.ok (.int .i64 0) w8:=by go_simp
 have HTG:=hH htg
 clear hm hm2 hkw hbp hbr hbx hbp2 hbr2 hbx2 hbp3 hbr3 hbx3 hset hset2 hHeld h1 hi hsz hk7 htg z0 z2
 go_wp2_with fail
 refine bodyPost_ret (v:=.tuple #[.agg tg,.int .i64 0,.bool true]) ?_ rfl ⟨v,by rw[←HTG.o],?_,HKF.o⟩
 ·exact results11_c _ _ _ _ w8 rfl rfl rfl hload hload2
 ·have all:∀(b:Nat),b<w8.heap.size→w6.drew.heap.size<b→AllB b:=fun _ _ _=>trivial
  have hm:=HM2.o
  refine⟨hm.m7.mono all,?_,?_,?_,SlAt.mono hm.m18 all,SlAt.mono hm.m19 all,SlAt.mono hm.m20 all⟩
  ·obtain⟨ys,y1,y2⟩:=hm.m13
   exact⟨ys,y1.mono all,fun i u hi=>(y2 i u hi).mono all⟩
  ·obtain⟨ys,y1,y2⟩:=hm.m14
   exact zXa1
  ·obtain⟨ys,y1,y2⟩:=hm.m15
   exact zXa1
end Go.Proofs.YtkglmacaecmhdaaGreatDoor
