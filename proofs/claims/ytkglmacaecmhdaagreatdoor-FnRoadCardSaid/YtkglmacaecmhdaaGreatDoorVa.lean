/- FnRoad, part Va: the walks of E4, E5. -/
import Derived.Test.YtkglmacaecmhdaaGreatDoorNa
import Derived.Test.YtkglmacaecmhdaaGreatDoorU
set_option linter.unusedVariables false
set_option linter.unusedSimpArgs false
set_option maxHeartbeats 8000000
set_option maxRecDepth 100000
namespace Go.Proofs.YtkglmacaecmhdaaGreatDoor
open Go Go.RowKit Tryz
def optR (b:Bool) (l rest:List UInt8):List UInt8:=if b then lp l++rest else rest
def willR (five wf:Bool) (u:WillV) (rest:List UInt8):List UInt8:=if wf then(if five then encPL u.props++(lp u.topic.data.toList++(lp u.payload++rest)) else lp u.topic.data.toList++(lp u.payload++rest)) else rest
theorem flags_read (cl wf wr pf uf:Bool) (wq:Nat) (h:wq<3):bits .and .u8 1 ((flagB cl wf wr pf uf wq).toNat:Int)=0∧decide (0<bits .and .u8 1 (((flagB cl wf wr pf uf wq).toNat:Int) / 2))=cl∧decide (0<bits .and .u8 1 (((flagB cl wf wr pf uf wq).toNat:Int) / 4))=wf∧bits .and .u8 3 (((flagB cl wf wr pf uf wq).toNat:Int) / 8)=(wq:Int)∧
 decide (0<bits .and .u8 1 (((flagB cl wf wr pf uf wq).toNat:Int) / 32))=wr∧decide (0<bits .and .u8 1 (((flagB cl wf wr pf uf wq).toNat:Int) / 64))=pf∧decide (0<bits .and .u8 1 (((flagB cl wf wr pf uf wq).toNat:Int) / 128))=uf:=by
 obtain rfl|rfl|rfl:wq=0∨wq=1∨wq=2:=by omega
 all_goals cases cl<;>cases wf<;>cases wr<;>cases pf<;>cases uf<;>exact⟨rfl,rfl,rfl,rfl,rfl,rfl,rfl⟩
theorem connDec4_c (w:World) (g xb o c n rem:Nat) (xs:List UInt8) (qs:Int) (dup ret:Bool) (nm:ByteArray) (cl wf wr pf uf:Bool) (wq:Nat) (fb:UInt8) (ka:Nat) (cid:ByteArray) (u:WillV) (un pw:List UInt8) (D:DSt w g xb o c n xs (dz 1 qs dup ret 4 rem) w) (hxs:xs=lp nm.data.toList++([UInt8.ofNat 4]++([fb]++(be2 ka++(lp cid.data.toList++(willR false wf u (optR uf un (optR pf pw [])))))))) (hpn:nm.size<65536) (hwq:wq<3) (hfb:flagB cl wf wr pf uf wq=fb) (hka:ka<65536) (hcid:TextOK cid) (hw:wf=true→(wq:Int)=u.qos∧wr=u.retain∧TextOK u.topic∧u.payload.length<65536∧u.props=[]) (hun:un.length<65536) (hpw:pw.length<65536):
 Calls prog 63 #[.pointer (some ⟨g,0,none⟩),.slice (some ⟨xb,o,none⟩) n c] w (DOut w g xb ({zp 1 4 [] with qos:=qs,dup:=dup,retain:=ret,name:=nm,level:=4,client:=cid,clean:=cl,keep:=(ka:Int),will:=if wf then[u] else[],user:=if uf then[un] else[],pass:=if pf then[pw] else[]})):=by
 have d0:xs.drop 0=lp nm.data.toList++([UInt8.ofNat 4]++([fb]++(be2 ka++(lp cid.data.toList++(willR false wf u (optR uf un (optR pf pw []))))))):=hxs
 have hcap:=D.cap
 have hxl:=D.len
 have hn:=D.hn
 have HD0:=hH D
 clear D hxs
 obtain⟨k1,e1,d1,l1⟩:=pos_step (2+nm.size) d0 (by simp[lp_length]) (by omega) hn
 obtain⟨k2,e2,d2,l2⟩:=pos_step (1) d1 (rfl) (by omega) hn
 obtain⟨k3,e3,d3,l3⟩:=pos_step (1) d2 (rfl) (by omega) hn
 obtain⟨k4,e4,d4,l4⟩:=pos_step (2) d3 (rfl) (by omega) hn
 obtain⟨k5,e5,d5,l5⟩:=pos_step (2+cid.size) d4 (by simp[lp_length]) (by omega) hn
 have HX0:=hH d0
 have HX1:=hH d1
 have HX2:=hH d2
 have HX3:=hH d3
 have HX4:=hH d4
 have HX5:=hH d5
 have HE1:=hH e1
 have HE2:=hH e2
 have HE3:=hH e3
 have HE4:=hH e4
 have HE5:=hH e5
 clear d0 d1 d2 d3 d4 d5 e1 e2 e3 e4 e5
 obtain⟨q,hq⟩:∃q,({zp 1 4 [] with qos:=qs,dup:=dup,retain:=ret,name:=nm,level:=4,client:=cid,clean:=cl,keep:=(ka:Int),will:=if wf then[u] else[],user:=if uf then[un] else[],pass:=if pf then[pw] else[]}:PkV)=q:=⟨_,rfl⟩
 rw[hq]
 have HQ:=hH hq
 have HNN:=hH hn
 clear hq hn
 have HCID:=hH hcid
 have HWI:=hH hw
 have hfr:=flags_read cl wf wr pf uf wq hwq
 rw[hfb] at hfr
 obtain⟨b1,b2,b3,b4,b5,b6,b7⟩:=hfr
 clear hcid hw hfb
 have hnl:nm.data.toList.length=nm.size:=by simp
 have HNL:=hH hnl
 have HPN:Hd (nm.data.toList.length<65536):=by show _<_;omega
 clear hnl
 obtain⟨pn,hpnn⟩:∃pn,nm.data.toList=pn:=⟨_,rfl⟩
 have HPNN:=hH hpnn
 rw[hpnn] at HX0 HNL HPN
 clear hpnn
 have HE1:Hd (0+(2+pn.length)=k1):=by show _=_;rw[HNL.o];exact HE1.o
 go_enter func63,ntmps63
 go_wp2_with fail
 go_fit (HD0.o.data pn HX0.o HE1.o HPN.o)
 rintro e w1 ⟨A0,c0,rfl,r,lc0,a,D,kk⟩
 have HR0:=hH r
 have HA0:=hH a
 have HD1:=hH D
 clear D r a kk
 have cw1_39:=HD1.o.cell 39
 have fw1_39:=HD1.o.frozen 39
 go_wp2_with fail
 have HDT1:=hH ((HR0.o.put HA0.o HD1.o.ne 39 (.slice A0 pn.length c0)))
 have HD2:=hH ((HD1.o.set 39 (.slice A0 pn.length c0)))
 generalize (w1).setCell ⟨g,39,none⟩ (.slice A0 pn.length c0)=w2 at*
 go_fit (HD2.o.byte (UInt8.ofNat 4) HX1.o HE2.o)
 rintro e w3 ⟨rfl,D,kk⟩
 have HD3:=hH D
 have HDT2:=hH (HDT1.o.keep kk (by simp))
 clear D kk
 have cw3_103:=HD3.o.cell 103
 have fw3_103:=HD3.o.frozen 103
 go_wp2_with fail
 have HDT3:=hH ((HDT2.o.put HA0.o HD3.o.ne 103 (.int .u8 4)))
 have HD4:=hH ((HD3.o.set 103 (.int .u8 4)))
 generalize (w3).setCell ⟨g,103,none⟩ (.int .u8 4)=w4 at*
 go_fit (HD4.o.byte fb HX2.o HE3.o)
 rintro e w5 ⟨rfl,D,kk⟩
 have HD5:=hH D
 have HDT4:=hH (HDT3.o.keep kk (by simp))
 clear D kk
 have cw5_106:=HD5.o.cell 106
 have fw5_106:=HD5.o.frozen 106
 have cw5_49:=HD5.o.cell 49
 have fw5_49:=HD5.o.frozen 49
 have cw5_47:=HD5.o.cell 47
 have fw5_47:=HD5.o.frozen 47
 have cw5_46:=HD5.o.cell 46
 have fw5_46:=HD5.o.frozen 46
 have cw5_48:=HD5.o.cell 48
 have fw5_48:=HD5.o.frozen 48
 have cw5_44:=HD5.o.cell 44
 have fw5_44:=HD5.o.frozen 44
 have cw5_45:=HD5.o.cell 45
 have fw5_45:=HD5.o.frozen 45
 go_wp2_with fail
 have HDT5:=hH ((((((((HDT4.o.put HA0.o HD5.o.ne 106 (.int .u8 0)).put HA0.o HD5.o.ne 49 (.bool cl)).put HA0.o HD5.o.ne 47 (.bool wf)).put HA0.o HD5.o.ne 46 (.int .u8 (wq:Int))).put HA0.o HD5.o.ne 48 (.bool wr)).put HA0.o HD5.o.ne 44 (.bool pf)).put HA0.o HD5.o.ne 45 (.bool uf)))
 have HD6:=hH ((((((((HD5.o.set 106 (.int .u8 0)).set 49 (.bool cl)).set 47 (.bool wf)).set 46 (.int .u8 (wq:Int))).set 48 (.bool wr)).set 44 (.bool pf)).set 45 (.bool uf)))
 generalize (((((((w5).setCell ⟨g,106,none⟩ (.int .u8 0)).setCell ⟨g,49,none⟩ (.bool cl)).setCell ⟨g,47,none⟩ (.bool wf)).setCell ⟨g,46,none⟩ (.int .u8 (wq:Int))).setCell ⟨g,48,none⟩ (.bool wr)).setCell ⟨g,44,none⟩ (.bool pf)).setCell ⟨g,45,none⟩ (.bool uf)=w6 at*
 have hpre:=HX3.o
 skip
 clear hpre
 go_fit (HD6.o.word ka HX3.o HE4.o hka)
 rintro e w7 ⟨rfl,D,kk⟩
 have HD7:=hH D
 have HDT6:=hH (HDT5.o.keep kk (by simp))
 clear D kk
 have cw7_43:=HD7.o.cell 43
 have fw7_43:=HD7.o.frozen 43
 have cw7_103:=HD7.o.cl 103 (.int .u8 4)
 go_wp2_with fail
 have HDT7:=hH ((HDT6.o.put HA0.o HD7.o.ne 43 (.int .u16 (ka:Int))))
 have HD8:=hH ((HD7.o.set 43 (.int .u16 (ka:Int))))
 generalize (w7).setCell ⟨g,43,none⟩ (.int .u16 (ka:Int))=w8 at*
 go_fit (HD8.o.text cid HX4.o HE5.o HCID.o)
 rintro e w9 ⟨rfl,D,kk⟩
 have HD9:=hH D
 have HDT8:=hH (HDT7.o.keep kk (by simp))
 clear D kk
 have cw9_41:=HD9.o.cell 41
 have fw9_41:=HD9.o.frozen 41
 have cw9_47:=HD9.o.cl 47 (.bool wf)
 have cw9_45:=HD9.o.cl 45 (.bool uf)
 have cw9_44:=HD9.o.cl 44 (.bool pf)
 have cw9_103:=HD9.o.cl 103 (.int .u8 4)
 cases wf
 ·have HXW:Hd (xs.drop k5=optR uf un (optR pf pw [])):=HX5.o
  cases uf
  ·have HXP:Hd (xs.drop k5=optR pf pw []):=HXW.o
   cases pf
   ·go_wp2_with fail
    have HDT9:=hH ((HDT8.o.put HA0.o HD9.o.ne 41 (.string cid)))
    have HD10:=hH ((HD9.o.set 41 (.string cid)))
    generalize (w9).setCell ⟨g,41,none⟩ (.string cid)=w10 at*
    have hkf:=HD10.o.keeps
    go_ret
    rw[←HQ.o]
    refine⟨rfl,_,HD10.o.blk,?_,hkf⟩
    exact PkGot.of HD10.o.one (e39:=⟨A0,c0,by rw[HPNN.o];exact rfl,by rw[HPNN.o];exact HDT9.o,HA0.o⟩)
   ·have d5:xs.drop k5=lp pw++([]):=HXP.o
    obtain⟨k6,e6,d6,l6⟩:=pos_step (2+pw.length) d5 (lp_length _) (by omega) HNN.o
    have HX5:=hH d5
    have HX6:=hH d6
    have HE6:=hH e6
    clear d5 d6 e6
    go_wp2_with fail
    have HDT9:=hH ((HDT8.o.put HA0.o HD9.o.ne 41 (.string cid)))
    have HD10:=hH ((HD9.o.set 41 (.string cid)))
    generalize (w9).setCell ⟨g,41,none⟩ (.string cid)=w10 at*
    go_fit (HD10.o.data pw HX5.o HE6.o hpw)
    rintro e w11 ⟨A5,c5,rfl,r,lc5,a,D,kk⟩
    have HR5:=hH r
    have HA5:=hH a
    have HD11:=hH D
    have HDT10:=hH (HDT9.o.keep kk (by simp))
    clear D r a kk
    have cw11_37:=HD11.o.cell 37
    have fw11_37:=HD11.o.frozen 37
    go_wp2_with fail
    have HDT11:=hH ((HDT10.o.put HA0.o HD11.o.ne 37 (.slice A5 pw.length c5)))
    have HDT12:=hH ((HR5.o.put HA5.o HD11.o.ne 37 (.slice A5 pw.length c5)))
    have HD12:=hH ((HD11.o.set 37 (.slice A5 pw.length c5)))
    generalize (w11).setCell ⟨g,37,none⟩ (.slice A5 pw.length c5)=w12 at*
    have hkf:=HD12.o.keeps
    go_ret
    rw[←HQ.o]
    refine⟨rfl,_,HD12.o.blk,?_,hkf⟩
    exact PkGot.of HD12.o.one (e39:=⟨A0,c0,by rw[HPNN.o];exact rfl,by rw[HPNN.o];exact HDT11.o,HA0.o⟩) (pass:=.inr ⟨pw,rfl,rfl,A5,c5,rfl,HDT12.o,HA5.o⟩)
  ·have d5:xs.drop k5=lp un++(optR pf pw []):=HXW.o
   obtain⟨k6,e6,d6,l6⟩:=pos_step (2+un.length) d5 (lp_length _) (by omega) HNN.o
   have HX5:=hH d5
   have HX6:=hH d6
   have HE6:=hH e6
   clear d5 d6 e6
   have hlu:¬(n:Int)≤(k5:Int):=by have h:=HE6.o;omega
   go_wp2_with fail
   have HDT9:=hH ((HDT8.o.put HA0.o HD9.o.ne 41 (.string cid)))
   have HD10:=hH ((HD9.o.set 41 (.string cid)))
   generalize (w9).setCell ⟨g,41,none⟩ (.string cid)=w10 at*
   go_fit (HD10.o.data un HX5.o HE6.o hun)
   rintro e w11 ⟨A5,c5,rfl,r,lc5,a,D,kk⟩
   have HR5:=hH r
   have HA5:=hH a
   have HD11:=hH D
   have HDT10:=hH (HDT9.o.keep kk (by simp))
   clear D r a kk
   have cw11_38:=HD11.o.cell 38
   have fw11_38:=HD11.o.frozen 38
   have cw11_44:=HD11.o.cl 44 (.bool pf)
   have HXP:Hd (xs.drop k6=optR pf pw []):=HX6.o
   cases pf
   ·go_wp2_with fail
    have HDT11:=hH ((HDT10.o.put HA0.o HD11.o.ne 38 (.slice A5 un.length c5)))
    have HDT12:=hH ((HR5.o.put HA5.o HD11.o.ne 38 (.slice A5 un.length c5)))
    have HD12:=hH ((HD11.o.set 38 (.slice A5 un.length c5)))
    generalize (w11).setCell ⟨g,38,none⟩ (.slice A5 un.length c5)=w12 at*
    have hkf:=HD12.o.keeps
    go_ret
    rw[←HQ.o]
    refine⟨rfl,_,HD12.o.blk,?_,hkf⟩
    exact PkGot.of HD12.o.one (e39:=⟨A0,c0,by rw[HPNN.o];exact rfl,by rw[HPNN.o];exact HDT11.o,HA0.o⟩) (user:=.inr ⟨un,rfl,rfl,A5,c5,rfl,HDT12.o,HA5.o⟩)
   ·have d6:xs.drop k6=lp pw++([]):=HXP.o
    obtain⟨k7,e7,d7,l7⟩:=pos_step (2+pw.length) d6 (lp_length _) (by omega) HNN.o
    have HX6:=hH d6
    have HX7:=hH d7
    have HE7:=hH e7
    clear d6 d7 e7
    go_wp2_with fail
    have HDT11:=hH ((HDT10.o.put HA0.o HD11.o.ne 38 (.slice A5 un.length c5)))
    have HDT12:=hH ((HR5.o.put HA5.o HD11.o.ne 38 (.slice A5 un.length c5)))
    have HD12:=hH ((HD11.o.set 38 (.slice A5 un.length c5)))
    generalize (w11).setCell ⟨g,38,none⟩ (.slice A5 un.length c5)=w12 at*
    go_fit (HD12.o.data pw HX6.o HE7.o hpw)
    rintro e w13 ⟨A6,c6,rfl,r,lc6,a,D,kk⟩
    have HR6:=hH r
    have HA6:=hH a
    have HD13:=hH D
    have HDT13:=hH (HDT11.o.keep kk (by simp))
    have HDT14:=hH (HDT12.o.keep kk (by simp))
    clear D r a kk
    have cw13_37:=HD13.o.cell 37
    have fw13_37:=HD13.o.frozen 37
    go_wp2_with fail
    have HDT15:=hH ((HDT13.o.put HA0.o HD13.o.ne 37 (.slice A6 pw.length c6)))
    have HDT16:=hH ((HDT14.o.put HA5.o HD13.o.ne 37 (.slice A6 pw.length c6)))
    have HDT17:=hH ((HR6.o.put HA6.o HD13.o.ne 37 (.slice A6 pw.length c6)))
    have HD14:=hH ((HD13.o.set 37 (.slice A6 pw.length c6)))
    generalize (w13).setCell ⟨g,37,none⟩ (.slice A6 pw.length c6)=w14 at*
    have hkf:=HD14.o.keeps
    go_ret
    rw[←HQ.o]
    refine⟨rfl,_,HD14.o.blk,?_,hkf⟩
    exact PkGot.of HD14.o.one (e39:=⟨A0,c0,by rw[HPNN.o];exact rfl,by rw[HPNN.o];exact HDT15.o,HA0.o⟩) (user:=.inr ⟨un,rfl,rfl,A5,c5,rfl,HDT16.o,HA5.o⟩) (pass:=.inr ⟨pw,rfl,rfl,A6,c6,rfl,HDT17.o,HA6.o⟩)
 ·have d5:xs.drop k5=lp u.topic.data.toList++(lp u.payload++(optR uf un (optR pf pw []))):=HX5.o
  obtain⟨k6,e6,d6,l6⟩:=pos_step (2+u.topic.size) d5 (by simp[lp_length]) (by omega) HNN.o
  obtain⟨k7,e7,d7,l7⟩:=pos_step (2+u.payload.length) d6 (lp_length _) (by omega) HNN.o
  have HX5:=hH d5
  have HX6:=hH d6
  have HX7:=hH d7
  have HE6:=hH e6
  have HE7:=hH e7
  clear d5 d6 d7 e6 e7
  obtain⟨hw1,hw2,hw3,hw4,hw5⟩:=HWI.o rfl
  have HW1:=hH hw1
  have HW2:=hH hw2
  have HW3:=hH hw3
  have HW5:=hH hw5
  clear hw1 hw2 hw3 hw5
  go_wp2_with fail
  have HDT9:=hH ((HDT8.o.put HA0.o HD9.o.ne 41 (.string cid)))
  have HD10:=hH ((HD9.o.set 41 (.string cid)))
  generalize (w9).setCell ⟨g,41,none⟩ (.string cid)=w10 at*
  go_fit (HD10.o.text u.topic HX5.o HE6.o HW3.o)
  rintro e w11 ⟨rfl,D,kk⟩
  have HD11:=hH D
  have HDT10:=hH (HDT9.o.keep kk (by simp))
  clear D kk
  have cw11_42:=HD11.o.cell 42
  have fw11_42:=HD11.o.frozen 42
  go_wp2_with fail
  have HDT11:=hH ((HDT10.o.put HA0.o HD11.o.ne 42 (.string u.topic)))
  have HD12:=hH ((HD11.o.set 42 (.string u.topic)))
  generalize (w11).setCell ⟨g,42,none⟩ (.string u.topic)=w12 at*
  go_fit (HD12.o.data u.payload HX6.o HE7.o hw4)
  rintro e w13 ⟨A6,c6,rfl,r,lc6,a,D,kk⟩
  have HR6:=hH r
  have HA6:=hH a
  have HD13:=hH D
  have HDT12:=hH (HDT11.o.keep kk (by simp))
  clear D r a kk
  have cw13_40:=HD13.o.cell 40
  have fw13_40:=HD13.o.frozen 40
  have cw13_45:=HD13.o.cl 45 (.bool uf)
  have cw13_44:=HD13.o.cl 44 (.bool pf)
  have HXW:Hd (xs.drop k7=optR uf un (optR pf pw [])):=HX7.o
  cases uf
  ·have HXP:Hd (xs.drop k7=optR pf pw []):=HXW.o
   cases pf
   ·go_wp2_with fail
    have HDT13:=hH ((HDT12.o.put HA0.o HD13.o.ne 40 (.slice A6 u.payload.length c6)))
    have HDT14:=hH ((HR6.o.put HA6.o HD13.o.ne 40 (.slice A6 u.payload.length c6)))
    have HD14:=hH ((HD13.o.set 40 (.slice A6 u.payload.length c6)))
    generalize (w13).setCell ⟨g,40,none⟩ (.slice A6 u.payload.length c6)=w14 at*
    have hkf:=HD14.o.keeps
    go_ret
    rw[←HQ.o]
    refine⟨rfl,_,HD14.o.blk,?_,hkf⟩
    exact PkGot.of HD14.o.one (e39:=⟨A0,c0,by rw[HPNN.o];exact rfl,by rw[HPNN.o];exact HDT13.o,HA0.o⟩) (will:=.inr ⟨u,rfl,rfl,rfl,⟨A6,c6,rfl,HDT14.o,HA6.o⟩,(rfl).trans (congrArg (Value.int IntKind.u8) HW1.o),(rfl).trans (congrArg Value.bool HW2.o),by rw[HW5.o];exact rst_zero _ _ _ _ _ (pz (.inr rfl) (fun j h1 h2=>by simp only[dz,upd];repeat rw[if_neg (by omega)]))⟩)
   ·have d7:xs.drop k7=lp pw++([]):=HXP.o
    obtain⟨k8,e8,d8,l8⟩:=pos_step (2+pw.length) d7 (lp_length _) (by omega) HNN.o
    have HX7:=hH d7
    have HX8:=hH d8
    have HE8:=hH e8
    clear d7 d8 e8
    go_wp2_with fail
    have HDT13:=hH ((HDT12.o.put HA0.o HD13.o.ne 40 (.slice A6 u.payload.length c6)))
    have HDT14:=hH ((HR6.o.put HA6.o HD13.o.ne 40 (.slice A6 u.payload.length c6)))
    have HD14:=hH ((HD13.o.set 40 (.slice A6 u.payload.length c6)))
    generalize (w13).setCell ⟨g,40,none⟩ (.slice A6 u.payload.length c6)=w14 at*
    go_fit (HD14.o.data pw HX7.o HE8.o hpw)
    rintro e w15 ⟨A7,c7,rfl,r,lc7,a,D,kk⟩
    have HR7:=hH r
    have HA7:=hH a
    have HD15:=hH D
    have HDT15:=hH (HDT13.o.keep kk (by simp))
    have HDT16:=hH (HDT14.o.keep kk (by simp))
    clear D r a kk
    have cw15_37:=HD15.o.cell 37
    have fw15_37:=HD15.o.frozen 37
    go_wp2_with fail
    have HDT17:=hH ((HDT15.o.put HA0.o HD15.o.ne 37 (.slice A7 pw.length c7)))
    have HDT18:=hH ((HDT16.o.put HA6.o HD15.o.ne 37 (.slice A7 pw.length c7)))
    have HDT19:=hH ((HR7.o.put HA7.o HD15.o.ne 37 (.slice A7 pw.length c7)))
    have HD16:=hH ((HD15.o.set 37 (.slice A7 pw.length c7)))
    generalize (w15).setCell ⟨g,37,none⟩ (.slice A7 pw.length c7)=w16 at*
    have hkf:=HD16.o.keeps
    go_ret
    rw[←HQ.o]
    refine⟨rfl,_,HD16.o.blk,?_,hkf⟩
    exact PkGot.of HD16.o.one (e39:=⟨A0,c0,by rw[HPNN.o];exact rfl,by rw[HPNN.o];exact HDT17.o,HA0.o⟩) (will:=.inr ⟨u,rfl,rfl,rfl,⟨A6,c6,rfl,HDT18.o,HA6.o⟩,(rfl).trans (congrArg (Value.int IntKind.u8) HW1.o),(rfl).trans (congrArg Value.bool HW2.o),by rw[HW5.o];exact rst_zero _ _ _ _ _ (pz (.inr rfl) (fun j h1 h2=>by simp only[dz,upd];repeat rw[if_neg (by omega)]))⟩) (pass:=.inr ⟨pw,rfl,rfl,A7,c7,rfl,HDT19.o,HA7.o⟩)
  ·have d7:xs.drop k7=lp un++(optR pf pw []):=HXW.o
   obtain⟨k8,e8,d8,l8⟩:=pos_step (2+un.length) d7 (lp_length _) (by omega) HNN.o
   have HX7:=hH d7
   have HX8:=hH d8
   have HE8:=hH e8
   clear d7 d8 e8
   have hlu:¬(n:Int)≤(k7:Int):=by have h:=HE8.o;omega
   go_wp2_with fail
   have HDT13:=hH ((HDT12.o.put HA0.o HD13.o.ne 40 (.slice A6 u.payload.length c6)))
   have HDT14:=hH ((HR6.o.put HA6.o HD13.o.ne 40 (.slice A6 u.payload.length c6)))
   have HD14:=hH ((HD13.o.set 40 (.slice A6 u.payload.length c6)))
   generalize (w13).setCell ⟨g,40,none⟩ (.slice A6 u.payload.length c6)=w14 at*
   go_fit (HD14.o.data un HX7.o HE8.o hun)
   rintro e w15 ⟨A7,c7,rfl,r,lc7,a,D,kk⟩
   have HR7:=hH r
   have HA7:=hH a
   have HD15:=hH D
   have HDT15:=hH (HDT13.o.keep kk (by simp))
   have HDT16:=hH (HDT14.o.keep kk (by simp))
   clear D r a kk
   have cw15_38:=HD15.o.cell 38
   have fw15_38:=HD15.o.frozen 38
   have cw15_44:=HD15.o.cl 44 (.bool pf)
   have HXP:Hd (xs.drop k8=optR pf pw []):=HX8.o
   cases pf
   ·go_wp2_with fail
    have HDT17:=hH ((HDT15.o.put HA0.o HD15.o.ne 38 (.slice A7 un.length c7)))
    have HDT18:=hH ((HDT16.o.put HA6.o HD15.o.ne 38 (.slice A7 un.length c7)))
    have HDT19:=hH ((HR7.o.put HA7.o HD15.o.ne 38 (.slice A7 un.length c7)))
    have HD16:=hH ((HD15.o.set 38 (.slice A7 un.length c7)))
    generalize (w15).setCell ⟨g,38,none⟩ (.slice A7 un.length c7)=w16 at*
    have hkf:=HD16.o.keeps
    go_ret
    rw[←HQ.o]
    refine⟨rfl,_,HD16.o.blk,?_,hkf⟩
    exact PkGot.of HD16.o.one (e39:=⟨A0,c0,by rw[HPNN.o];exact rfl,by rw[HPNN.o];exact HDT17.o,HA0.o⟩) (will:=.inr ⟨u,rfl,rfl,rfl,⟨A6,c6,rfl,HDT18.o,HA6.o⟩,(rfl).trans (congrArg (Value.int IntKind.u8) HW1.o),(rfl).trans (congrArg Value.bool HW2.o),by rw[HW5.o];exact rst_zero _ _ _ _ _ (pz (.inr rfl) (fun j h1 h2=>by simp only[dz,upd];repeat rw[if_neg (by omega)]))⟩) (user:=.inr ⟨un,rfl,rfl,A7,c7,rfl,HDT19.o,HA7.o⟩)
   ·have d8:xs.drop k8=lp pw++([]):=HXP.o
    obtain⟨k9,e9,d9,l9⟩:=pos_step (2+pw.length) d8 (lp_length _) (by omega) HNN.o
    have HX8:=hH d8
    have HX9:=hH d9
    have HE9:=hH e9
    clear d8 d9 e9
    go_wp2_with fail
    have HDT17:=hH ((HDT15.o.put HA0.o HD15.o.ne 38 (.slice A7 un.length c7)))
    have HDT18:=hH ((HDT16.o.put HA6.o HD15.o.ne 38 (.slice A7 un.length c7)))
    have HDT19:=hH ((HR7.o.put HA7.o HD15.o.ne 38 (.slice A7 un.length c7)))
    have HD16:=hH ((HD15.o.set 38 (.slice A7 un.length c7)))
    generalize (w15).setCell ⟨g,38,none⟩ (.slice A7 un.length c7)=w16 at*
    go_fit (HD16.o.data pw HX8.o HE9.o hpw)
    rintro e w17 ⟨A8,c8,rfl,r,lc8,a,D,kk⟩
    have HR8:=hH r
    have HA8:=hH a
    have HD17:=hH D
    have HDT20:=hH (HDT17.o.keep kk (by simp))
    have HDT21:=hH (HDT18.o.keep kk (by simp))
    have HDT22:=hH (HDT19.o.keep kk (by simp))
    clear D r a kk
    have cw17_37:=HD17.o.cell 37
    have fw17_37:=HD17.o.frozen 37
    go_wp2_with fail
    have HDT23:=hH ((HDT20.o.put HA0.o HD17.o.ne 37 (.slice A8 pw.length c8)))
    have HDT24:=hH ((HDT21.o.put HA6.o HD17.o.ne 37 (.slice A8 pw.length c8)))
    have HDT25:=hH ((HDT22.o.put HA7.o HD17.o.ne 37 (.slice A8 pw.length c8)))
    have HDT26:=hH ((HR8.o.put HA8.o HD17.o.ne 37 (.slice A8 pw.length c8)))
    have HD18:=hH ((HD17.o.set 37 (.slice A8 pw.length c8)))
    generalize (w17).setCell ⟨g,37,none⟩ (.slice A8 pw.length c8)=w18 at*
    have hkf:=HD18.o.keeps
    go_ret
    rw[←HQ.o]
    refine⟨rfl,_,HD18.o.blk,?_,hkf⟩
    exact PkGot.of HD18.o.one (e39:=⟨A0,c0,by rw[HPNN.o];exact rfl,by rw[HPNN.o];exact HDT23.o,HA0.o⟩) (will:=.inr ⟨u,rfl,rfl,rfl,⟨A6,c6,rfl,HDT24.o,HA6.o⟩,(rfl).trans (congrArg (Value.int IntKind.u8) HW1.o),(rfl).trans (congrArg Value.bool HW2.o),by rw[HW5.o];exact rst_zero _ _ _ _ _ (pz (.inr rfl) (fun j h1 h2=>by simp only[dz,upd];repeat rw[if_neg (by omega)]))⟩) (user:=.inr ⟨un,rfl,rfl,A7,c7,rfl,HDT25.o,HA7.o⟩) (pass:=.inr ⟨pw,rfl,rfl,A8,c8,rfl,HDT26.o,HA8.o⟩)
theorem connDec5_c (w:World) (g xb o c n rem:Nat) (xs:List UInt8) (qs:Int) (dup ret:Bool) (nm:ByteArray) (cl wf wr pf uf:Bool) (wq:Nat) (fb:UInt8) (ka:Nat) (l:List PropV) (cid:ByteArray) (u:WillV) (un pw:List UInt8) (D:DSt w g xb o c n xs (dz 1 qs dup ret 5 rem) w) (hxs:xs=lp nm.data.toList++([UInt8.ofNat 5]++([fb]++(be2 ka++(encPL l++(lp cid.data.toList++(willR true wf u (optR uf un (optR pf pw []))))))))) (hpn:nm.size<65536) (hwq:wq<3) (hfb:flagB cl wf wr pf uf wq=fb) (hka:ka<65536) (hP:ProperL 1 l) (hcid:TextOK cid) (hw:wf=true→(wq:Int)=u.qos∧wr=u.retain∧TextOK u.topic∧u.payload.length<65536∧ProperL 16 u.props) (hun:un.length<65536) (hpw:pw.length<65536):
 Calls prog 63 #[.pointer (some ⟨g,0,none⟩),.slice (some ⟨xb,o,none⟩) n c] w (DOut w g xb ({zp 1 5 l with qos:=qs,dup:=dup,retain:=ret,name:=nm,level:=5,client:=cid,clean:=cl,keep:=(ka:Int),will:=if wf then[u] else[],user:=if uf then[un] else[],pass:=if pf then[pw] else[]})):=by
 have d0:xs.drop 0=lp nm.data.toList++([UInt8.ofNat 5]++([fb]++(be2 ka++(encPL l++(lp cid.data.toList++(willR true wf u (optR uf un (optR pf pw [])))))))):=hxs
 have hcap:=D.cap
 have hxl:=D.len
 have hn:=D.hn
 have HD0:=hH D
 clear D hxs
 obtain⟨k1,e1,d1,l1⟩:=pos_step (2+nm.size) d0 (by simp[lp_length]) (by omega) hn
 obtain⟨k2,e2,d2,l2⟩:=pos_step (1) d1 (rfl) (by omega) hn
 obtain⟨k3,e3,d3,l3⟩:=pos_step (1) d2 (rfl) (by omega) hn
 obtain⟨k4,e4,d4,l4⟩:=pos_step (2) d3 (rfl) (by omega) hn
 obtain⟨k5,e5,d5,l5⟩:=pos_step ((encPL l).length) d4 (rfl) (encPL_pos _) hn
 obtain⟨k6,e6,d6,l6⟩:=pos_step (2+cid.size) d5 (by simp[lp_length]) (by omega) hn
 have HX0:=hH d0
 have HX1:=hH d1
 have HX2:=hH d2
 have HX3:=hH d3
 have HX4:=hH d4
 have HX5:=hH d5
 have HX6:=hH d6
 have HE1:=hH e1
 have HE2:=hH e2
 have HE3:=hH e3
 have HE4:=hH e4
 have HE5:=hH e5
 have HE6:=hH e6
 clear d0 d1 d2 d3 d4 d5 d6 e1 e2 e3 e4 e5 e6
 obtain⟨q,hq⟩:∃q,({zp 1 5 l with qos:=qs,dup:=dup,retain:=ret,name:=nm,level:=5,client:=cid,clean:=cl,keep:=(ka:Int),will:=if wf then[u] else[],user:=if uf then[un] else[],pass:=if pf then[pw] else[]}:PkV)=q:=⟨_,rfl⟩
 rw[hq]
 have HQ:=hH hq
 have HNN:=hH hn
 clear hq hn
 have HP:=hH hP
 clear hP
 have HCID:=hH hcid
 have HWI:=hH hw
 have hfr:=flags_read cl wf wr pf uf wq hwq
 rw[hfb] at hfr
 obtain⟨b1,b2,b3,b4,b5,b6,b7⟩:=hfr
 clear hcid hw hfb
 have hnl:nm.data.toList.length=nm.size:=by simp
 have HNL:=hH hnl
 have HPN:Hd (nm.data.toList.length<65536):=by show _<_;omega
 clear hnl
 obtain⟨pn,hpnn⟩:∃pn,nm.data.toList=pn:=⟨_,rfl⟩
 have HPNN:=hH hpnn
 rw[hpnn] at HX0 HNL HPN
 clear hpnn
 have HE1:Hd (0+(2+pn.length)=k1):=by show _=_;rw[HNL.o];exact HE1.o
 go_enter func63,ntmps63
 go_wp2_with fail
 go_fit (HD0.o.data pn HX0.o HE1.o HPN.o)
 rintro e w1 ⟨A0,c0,rfl,r,lc0,a,D,kk⟩
 have HR0:=hH r
 have HA0:=hH a
 have HD1:=hH D
 clear D r a kk
 have cw1_39:=HD1.o.cell 39
 have fw1_39:=HD1.o.frozen 39
 go_wp2_with fail
 have HDT1:=hH ((HR0.o.put HA0.o HD1.o.ne 39 (.slice A0 pn.length c0)))
 have HD2:=hH ((HD1.o.set 39 (.slice A0 pn.length c0)))
 generalize (w1).setCell ⟨g,39,none⟩ (.slice A0 pn.length c0)=w2 at*
 go_fit (HD2.o.byte (UInt8.ofNat 5) HX1.o HE2.o)
 rintro e w3 ⟨rfl,D,kk⟩
 have HD3:=hH D
 have HDT2:=hH (HDT1.o.keep kk (by simp))
 clear D kk
 have cw3_103:=HD3.o.cell 103
 have fw3_103:=HD3.o.frozen 103
 go_wp2_with fail
 have HDT3:=hH ((HDT2.o.put HA0.o HD3.o.ne 103 (.int .u8 5)))
 have HD4:=hH ((HD3.o.set 103 (.int .u8 5)))
 generalize (w3).setCell ⟨g,103,none⟩ (.int .u8 5)=w4 at*
 go_fit (HD4.o.byte fb HX2.o HE3.o)
 rintro e w5 ⟨rfl,D,kk⟩
 have HD5:=hH D
 have HDT4:=hH (HDT3.o.keep kk (by simp))
 clear D kk
 have cw5_106:=HD5.o.cell 106
 have fw5_106:=HD5.o.frozen 106
 have cw5_49:=HD5.o.cell 49
 have fw5_49:=HD5.o.frozen 49
 have cw5_47:=HD5.o.cell 47
 have fw5_47:=HD5.o.frozen 47
 have cw5_46:=HD5.o.cell 46
 have fw5_46:=HD5.o.frozen 46
 have cw5_48:=HD5.o.cell 48
 have fw5_48:=HD5.o.frozen 48
 have cw5_44:=HD5.o.cell 44
 have fw5_44:=HD5.o.frozen 44
 have cw5_45:=HD5.o.cell 45
 have fw5_45:=HD5.o.frozen 45
 go_wp2_with fail
 have HDT5:=hH ((((((((HDT4.o.put HA0.o HD5.o.ne 106 (.int .u8 0)).put HA0.o HD5.o.ne 49 (.bool cl)).put HA0.o HD5.o.ne 47 (.bool wf)).put HA0.o HD5.o.ne 46 (.int .u8 (wq:Int))).put HA0.o HD5.o.ne 48 (.bool wr)).put HA0.o HD5.o.ne 44 (.bool pf)).put HA0.o HD5.o.ne 45 (.bool uf)))
 have HD6:=hH ((((((((HD5.o.set 106 (.int .u8 0)).set 49 (.bool cl)).set 47 (.bool wf)).set 46 (.int .u8 (wq:Int))).set 48 (.bool wr)).set 44 (.bool pf)).set 45 (.bool uf)))
 generalize (((((((w5).setCell ⟨g,106,none⟩ (.int .u8 0)).setCell ⟨g,49,none⟩ (.bool cl)).setCell ⟨g,47,none⟩ (.bool wf)).setCell ⟨g,46,none⟩ (.int .u8 (wq:Int))).setCell ⟨g,48,none⟩ (.bool wr)).setCell ⟨g,44,none⟩ (.bool pf)).setCell ⟨g,45,none⟩ (.bool uf)=w6 at*
 have hpre:=HX3.o
 skip
 clear hpre
 go_fit (HD6.o.word ka HX3.o HE4.o hka)
 rintro e w7 ⟨rfl,D,kk⟩
 have HD7:=hH D
 have HDT6:=hH (HDT5.o.keep kk (by simp))
 clear D kk
 have cw7_43:=HD7.o.cell 43
 have fw7_43:=HD7.o.frozen 43
 have cw7_103:=HD7.o.cl 103 (.int .u8 5)
 go_wp2_with fail
 have HDT7:=hH ((HDT6.o.put HA0.o HD7.o.ne 43 (.int .u16 (ka:Int))))
 have HD8:=hH ((HD7.o.set 43 (.int .u16 (ka:Int))))
 generalize (w7).setCell ⟨g,43,none⟩ (.int .u16 (ka:Int))=w8 at*
 have hS:∀{f:Nat→Value} {w':World},DSt w g xb o c n xs f w'→f 93=.int .u8 1→w'.cell? ⟨g,93,none⟩=some (.int .u8 1):=fun D h=>by rw[D.cell 93,h]
 have hln:k4<n:=by have h1:=drop_le HX4.o (encPL_pos _);have h2:=encPL_pos (l);have:=HNN.o;omega
 have hnc:¬c=k4:=by omega
 obtain⟨pm,hpm⟩:∃m,(encPL (l)).length=m:=⟨_,rfl⟩
 have HPM:=hH hpm
 have hka:(k4:Int)+(pm:Int)=(k5:Int):=by have:=HE5.o;omega
 clear hpm
 refine tkStart (S:=fun w'=>w'.cell? ⟨g,93,none⟩=some (.int .u8 1)) (by kernel_rfl) (hS (HD8.o.keep (Keeps.drew w8)) (rfl)) (fun hHeld=>?_)
 simp only[s4,s5,Nat.reduceAdd,s6,s7]
 repeat((first|refine tkx ?_|refine tku ?_);simp only[setN,Act.put,s1,s2,s3])
 refine tkc fun K hK=>?_
 go_simp
 refine(DSt.newbuf (HD8.o.keep (Keeps.drew w8)) l4 HX4.o).mono ?_
 rintro e w9 ⟨bb,rfl,rb,hbb,D,kk1⟩
 have HRB:=hH rb
 have HD9:=hH D
 have HK1:=hH kk1
 clear D rb kk1
 refine hK.out _ _ (hS HD9.o (rfl)) (fun hHeld=>?_)
 clear hK K
 simp only[setN,Act.put,s1,s2,s3]
 repeat((first|refine tkx ?_|refine tku ?_);simp only[setN,Act.put,s1,s2,s3])
 refine tkc fun K hK=>?_
 go_simp
 refine(DSt.props HD9.o 50 1 HP.o (by omega) (pz (.inl rfl) (fun j h1 h2=>by simp only[dz,upd];repeat rw[if_neg (by omega)])) HRB.o (Nat.le_trans HD8.o.keeps.size hbb) (by have h1:=congrArg List.length HX5.o;have:=HNN.o;simp only[List.length_drop] at h1;omega) (pk:=1) (by rfl) HPM.o).mono ?_
 rintro e w10 ⟨rfl,f1,D,hfar,hst,kk2⟩
 have hf1:=hH hfar
 have HST1:=hH hst
 have HD10:=hH D
 have hkk:=((Keeps.drew _).trans HK1.o (by simp)).mono (S':=[g]) (by simp)
 have hkk:=hkk.trans kk2 (by simp;exact .inr hbb)
 have HDT8:=hH (HDT7.o.keep hkk (fun a ha=>by rw[HA0.o a ha];simpa using HD10.o.ne))
 clear D hfar hst kk2
 refine hK.out _ _ (hS HD10.o ((hf1.o 93 (by omega) (by omega)).trans (rfl))) (fun hHeld=>?_)
 clear hK K
 simp only[setN,Act.put,s1,s2,s3]
 repeat((first|refine tkx ?_|refine tku ?_);simp only[setN,Act.put,s1,s2,s3])
 refine tkDone (by kernel_rfl) ?_
 clear hHeld hS
 go_wp2_with fail
 go_fit (HD10.o.text cid HX5.o HE6.o HCID.o)
 rintro e w11 ⟨rfl,D,kk⟩
 have HD11:=hH D
 have HSR1:=hH (HST1.o.keep kk (by simp) (by simp))
 have HDT9:=hH (HDT8.o.keep kk (by simp))
 clear D kk
 have cw11_41:=HD11.o.cell 41
 have fw11_41:=HD11.o.frozen 41
 have cw11_47:=HD11.o.cl 47 (.bool wf) ((hf1.o 47 (by omega) (by omega)).trans (rfl))
 have cw11_45:=HD11.o.cl 45 (.bool uf) ((hf1.o 45 (by omega) (by omega)).trans (rfl))
 have cw11_44:=HD11.o.cl 44 (.bool pf) ((hf1.o 44 (by omega) (by omega)).trans (rfl))
 have cw11_103:=HD11.o.cl 103 (.int .u8 5) ((hf1.o 103 (by omega) (by omega)).trans (rfl))
 cases wf
 ·have HXW:Hd (xs.drop k6=optR uf un (optR pf pw [])):=HX6.o
  cases uf
  ·have HXP:Hd (xs.drop k6=optR pf pw []):=HXW.o
   cases pf
   ·go_wp2_with fail
    have HSR2:=hH ((HSR1.o.put (i:=41) (v:=.string cid) HD11.o.ne HD11.o.hg (by omega) (by omega)))
    have HDT10:=hH ((HDT9.o.put HA0.o HD11.o.ne 41 (.string cid)))
    have HD12:=hH ((HD11.o.set 41 (.string cid)))
    generalize (w11).setCell ⟨g,41,none⟩ (.string cid)=w12 at*
    have hkf:=HD12.o.keeps
    go_ret
    rw[←HQ.o]
    refine⟨rfl,_,HD12.o.blk,?_,hkf⟩
    exact PkGot.of HD12.o.one (st:=HSR2.o) (e39:=⟨A0,c0,by rw[HPNN.o];exact(hf1.o 39 (by omega) (by omega)).trans (rfl),by rw[HPNN.o];exact HDT10.o,HA0.o⟩)
   ·have d6:xs.drop k6=lp pw++([]):=HXP.o
    obtain⟨k7,e7,d7,l7⟩:=pos_step (2+pw.length) d6 (lp_length _) (by omega) HNN.o
    have HX6:=hH d6
    have HX7:=hH d7
    have HE7:=hH e7
    clear d6 d7 e7
    go_wp2_with fail
    have HSR2:=hH ((HSR1.o.put (i:=41) (v:=.string cid) HD11.o.ne HD11.o.hg (by omega) (by omega)))
    have HDT10:=hH ((HDT9.o.put HA0.o HD11.o.ne 41 (.string cid)))
    have HD12:=hH ((HD11.o.set 41 (.string cid)))
    generalize (w11).setCell ⟨g,41,none⟩ (.string cid)=w12 at*
    go_fit (HD12.o.data pw HX6.o HE7.o hpw)
    rintro e w13 ⟨A6,c6,rfl,r,lc6,a,D,kk⟩
    have HR6:=hH r
    have HA6:=hH a
    have HD13:=hH D
    have HSR3:=hH (HSR2.o.keep kk (by simp) (by simp))
    have HDT11:=hH (HDT10.o.keep kk (by simp))
    clear D r a kk
    have cw13_37:=HD13.o.cell 37
    have fw13_37:=HD13.o.frozen 37
    go_wp2_with fail
    have HSR4:=hH ((HSR3.o.put (i:=37) (v:=.slice A6 pw.length c6) HD13.o.ne HD13.o.hg (by omega) (by omega)))
    have HDT12:=hH ((HDT11.o.put HA0.o HD13.o.ne 37 (.slice A6 pw.length c6)))
    have HDT13:=hH ((HR6.o.put HA6.o HD13.o.ne 37 (.slice A6 pw.length c6)))
    have HD14:=hH ((HD13.o.set 37 (.slice A6 pw.length c6)))
    generalize (w13).setCell ⟨g,37,none⟩ (.slice A6 pw.length c6)=w14 at*
    have hkf:=HD14.o.keeps
    go_ret
    rw[←HQ.o]
    refine⟨rfl,_,HD14.o.blk,?_,hkf⟩
    exact PkGot.of HD14.o.one (st:=HSR4.o) (e39:=⟨A0,c0,by rw[HPNN.o];exact(hf1.o 39 (by omega) (by omega)).trans (rfl),by rw[HPNN.o];exact HDT12.o,HA0.o⟩) (pass:=.inr ⟨pw,rfl,(hf1.o 44 (by omega) (by omega)).trans (rfl),A6,c6,rfl,HDT13.o,HA6.o⟩)
  ·have d6:xs.drop k6=lp un++(optR pf pw []):=HXW.o
   obtain⟨k7,e7,d7,l7⟩:=pos_step (2+un.length) d6 (lp_length _) (by omega) HNN.o
   have HX6:=hH d6
   have HX7:=hH d7
   have HE7:=hH e7
   clear d6 d7 e7
   have hlu:¬(n:Int)≤(k6:Int):=by have h:=HE7.o;omega
   go_wp2_with fail
   have HSR2:=hH ((HSR1.o.put (i:=41) (v:=.string cid) HD11.o.ne HD11.o.hg (by omega) (by omega)))
   have HDT10:=hH ((HDT9.o.put HA0.o HD11.o.ne 41 (.string cid)))
   have HD12:=hH ((HD11.o.set 41 (.string cid)))
   generalize (w11).setCell ⟨g,41,none⟩ (.string cid)=w12 at*
   go_fit (HD12.o.data un HX6.o HE7.o hun)
   rintro e w13 ⟨A6,c6,rfl,r,lc6,a,D,kk⟩
   have HR6:=hH r
   have HA6:=hH a
   have HD13:=hH D
   have HSR3:=hH (HSR2.o.keep kk (by simp) (by simp))
   have HDT11:=hH (HDT10.o.keep kk (by simp))
   clear D r a kk
   have cw13_38:=HD13.o.cell 38
   have fw13_38:=HD13.o.frozen 38
   have cw13_44:=HD13.o.cl 44 (.bool pf) ((hf1.o 44 (by omega) (by omega)).trans (rfl))
   have HXP:Hd (xs.drop k7=optR pf pw []):=HX7.o
   cases pf
   ·go_wp2_with fail
    have HSR4:=hH ((HSR3.o.put (i:=38) (v:=.slice A6 un.length c6) HD13.o.ne HD13.o.hg (by omega) (by omega)))
    have HDT12:=hH ((HDT11.o.put HA0.o HD13.o.ne 38 (.slice A6 un.length c6)))
    have HDT13:=hH ((HR6.o.put HA6.o HD13.o.ne 38 (.slice A6 un.length c6)))
    have HD14:=hH ((HD13.o.set 38 (.slice A6 un.length c6)))
    generalize (w13).setCell ⟨g,38,none⟩ (.slice A6 un.length c6)=w14 at*
    have hkf:=HD14.o.keeps
    go_ret
    rw[←HQ.o]
    refine⟨rfl,_,HD14.o.blk,?_,hkf⟩
    exact PkGot.of HD14.o.one (st:=HSR4.o) (e39:=⟨A0,c0,by rw[HPNN.o];exact(hf1.o 39 (by omega) (by omega)).trans (rfl),by rw[HPNN.o];exact HDT12.o,HA0.o⟩) (user:=.inr ⟨un,rfl,(hf1.o 45 (by omega) (by omega)).trans (rfl),A6,c6,rfl,HDT13.o,HA6.o⟩)
   ·have d7:xs.drop k7=lp pw++([]):=HXP.o
    obtain⟨k8,e8,d8,l8⟩:=pos_step (2+pw.length) d7 (lp_length _) (by omega) HNN.o
    have HX7:=hH d7
    have HX8:=hH d8
    have HE8:=hH e8
    clear d7 d8 e8
    go_wp2_with fail
    have HSR4:=hH ((HSR3.o.put (i:=38) (v:=.slice A6 un.length c6) HD13.o.ne HD13.o.hg (by omega) (by omega)))
    have HDT12:=hH ((HDT11.o.put HA0.o HD13.o.ne 38 (.slice A6 un.length c6)))
    have HDT13:=hH ((HR6.o.put HA6.o HD13.o.ne 38 (.slice A6 un.length c6)))
    have HD14:=hH ((HD13.o.set 38 (.slice A6 un.length c6)))
    generalize (w13).setCell ⟨g,38,none⟩ (.slice A6 un.length c6)=w14 at*
    go_fit (HD14.o.data pw HX7.o HE8.o hpw)
    rintro e w15 ⟨A7,c7,rfl,r,lc7,a,D,kk⟩
    have HR7:=hH r
    have HA7:=hH a
    have HD15:=hH D
    have HSR5:=hH (HSR4.o.keep kk (by simp) (by simp))
    have HDT14:=hH (HDT12.o.keep kk (by simp))
    have HDT15:=hH (HDT13.o.keep kk (by simp))
    clear D r a kk
    have cw15_37:=HD15.o.cell 37
    have fw15_37:=HD15.o.frozen 37
    go_wp2_with fail
    have HSR6:=hH ((HSR5.o.put (i:=37) (v:=.slice A7 pw.length c7) HD15.o.ne HD15.o.hg (by omega) (by omega)))
    have HDT16:=hH ((HDT14.o.put HA0.o HD15.o.ne 37 (.slice A7 pw.length c7)))
    have HDT17:=hH ((HDT15.o.put HA6.o HD15.o.ne 37 (.slice A7 pw.length c7)))
    have HDT18:=hH ((HR7.o.put HA7.o HD15.o.ne 37 (.slice A7 pw.length c7)))
    have HD16:=hH ((HD15.o.set 37 (.slice A7 pw.length c7)))
    generalize (w15).setCell ⟨g,37,none⟩ (.slice A7 pw.length c7)=w16 at*
    have hkf:=HD16.o.keeps
    go_ret
    rw[←HQ.o]
    refine⟨rfl,_,HD16.o.blk,?_,hkf⟩
    exact PkGot.of HD16.o.one (st:=HSR6.o) (e39:=⟨A0,c0,by rw[HPNN.o];exact(hf1.o 39 (by omega) (by omega)).trans (rfl),by rw[HPNN.o];exact HDT16.o,HA0.o⟩) (user:=.inr ⟨un,rfl,(hf1.o 45 (by omega) (by omega)).trans (rfl),A6,c6,rfl,HDT17.o,HA6.o⟩) (pass:=.inr ⟨pw,rfl,(hf1.o 44 (by omega) (by omega)).trans (rfl),A7,c7,rfl,HDT18.o,HA7.o⟩)
 ·have d6:xs.drop k6=encPL u.props++(lp u.topic.data.toList++(lp u.payload++(optR uf un (optR pf pw [])))):=HX6.o
  obtain⟨k7,e7,d7,l7⟩:=pos_step ((encPL u.props).length) d6 (rfl) (encPL_pos _) HNN.o
  obtain⟨k8,e8,d8,l8⟩:=pos_step (2+u.topic.size) d7 (by simp[lp_length]) (by omega) HNN.o
  obtain⟨k9,e9,d9,l9⟩:=pos_step (2+u.payload.length) d8 (lp_length _) (by omega) HNN.o
  have HX6:=hH d6
  have HX7:=hH d7
  have HX8:=hH d8
  have HX9:=hH d9
  have HE7:=hH e7
  have HE8:=hH e8
  have HE9:=hH e9
  clear d6 d7 d8 d9 e7 e8 e9
  obtain⟨hw1,hw2,hw3,hw4,hw5⟩:=HWI.o rfl
  have HW1:=hH hw1
  have HW2:=hH hw2
  have HW3:=hH hw3
  have HW5:=hH hw5
  clear hw1 hw2 hw3 hw5
  go_wp2_with fail
  have HSR2:=hH ((HSR1.o.put (i:=41) (v:=.string cid) HD11.o.ne HD11.o.hg (by omega) (by omega)))
  have HDT10:=hH ((HDT9.o.put HA0.o HD11.o.ne 41 (.string cid)))
  have HD12:=hH ((HD11.o.set 41 (.string cid)))
  generalize (w11).setCell ⟨g,41,none⟩ (.string cid)=w12 at*
  have hS:∀{f:Nat→Value} {w':World},DSt w g xb o c n xs f w'→f 93=.int .u8 1→w'.cell? ⟨g,93,none⟩=some (.int .u8 1):=fun D h=>by rw[D.cell 93,h]
  have hln:k6<n:=by have h1:=drop_le HX6.o (encPL_pos _);have h2:=encPL_pos (u.props);have:=HNN.o;omega
  have hnc:¬c=k6:=by omega
  obtain⟨pmw,hpm⟩:∃m,(encPL (u.props)).length=m:=⟨_,rfl⟩
  have HPMw:=hH hpm
  have hkaw:(k6:Int)+(pmw:Int)=(k7:Int):=by have:=HE7.o;omega
  clear hpm
  refine tkStart (S:=fun w'=>w'.cell? ⟨g,93,none⟩=some (.int .u8 1)) (by kernel_rfl) (hS (HD12.o.keep (Keeps.drew w12)) ((hf1.o 93 (by omega) (by omega)).trans (rfl))) (fun hHeld=>?_)
  simp only[s4,s5,Nat.reduceAdd,s6,s7]
  repeat((first|refine tkx ?_|refine tku ?_);simp only[setN,Act.put,s1,s2,s3])
  refine tkc fun K hK=>?_
  go_simp
  refine(DSt.newbuf (HD12.o.keep (Keeps.drew w12)) l6 HX6.o).mono ?_
  rintro e w13 ⟨bb,rfl,rb,hbb,D,kk1⟩
  have HRB:=hH rb
  have HD13:=hH D
  have HK1:=hH kk1
  clear D rb kk1
  refine hK.out _ _ (hS HD13.o ((hf1.o 93 (by omega) (by omega)).trans (rfl))) (fun hHeld=>?_)
  clear hK K
  simp only[setN,Act.put,s1,s2,s3]
  repeat((first|refine tkx ?_|refine tku ?_);simp only[setN,Act.put,s1,s2,s3])
  refine tkc fun K hK=>?_
  go_simp
  refine(DSt.props HD13.o 0 16 HW5.o (by omega) (pz (.inr rfl) (fun j h1 h2=>by simp only[upd];(repeat rw[if_neg (by omega)]);rw[hf1.o j (by omega) (by omega)];simp only[dz,upd];repeat rw[if_neg (by omega)])) HRB.o (Nat.le_trans HD12.o.keeps.size hbb) (by have h1:=congrArg List.length HX7.o;have:=HNN.o;simp only[List.length_drop] at h1;omega) (pk:=99) (by rfl) HPMw.o).mono ?_
  rintro e w14 ⟨rfl,f2,D,hfar,hst,kk2⟩
  have hf2:=hH hfar
  have HST2:=hH hst
  have HD14:=hH D
  have hkk:=((Keeps.drew _).trans HK1.o (by simp)).mono (S':=[g]) (by simp)
  have hkk:=hkk.trans kk2 (by simp;exact .inr hbb)
  have HSR3:=hH ((HSR2.o.keep hkk (by simpa using HD14.o.ne) (by simp;exact .inl HD14.o.hg)).congr (cs':=arr f2) (fun j hj=>by rw[arr_get _ _ (by omega),arr_get _ _ (by omega)];exact congrArg some (hf2.o _ (by omega) (by omega))))
  have HDT11:=hH (HDT10.o.keep hkk (fun a ha=>by rw[HA0.o a ha];simpa using HD14.o.ne))
  clear D hfar hst kk2
  refine hK.out _ _ (hS HD14.o ((hf2.o 93 (by omega) (by omega)).trans ((hf1.o 93 (by omega) (by omega)).trans (rfl)))) (fun hHeld=>?_)
  clear hK K
  simp only[setN,Act.put,s1,s2,s3]
  repeat((first|refine tkx ?_|refine tku ?_);simp only[setN,Act.put,s1,s2,s3])
  refine tkDone (by kernel_rfl) ?_
  clear hHeld hS
  go_wp2_with fail
  go_fit (HD14.o.text u.topic HX7.o HE8.o HW3.o)
  rintro e w15 ⟨rfl,D,kk⟩
  have HD15:=hH D
  have HSR4:=hH (HSR3.o.keep kk (by simp) (by simp))
  have HSR5:=hH (HST2.o.keep kk (by simp) (by simp))
  have HDT12:=hH (HDT11.o.keep kk (by simp))
  clear D kk
  have cw15_42:=HD15.o.cell 42
  have fw15_42:=HD15.o.frozen 42
  go_wp2_with fail
  have HSR6:=hH ((HSR4.o.put (i:=42) (v:=.string u.topic) HD15.o.ne HD15.o.hg (by omega) (by omega)))
  have HSR7:=hH ((HSR5.o.put (i:=42) (v:=.string u.topic) HD15.o.ne HD15.o.hg (by omega) (by omega)))
  have HDT13:=hH ((HDT12.o.put HA0.o HD15.o.ne 42 (.string u.topic)))
  have HD16:=hH ((HD15.o.set 42 (.string u.topic)))
  generalize (w15).setCell ⟨g,42,none⟩ (.string u.topic)=w16 at*
  go_fit (HD16.o.data u.payload HX8.o HE9.o hw4)
  rintro e w17 ⟨A8,c8,rfl,r,lc8,a,D,kk⟩
  have HR8:=hH r
  have HA8:=hH a
  have HD17:=hH D
  have HSR8:=hH (HSR6.o.keep kk (by simp) (by simp))
  have HSR9:=hH (HSR7.o.keep kk (by simp) (by simp))
  have HDT14:=hH (HDT13.o.keep kk (by simp))
  clear D r a kk
  have cw17_40:=HD17.o.cell 40
  have fw17_40:=HD17.o.frozen 40
  have cw17_45:=HD17.o.cl 45 (.bool uf) ((hf2.o 45 (by omega) (by omega)).trans ((hf1.o 45 (by omega) (by omega)).trans (rfl)))
  have cw17_44:=HD17.o.cl 44 (.bool pf) ((hf2.o 44 (by omega) (by omega)).trans ((hf1.o 44 (by omega) (by omega)).trans (rfl)))
  have HXW:Hd (xs.drop k9=optR uf un (optR pf pw [])):=HX9.o
  cases uf
  ·have HXP:Hd (xs.drop k9=optR pf pw []):=HXW.o
   cases pf
   ·go_wp2_with fail
    have HSR10:=hH ((HSR8.o.put (i:=40) (v:=.slice A8 u.payload.length c8) HD17.o.ne HD17.o.hg (by omega) (by omega)))
    have HSR11:=hH ((HSR9.o.put (i:=40) (v:=.slice A8 u.payload.length c8) HD17.o.ne HD17.o.hg (by omega) (by omega)))
    have HDT15:=hH ((HDT14.o.put HA0.o HD17.o.ne 40 (.slice A8 u.payload.length c8)))
    have HDT16:=hH ((HR8.o.put HA8.o HD17.o.ne 40 (.slice A8 u.payload.length c8)))
    have HD18:=hH ((HD17.o.set 40 (.slice A8 u.payload.length c8)))
    generalize (w17).setCell ⟨g,40,none⟩ (.slice A8 u.payload.length c8)=w18 at*
    have hkf:=HD18.o.keeps
    go_ret
    rw[←HQ.o]
    refine⟨rfl,_,HD18.o.blk,?_,hkf⟩
    exact PkGot.of HD18.o.one (st:=HSR10.o) (e39:=⟨A0,c0,by rw[HPNN.o];exact(hf2.o 39 (by omega) (by omega)).trans ((hf1.o 39 (by omega) (by omega)).trans (rfl)),by rw[HPNN.o];exact HDT15.o,HA0.o⟩) (will:=.inr ⟨u,rfl,(hf2.o 47 (by omega) (by omega)).trans ((hf1.o 47 (by omega) (by omega)).trans (rfl)),rfl,⟨A8,c8,rfl,HDT16.o,HA8.o⟩,((hf2.o 46 (by omega) (by omega)).trans ((hf1.o 46 (by omega) (by omega)).trans (rfl))).trans (congrArg (Value.int IntKind.u8) HW1.o),((hf2.o 48 (by omega) (by omega)).trans ((hf1.o 48 (by omega) (by omega)).trans (rfl))).trans (congrArg Value.bool HW2.o),HSR11.o⟩)
   ·have d9:xs.drop k9=lp pw++([]):=HXP.o
    obtain⟨k10,e10,d10,l10⟩:=pos_step (2+pw.length) d9 (lp_length _) (by omega) HNN.o
    have HX9:=hH d9
    have HX10:=hH d10
    have HE10:=hH e10
    clear d9 d10 e10
    go_wp2_with fail
    have HSR10:=hH ((HSR8.o.put (i:=40) (v:=.slice A8 u.payload.length c8) HD17.o.ne HD17.o.hg (by omega) (by omega)))
    have HSR11:=hH ((HSR9.o.put (i:=40) (v:=.slice A8 u.payload.length c8) HD17.o.ne HD17.o.hg (by omega) (by omega)))
    have HDT15:=hH ((HDT14.o.put HA0.o HD17.o.ne 40 (.slice A8 u.payload.length c8)))
    have HDT16:=hH ((HR8.o.put HA8.o HD17.o.ne 40 (.slice A8 u.payload.length c8)))
    have HD18:=hH ((HD17.o.set 40 (.slice A8 u.payload.length c8)))
    generalize (w17).setCell ⟨g,40,none⟩ (.slice A8 u.payload.length c8)=w18 at*
    go_fit (HD18.o.data pw HX9.o HE10.o hpw)
    rintro e w19 ⟨A9,c9,rfl,r,lc9,a,D,kk⟩
    have HR9:=hH r
    have HA9:=hH a
    have HD19:=hH D
    have HSR12:=hH (HSR10.o.keep kk (by simp) (by simp))
    have HSR13:=hH (HSR11.o.keep kk (by simp) (by simp))
    have HDT17:=hH (HDT15.o.keep kk (by simp))
    have HDT18:=hH (HDT16.o.keep kk (by simp))
    clear D r a kk
    have cw19_37:=HD19.o.cell 37
    have fw19_37:=HD19.o.frozen 37
    go_wp2_with fail
    have HSR14:=hH ((HSR12.o.put (i:=37) (v:=.slice A9 pw.length c9) HD19.o.ne HD19.o.hg (by omega) (by omega)))
    have HSR15:=hH ((HSR13.o.put (i:=37) (v:=.slice A9 pw.length c9) HD19.o.ne HD19.o.hg (by omega) (by omega)))
    have HDT19:=hH ((HDT17.o.put HA0.o HD19.o.ne 37 (.slice A9 pw.length c9)))
    have HDT20:=hH ((HDT18.o.put HA8.o HD19.o.ne 37 (.slice A9 pw.length c9)))
    have HDT21:=hH ((HR9.o.put HA9.o HD19.o.ne 37 (.slice A9 pw.length c9)))
    have HD20:=hH ((HD19.o.set 37 (.slice A9 pw.length c9)))
    generalize (w19).setCell ⟨g,37,none⟩ (.slice A9 pw.length c9)=w20 at*
    have hkf:=HD20.o.keeps
    go_ret
    rw[←HQ.o]
    refine⟨rfl,_,HD20.o.blk,?_,hkf⟩
    exact PkGot.of HD20.o.one (st:=HSR14.o) (e39:=⟨A0,c0,by rw[HPNN.o];exact(hf2.o 39 (by omega) (by omega)).trans ((hf1.o 39 (by omega) (by omega)).trans (rfl)),by rw[HPNN.o];exact HDT19.o,HA0.o⟩) (will:=.inr ⟨u,rfl,(hf2.o 47 (by omega) (by omega)).trans ((hf1.o 47 (by omega) (by omega)).trans (rfl)),rfl,⟨A8,c8,rfl,HDT20.o,HA8.o⟩,((hf2.o 46 (by omega) (by omega)).trans ((hf1.o 46 (by omega) (by omega)).trans (rfl))).trans (congrArg (Value.int IntKind.u8) HW1.o),((hf2.o 48 (by omega) (by omega)).trans ((hf1.o 48 (by omega) (by omega)).trans (rfl))).trans (congrArg Value.bool HW2.o),HSR15.o⟩) (pass:=.inr ⟨pw,rfl,(hf2.o 44 (by omega) (by omega)).trans ((hf1.o 44 (by omega) (by omega)).trans (rfl)),A9,c9,rfl,HDT21.o,HA9.o⟩)
  ·have d9:xs.drop k9=lp un++(optR pf pw []):=HXW.o
   obtain⟨k10,e10,d10,l10⟩:=pos_step (2+un.length) d9 (lp_length _) (by omega) HNN.o
   have HX9:=hH d9
   have HX10:=hH d10
   have HE10:=hH e10
   clear d9 d10 e10
   have hlu:¬(n:Int)≤(k9:Int):=by have h:=HE10.o;omega
   go_wp2_with fail
   have HSR10:=hH ((HSR8.o.put (i:=40) (v:=.slice A8 u.payload.length c8) HD17.o.ne HD17.o.hg (by omega) (by omega)))
   have HSR11:=hH ((HSR9.o.put (i:=40) (v:=.slice A8 u.payload.length c8) HD17.o.ne HD17.o.hg (by omega) (by omega)))
   have HDT15:=hH ((HDT14.o.put HA0.o HD17.o.ne 40 (.slice A8 u.payload.length c8)))
   have HDT16:=hH ((HR8.o.put HA8.o HD17.o.ne 40 (.slice A8 u.payload.length c8)))
   have HD18:=hH ((HD17.o.set 40 (.slice A8 u.payload.length c8)))
   generalize (w17).setCell ⟨g,40,none⟩ (.slice A8 u.payload.length c8)=w18 at*
   go_fit (HD18.o.data un HX9.o HE10.o hun)
   rintro e w19 ⟨A9,c9,rfl,r,lc9,a,D,kk⟩
   have HR9:=hH r
   have HA9:=hH a
   have HD19:=hH D
   have HSR12:=hH (HSR10.o.keep kk (by simp) (by simp))
   have HSR13:=hH (HSR11.o.keep kk (by simp) (by simp))
   have HDT17:=hH (HDT15.o.keep kk (by simp))
   have HDT18:=hH (HDT16.o.keep kk (by simp))
   clear D r a kk
   have cw19_38:=HD19.o.cell 38
   have fw19_38:=HD19.o.frozen 38
   have cw19_44:=HD19.o.cl 44 (.bool pf) ((hf2.o 44 (by omega) (by omega)).trans ((hf1.o 44 (by omega) (by omega)).trans (rfl)))
   have HXP:Hd (xs.drop k10=optR pf pw []):=HX10.o
   cases pf
   ·go_wp2_with fail
    have HSR14:=hH ((HSR12.o.put (i:=38) (v:=.slice A9 un.length c9) HD19.o.ne HD19.o.hg (by omega) (by omega)))
    have HSR15:=hH ((HSR13.o.put (i:=38) (v:=.slice A9 un.length c9) HD19.o.ne HD19.o.hg (by omega) (by omega)))
    have HDT19:=hH ((HDT17.o.put HA0.o HD19.o.ne 38 (.slice A9 un.length c9)))
    have HDT20:=hH ((HDT18.o.put HA8.o HD19.o.ne 38 (.slice A9 un.length c9)))
    have HDT21:=hH ((HR9.o.put HA9.o HD19.o.ne 38 (.slice A9 un.length c9)))
    have HD20:=hH ((HD19.o.set 38 (.slice A9 un.length c9)))
    generalize (w19).setCell ⟨g,38,none⟩ (.slice A9 un.length c9)=w20 at*
    have hkf:=HD20.o.keeps
    go_ret
    rw[←HQ.o]
    refine⟨rfl,_,HD20.o.blk,?_,hkf⟩
    exact PkGot.of HD20.o.one (st:=HSR14.o) (e39:=⟨A0,c0,by rw[HPNN.o];exact(hf2.o 39 (by omega) (by omega)).trans ((hf1.o 39 (by omega) (by omega)).trans (rfl)),by rw[HPNN.o];exact HDT19.o,HA0.o⟩) (will:=.inr ⟨u,rfl,(hf2.o 47 (by omega) (by omega)).trans ((hf1.o 47 (by omega) (by omega)).trans (rfl)),rfl,⟨A8,c8,rfl,HDT20.o,HA8.o⟩,((hf2.o 46 (by omega) (by omega)).trans ((hf1.o 46 (by omega) (by omega)).trans (rfl))).trans (congrArg (Value.int IntKind.u8) HW1.o),((hf2.o 48 (by omega) (by omega)).trans ((hf1.o 48 (by omega) (by omega)).trans (rfl))).trans (congrArg Value.bool HW2.o),HSR15.o⟩) (user:=.inr ⟨un,rfl,(hf2.o 45 (by omega) (by omega)).trans ((hf1.o 45 (by omega) (by omega)).trans (rfl)),A9,c9,rfl,HDT21.o,HA9.o⟩)
   ·have d10:xs.drop k10=lp pw++([]):=HXP.o
    obtain⟨k11,e11,d11,l11⟩:=pos_step (2+pw.length) d10 (lp_length _) (by omega) HNN.o
    have HX10:=hH d10
    have HX11:=hH d11
    have HE11:=hH e11
    clear d10 d11 e11
    go_wp2_with fail
    have HSR14:=hH ((HSR12.o.put (i:=38) (v:=.slice A9 un.length c9) HD19.o.ne HD19.o.hg (by omega) (by omega)))
    have HSR15:=hH ((HSR13.o.put (i:=38) (v:=.slice A9 un.length c9) HD19.o.ne HD19.o.hg (by omega) (by omega)))
    have HDT19:=hH ((HDT17.o.put HA0.o HD19.o.ne 38 (.slice A9 un.length c9)))
    have HDT20:=hH ((HDT18.o.put HA8.o HD19.o.ne 38 (.slice A9 un.length c9)))
    have HDT21:=hH ((HR9.o.put HA9.o HD19.o.ne 38 (.slice A9 un.length c9)))
    have HD20:=hH ((HD19.o.set 38 (.slice A9 un.length c9)))
    generalize (w19).setCell ⟨g,38,none⟩ (.slice A9 un.length c9)=w20 at*
    go_fit (HD20.o.data pw HX10.o HE11.o hpw)
    rintro e w21 ⟨A10,c10,rfl,r,lc10,a,D,kk⟩
    have HR10:=hH r
    have HA10:=hH a
    have HD21:=hH D
    have HSR16:=hH (HSR14.o.keep kk (by simp) (by simp))
    have HSR17:=hH (HSR15.o.keep kk (by simp) (by simp))
    have HDT22:=hH (HDT19.o.keep kk (by simp))
    have HDT23:=hH (HDT20.o.keep kk (by simp))
    have HDT24:=hH (HDT21.o.keep kk (by simp))
    clear D r a kk
    have cw21_37:=HD21.o.cell 37
    have fw21_37:=HD21.o.frozen 37
    go_wp2_with fail
    have HSR18:=hH ((HSR16.o.put (i:=37) (v:=.slice A10 pw.length c10) HD21.o.ne HD21.o.hg (by omega) (by omega)))
    have HSR19:=hH ((HSR17.o.put (i:=37) (v:=.slice A10 pw.length c10) HD21.o.ne HD21.o.hg (by omega) (by omega)))
    have HDT25:=hH ((HDT22.o.put HA0.o HD21.o.ne 37 (.slice A10 pw.length c10)))
    have HDT26:=hH ((HDT23.o.put HA8.o HD21.o.ne 37 (.slice A10 pw.length c10)))
    have HDT27:=hH ((HDT24.o.put HA9.o HD21.o.ne 37 (.slice A10 pw.length c10)))
    have HDT28:=hH ((HR10.o.put HA10.o HD21.o.ne 37 (.slice A10 pw.length c10)))
    have HD22:=hH ((HD21.o.set 37 (.slice A10 pw.length c10)))
    generalize (w21).setCell ⟨g,37,none⟩ (.slice A10 pw.length c10)=w22 at*
    have hkf:=HD22.o.keeps
    go_ret
    rw[←HQ.o]
    refine⟨rfl,_,HD22.o.blk,?_,hkf⟩
    exact PkGot.of HD22.o.one (st:=HSR18.o) (e39:=⟨A0,c0,by rw[HPNN.o];exact(hf2.o 39 (by omega) (by omega)).trans ((hf1.o 39 (by omega) (by omega)).trans (rfl)),by rw[HPNN.o];exact HDT25.o,HA0.o⟩) (will:=.inr ⟨u,rfl,(hf2.o 47 (by omega) (by omega)).trans ((hf1.o 47 (by omega) (by omega)).trans (rfl)),rfl,⟨A8,c8,rfl,HDT26.o,HA8.o⟩,((hf2.o 46 (by omega) (by omega)).trans ((hf1.o 46 (by omega) (by omega)).trans (rfl))).trans (congrArg (Value.int IntKind.u8) HW1.o),((hf2.o 48 (by omega) (by omega)).trans ((hf1.o 48 (by omega) (by omega)).trans (rfl))).trans (congrArg Value.bool HW2.o),HSR19.o⟩) (user:=.inr ⟨un,rfl,(hf2.o 45 (by omega) (by omega)).trans ((hf1.o 45 (by omega) (by omega)).trans (rfl)),A9,c9,rfl,HDT27.o,HA9.o⟩) (pass:=.inr ⟨pw,rfl,(hf2.o 44 (by omega) (by omega)).trans ((hf1.o 44 (by omega) (by omega)).trans (rfl)),A10,c10,rfl,HDT28.o,HA10.o⟩)
end Go.Proofs.YtkglmacaecmhdaaGreatDoor
