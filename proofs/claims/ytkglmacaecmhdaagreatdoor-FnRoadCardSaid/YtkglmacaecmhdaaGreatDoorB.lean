/- FnRoad, part B: the walks of W7. -/
import Derived.BigQuiet
import Derived.Deep.QuietTactic
import Derived.Deep.DeepCutAuto
import Derived.Deep.DeepFit
import Derived.Test.YtkglmacaecmhdaaGreatDoorA
set_option linter.unusedVariables false
set_option linter.unusedSimpArgs false
set_option maxHeartbeats 40000000
set_option maxRecDepth 100000
namespace Go.Proofs.YtkglmacaecmhdaaGreatDoor
open Go Go.RowKit Tryz
theorem zB8 {p:Prop} (h:p:=by
 go_wp2_with fail
 go_meet
 case rel=>exact⟨d3,by rw[pre_succ,HS.o];simpa using hb3⟩
 ):p:=h
theorem zB0 {p:Prop} (h:p:=by
 rintro e w2 ⟨A,c,rfl,hr,hk,hA⟩
 have hb2:=hb1.post hk
 go_wp2_with fail
 refine(write_c _ _ _ _ _ _ _ _ hb2.buf hr (by simp[be2_length,be4_length,lp_length];omega)).mono ?_
 rintro e w3 ⟨rfl,d3,hB3⟩
 have hb3:=hb2.trans hB3
 exact zB8
 ):p:=h
theorem zB1 {p:Prop} (h:p:=by
 go_meet
 case rel=>exact⟨d1,by rw[pre_succ,hs,List.append_nil];exact hb⟩
 ):p:=h
theorem zB2 {p:Prop} (h:p:=by
 go_wp2_with fail
 refine(writeByte_c _ _ _ _ b _ rfl hb1.buf (by simp;omega)).mono ?_
 rintro e w2 ⟨rfl,d3,hB2⟩
 have hb3:=hb1.trans hB2
 exact zB8
 ):p:=h
theorem zB3 {p:Prop} (h:p:=by
 go_meet
 case rel=>exact⟨d1,by rw[pre_succ,HS.o,List.append_nil];exact hb⟩
 ):p:=h
theorem zB4 {p:Prop} (h:p:=by
 go_wp2_with fail
 refine(encodeString_c _ t ht1).mono ?_
 exact zB0
 ):p:=h
theorem zB5 {p:Prop} (h:p:=by
 go_wp2_with fail
 refine(encodeBytes_c _ A0 n1 c0 ys (hr0.keep (HKW.o.trans2 hb1.keeps) (fun a ha=>by have:=hA0 a ha;simp;omega)) (fun a ha=>Nat.lt_of_lt_of_le (hA0 a ha) (HKW.o.trans2 hb1.keeps).size) hn1).mono ?_
 exact zB0
 ):p:=h
theorem zB6 {p:Prop} (h:p:=by
 go_wp2_with fail
 refine(encodeUint32_c _ n1 hn1).mono ?_
 exact zB0
 ):p:=h
theorem zB7 {p:Prop} (h:p:=by
 go_wp2_with fail
 refine(encodeUint16_c _ n1 hn1).mono ?_
 exact zB0
 ):p:=h
theorem propsEncode_c (w:World) (g o bb:Nat) (n pkt:Int) (pc:Nat→Value) (s:Nat→List UInt8) (hc:Cells37 w g o pc) (hl:∀k,(s k).length≤4000000)
 (h1:PByteF pkt 1 (pc 20) (pc 19) (s 1))
 (h2:PLong pkt 2 (pc 11) (s 2))
 (h3:PText pkt 3 (pc 4) (s 3))
 (h4:PText pkt 8 (pc 5) (s 4))
 (h5:PData w pkt 9 (pc 0) (s 5))
 (h6:PNums w pkt (pc 1) (s 6))
 (h7:PLongF pkt 17 (pc 21) (pc 12) (s 7))
 (h8:PText pkt 18 (pc 6) (s 8))
 (h9:PWordF pkt 19 (pc 22) (pc 15) (s 9))
 (h10:PText pkt 21 (pc 7) (s 10))
 (h11:PData w pkt 22 (pc 2) (s 11))
 (h12:PByteF pkt 23 (pc 24) (pc 23) (s 12))
 (h13:PLong pkt 24 (pc 13) (s 13))
 (h14:PByte pkt 25 (pc 25) (s 14))
 (h15:PText pkt 26 (pc 8) (s 15))
 (h16:PText pkt 28 (pc 9) (s 16))
 (h17:PText pkt 31 (pc 10) (s 17))
 (h18:PWord pkt 33 (pc 16) (s 18))
 (h19:PWord pkt 34 (pc 17) (s 19))
 (h20:PWordFP pkt 35 (pc 26) (pc 18) (s 20))
 (h21:PByteF pkt 36 (pc 28) (pc 27) (s 21))
 (h22:PByteF pkt 37 (pc 30) (pc 29) (s 22))
 (h23:PUsers w pkt (pc 3) (s 23))
 (h24:PLong pkt 39 (pc 14) (s 24))
 (h25:PByteF pkt 40 (pc 32) (pc 31) (s 25))
 (h26:PByteF pkt 41 (pc 34) (pc 33) (s 26))
 (h27:PByteF pkt 42 (pc 36) (pc 35) (s 27))
 (hB:Buf w bb none []):
 Calls prog 85 #[.pointer (some ⟨g,o,none⟩),.int .u8 pkt,.agg #[.int .u32 0,.bool false,.bool true],.pointer (some ⟨bb,0,none⟩),.int .i64 n] w fun e w'=>e=.returned (.tuple #[])∧BufTo w bb none (vlen (pre s 27).length++pre s 27) w':=by
 have HC:=hH hc
 have HL:=hH hl
 clear hc hl
 have H1:=hH h1
 have H2:=hH h2
 have H3:=hH h3
 have H4:=hH h4
 have H5:=hH h5
 have H6:=hH h6
 have H7:=hH h7
 have H8:=hH h8
 have H9:=hH h9
 have H10:=hH h10
 have H11:=hH h11
 have H12:=hH h12
 have H13:=hH h13
 have H14:=hH h14
 have H15:=hH h15
 have H16:=hH h16
 have H17:=hH h17
 have H18:=hH h18
 have H19:=hH h19
 have H20:=hH h20
 have H21:=hH h21
 have H22:=hH h22
 have H23:=hH h23
 have H24:=hH h24
 have H25:=hH h25
 have H26:=hH h26
 have H27:=hH h27
 clear h1 h2 h3 h4 h5 h6 h7 h8 h9 h10 h11 h12 h13 h14 h15 h16 h17 h18 h19 h20 h21 h22 h23 h24 h25 h26 h27
 obtain⟨W,hW⟩:∃W,(w.alloc (.cells #[.int .u32 0,.bool false,.bool true] 84)).alloc (.cells #[.slice none 0 0] 111)=W:=⟨_,rfl⟩
 have HKW:Hd (Keeps [] w W):=by rw[←hW];exact(Keeps.alloc _ _).trans (Keeps.alloc _ _) (by simp)
 have HM:Hd (Blk W w.heap.size 84 #[.int .u32 0,.bool false,.bool true]):=by rw[←hW];exact(Blk.new _ _ _).alloc _
 have HB0:Hd (Buf W (w.heap.size+1) none []):=by rw[←hW];have:=Buf.new (w.alloc (.cells #[.int .u32 0,.bool false,.bool true] 84));show Buf _ _ _ _;simpa using this
 have HWS:Hd (W.heap.size=w.heap.size+2):=by rw[←hW];show _=_;simp
 have HW:=hH hW
 clear hW
 go_enter func85,ntmps85
 go_upto_region 2 with fail
 go_cut [10] from 17 to 19 (fun s10 wc=>s10=.pointer (some ⟨w.heap.size+1,0,none⟩)∧BufTo W (w.heap.size+1) none (pre s 0) wc)
 case first=>
  go_wp2_with fail
  go_meet
  case rel=>exact⟨rfl,none,by have:=HW.o;subst this;exact BufAt.refl HB0.o⟩
 case rest=>
 obtain⟨rfl,d1,hb⟩:=hcut
 go_step
 go_step
 go_cut [] from 20 to 36 (fun wc=>BufTo W (w.heap.size+1) none (pre s 1) wc)
 case first=>
  as_aux_lemma=>
   have hx:=pre_le s HL.o 0
   have c20wc:=(HC.o.keep HKW.o (by omega) hb).at_ 20 (by omega);have c19wc:=(HC.o.keep HKW.o (by omega) hb).at_ 19 (by omega)
   cases hv:vpp 1 pkt with
   |false=>
    have hs:=H1.o.absent hv
    go_wp2_with (go_at_call 102;refine ce 1 ?_)
    exact zB1
   |true=>
    rcases H1.o with⟨e1,hs⟩|⟨e1,_,b,e2,hb2,hs⟩
    ·have HS:=hH hs
     clear hs
     go_wp2_with (go_at_call 102;refine ce 1 ?_)
     exact zB3
    ·have HS:=hH hs
     clear hs
     go_wp2_with (go_at_call 102;refine ce 1 ?_)
     refine(writeByte_c _ _ _ _ (UInt8.ofNat 1) _ (by decide) hb.buf (by omega)).mono ?_
     rintro e w1 ⟨rfl,d2,hB1⟩
     have hb1:=hb.trans hB1
     have c19w1:=(HC.o.keep HKW.o (by omega) hb1).at_ 19 (by omega)
     exact zB2
 case rest=>
 clear hb
 obtain⟨d1,hb⟩:=hcut
 go_step
 go_step
 go_cut [] from 37 to 55 (fun wc=>BufTo W (w.heap.size+1) none (pre s 2) wc)
 case first=>
  as_aux_lemma=>
   have hx:=pre_le s HL.o 1
   have c11wc:=(HC.o.keep HKW.o (by omega) hb).at_ 11 (by omega)
   cases hv:vpp 2 pkt with
   |false=>
    have hs:=H2.o.absent hv
    go_wp2_with (go_at_call 102;refine ce 2 ?_)
    exact zB1
   |true=>
    rcases H2.o with⟨e1,hs⟩|⟨_,n1,e2,hn0,hn1,hs⟩
    ·have HS:=hH hs
     clear hs
     go_wp2_with (go_at_call 102;refine ce 2 ?_)
     exact zB3
    ·have HS:=hH hs
     clear hs
     go_wp2_with (go_at_call 102;refine ce 2 ?_)
     refine(writeByte_c _ _ _ _ (UInt8.ofNat 2) _ (by decide) hb.buf (by omega)).mono ?_
     rintro e w1 ⟨rfl,d2,hB1⟩
     have hb1:=hb.trans hB1
     have c11w1:=(HC.o.keep HKW.o (by omega) hb1).at_ 11 (by omega)
     exact zB6
 case rest=>
 clear hb
 obtain⟨d1,hb⟩:=hcut
 go_step
 go_step
 go_cut [] from 56 to 74 (fun wc=>BufTo W (w.heap.size+1) none (pre s 3) wc)
 case first=>
  as_aux_lemma=>
   have hx:=pre_le s HL.o 2
   have c4wc:=(HC.o.keep HKW.o (by omega) hb).at_ 4 (by omega)
   cases hv:vpp 3 pkt with
   |false=>
    have hs:=H3.o.absent hv
    go_wp2_with (go_at_call 102;refine ce 3 ?_)
    exact zB1
   |true=>
    rcases H3.o with⟨e1,hs⟩|⟨_,t,e2,ht0,ht1,hwild,hs⟩
    ·have HS:=hH hs
     clear hs
     go_wp2_with (go_at_call 102;refine ce 3 ?_)
     exact zB3
    ·have HS:=hH hs
     clear hs
     clear hwild
     have hte:t.toList.isEmpty=false:=tl_ne ht0
     have hte2:¬t.toList=[]:=tl_ne2 ht0
     go_wp2_with (go_at_call 102;refine ce 3 ?_)
     refine(writeByte_c _ _ _ _ (UInt8.ofNat 3) _ (by decide) hb.buf (by omega)).mono ?_
     rintro e w1 ⟨rfl,d2,hB1⟩
     have hb1:=hb.trans hB1
     have c4w1:=(HC.o.keep HKW.o (by omega) hb1).at_ 4 (by omega)
     exact zB4
 case rest=>
 clear hb
 obtain⟨d1,hb⟩:=hcut
 go_step
 go_step
 go_cut [] from 75 to 105 (fun wc=>BufTo W (w.heap.size+1) none (pre s 4) wc)
 case first=>
  as_aux_lemma=>
   have hx:=pre_le s HL.o 3
   have c5wc:=(HC.o.keep HKW.o (by omega) hb).at_ 5 (by omega);have m2wc:wc.cell? ⟨w.heap.size,2,none⟩=some (.bool true):=(by rw[(HM.o.keep hb.keeps (by simp)).cell];rfl)
   cases hv:vpp 8 pkt with
   |false=>
    have hs:=H4.o.absent hv
    go_wp2_with (go_at_call 102;refine ce 8 ?_)
    exact zB1
   |true=>
    rcases H4.o with⟨e1,hs⟩|⟨_,t,e2,ht0,ht1,hwild,hs⟩
    ·have HS:=hH hs
     clear hs
     go_wp2_with (go_at_call 102;refine ce 8 ?_)
     exact zB3
    ·have HS:=hH hs
     clear hs
     have hw8:Hd (NoWild t):=hwild rfl
     clear hwild
     have hte:t.toList.isEmpty=false:=tl_ne ht0
     have hte2:¬t.toList=[]:=tl_ne2 ht0
     go_wp2_with (first|(go_at_call 104;refine(hasWildcard_c _ t hw8.o ht1).mono ?_;rintro e w' ⟨rfl,rfl⟩)|(go_at_call 102;refine ce 8 ?_))
     refine(writeByte_c _ _ _ _ (UInt8.ofNat 8) _ (by decide) hb.buf (by omega)).mono ?_
     rintro e w1 ⟨rfl,d2,hB1⟩
     have hb1:=hb.trans hB1
     have c5w1:=(HC.o.keep HKW.o (by omega) hb1).at_ 5 (by omega)
     exact zB4
 case rest=>
 clear hb
 obtain⟨d1,hb⟩:=hcut
 go_step
 go_step
 go_cut [] from 106 to 129 (fun wc=>BufTo W (w.heap.size+1) none (pre s 5) wc)
 case first=>
  as_aux_lemma=>
   have hx:=pre_le s HL.o 4
   have c0wc:wc.cell? ⟨g,o,none⟩=some (pc 0):=(HC.o.keep HKW.o (by omega) hb).at_ 0 (by omega);have m2wc:wc.cell? ⟨w.heap.size,2,none⟩=some (.bool true):=(by rw[(HM.o.keep hb.keeps (by simp)).cell];rfl)
   cases hv:vpp 9 pkt with
   |false=>
    have hs:=H5.o.absent hv
    go_wp2_with (go_at_call 102;refine ce 9 ?_)
    exact zB1
   |true=>
    rcases H5.o with⟨A0,c0,e1,hs⟩|⟨_,A0,n1,c0,ys,e2,hr0,hA0,hn0,hn1,hs⟩
    ·have HS:=hH hs
     clear hs
     go_wp2_with (go_at_call 102;refine ce 9 ?_)
     exact zB3
    ·have HS:=hH hs
     clear hs
     have hny:ys.length≤n1:=by have h:=hr0.1;rw[bvs_length] at h;omega
     have hny:ys.length≤n1:=by have h:=hr0.1;rw[bvs_length] at h;omega
     go_wp2_with (go_at_call 102;refine ce 9 ?_)
     refine(writeByte_c _ _ _ _ (UInt8.ofNat 9) _ (by decide) hb.buf (by omega)).mono ?_
     rintro e w1 ⟨rfl,d2,hB1⟩
     have hb1:=hb.trans hB1
     have c0w1:w1.cell? ⟨g,o,none⟩=some (pc 0):=(HC.o.keep HKW.o (by omega) hb1).at_ 0 (by omega)
     exact zB5
 case rest=>
 clear hb
 obtain⟨d1,hb⟩:=hcut
 go_step
 go_step
 go_cut [] from 130 to 157 (fun wc=>BufTo W (w.heap.size+1) none (pre s 6) wc)
 case first=>
  as_aux_lemma=>
   have hx:=pre_le s HL.o 5
   have c1wc:=(HC.o.keep HKW.o (by omega) hb).at_ 1 (by omega)
   cases hv:vpp 11 pkt with
   |false=>
    have hs:=H6.o.absent hv
    go_wp2_with (go_at_call 102;refine ce 11 ?_)
    exact zB1
   |true=>
    obtain⟨A0,c0,ns,e1,hr0,hA0,hns,hlen,_,hs⟩:=H6.o
    have HS:=hH hs
    have HN:=hH hns
    clear hs hns
    by_cases hnil:ns.length=0
    ·obtain rfl:ns=[]:=List.eq_nil_of_length_eq_zero hnil
     clear hnil
     go_wp2_with (go_at_call 102;refine ce 11 ?_)
     go_meet
     case rel=>exact⟨d1,by rw[pre_succ,HS.o];simpa using hb⟩
    ·obtain⟨b0,o0,rfl,hcl⟩:=hr0.2 (by omega)
     have HCL:=hH hcl
     have hpos:0<ns.length:=by omega
     have hposz:(0:Int)<(ns.length:Int):=by omega
     have hb0:=hA0 _ rfl
     clear hcl hnil hr0 hA0
     have hb0':b0<w.heap.size:=hb0
     go_wp2_with (go_at_call 102;refine ce 11 ?_)
     go_loopg [146] (ns.length+1) (fun gk i wr=>∃k d',i=.int .i64 ((k:Nat):Int)∧k≤ns.length∧ns.length<gk+k∧BufAt W (w.heap.size+1) none d' (pre s 5++(ns.take k).flatMap fun n=>11::vlen n) wr)
     case atStart=>exact⟨0,d1,rfl,by omega,by omega,by simpa using hb⟩
     case round=>
      obtain⟨k,d2,rfl,hk,hgk,hbr⟩:=hrel
      by_cases hlt:k<ns.length
      ·obtain⟨g',rfl⟩:∃g',gk=g'+1:=⟨gk-1,by omega⟩
       have hltz:(k:Int)<(ns.length:Int):=by omega
       obtain⟨v,hv⟩:∃v,ns[k]=v:=⟨_,rfl⟩
       have hvv:=HN.o v (by rw[←hv];exact List.getElem_mem _)
       obtain⟨hv0,hv1⟩:=hvv
       have hv0z:(0:Int)<(v:Int):=by omega
       have hcx:wr.cell? ⟨b0,o0+k,none⟩=some (.int .i64 (v:Int)):=(HKW.o.trans2 hbr.keeps).some_ (HCL.o k _ (by rw[List.getElem?_map,List.getElem?_eq_getElem hlt,hv];rfl)) (by simp;omega)
       have htk:Hd ((ns.take (k+1)).flatMap (fun n=>(11:UInt8)::vlen n)=(ns.take k).flatMap (fun n=>(11:UInt8)::vlen n)++(11::vlen v)):=by
        rw[List.take_succ_eq_append_getElem hlt,List.flatMap_append,hv];show _=_;simp
       have hxl:(pre s 5++(ns.take k).flatMap fun n=>11::vlen n).length≤40000000:=by
        have h1:=flat_le (ns.take k) (fun n=>(11:UInt8)::vlen n) 5 (fun n hn=>by have:=vlen_le n (HN.o n (List.mem_of_mem_take hn)).2;simp;omega)
        simp only[List.length_append,List.length_take] at h1 ⊢
        have:min k ns.length*5≤100:=by have:min k ns.length≤20:=(by omega);omega
        omega
       clear hv
       generalize hX:(pre s 5++(ns.take k).flatMap fun n=>(11:UInt8)::vlen n)=X at hbr hxl
       have HX:=hH hX
       clear hX
       go_wp2_with fail
       refine(writeByte_c _ _ _ _ 11 _ (by decide) hbr.buf (by omega)).mono ?_
       rintro e w1 ⟨rfl,d3,hB1⟩
       have hb1:=hbr.trans hB1
       go_wp2_with fail
       refine(encodeLength_c _ _ _ _ v hv1 hb1.buf (by simp;omega)).mono ?_
       rintro e w2 ⟨rfl,d4,hB2⟩
       have hb2:=hb1.trans hB2
       go_wp2_with fail
       go_roundg g'
       case measure=>omega
       case rel=>exact⟨k+1,d4,by go_num,by omega,by omega,by rw[htk.o,←List.append_assoc,HX.o];simpa using hb2⟩
      ·go_wp2_with fail
       go_meet
       case rel=>exact⟨d2,by rw[pre_succ,HS.o];rw[List.take_of_length_le (by omega)] at hbr;exact hbr⟩
 case rest=>
 clear hb
 obtain⟨d1,hb⟩:=hcut
 go_step
 go_step
 go_cut [] from 158 to 175 (fun wc=>BufTo W (w.heap.size+1) none (pre s 7) wc)
 case first=>
  as_aux_lemma=>
   have hx:=pre_le s HL.o 6
   have c21wc:=(HC.o.keep HKW.o (by omega) hb).at_ 21 (by omega);have c12wc:=(HC.o.keep HKW.o (by omega) hb).at_ 12 (by omega)
   cases hv:vpp 17 pkt with
   |false=>
    have hs:=H7.o.absent hv
    go_wp2_with (go_at_call 102;refine ce 17 ?_)
    exact zB1
   |true=>
    rcases H7.o with⟨e1,hs⟩|⟨e1,_,n1,e2,hn1,hs⟩
    ·have HS:=hH hs
     clear hs
     go_wp2_with (go_at_call 102;refine ce 17 ?_)
     exact zB3
    ·have HS:=hH hs
     clear hs
     go_wp2_with (go_at_call 102;refine ce 17 ?_)
     refine(writeByte_c _ _ _ _ (UInt8.ofNat 17) _ (by decide) hb.buf (by omega)).mono ?_
     rintro e w1 ⟨rfl,d2,hB1⟩
     have hb1:=hb.trans hB1
     have c12w1:=(HC.o.keep HKW.o (by omega) hb1).at_ 12 (by omega)
     exact zB6
 case rest=>
 clear hb
 obtain⟨d1,hb⟩:=hcut
 go_step
 go_step
 go_cut [] from 176 to 194 (fun wc=>BufTo W (w.heap.size+1) none (pre s 8) wc)
 case first=>
  as_aux_lemma=>
   have hx:=pre_le s HL.o 7
   have c6wc:=(HC.o.keep HKW.o (by omega) hb).at_ 6 (by omega)
   cases hv:vpp 18 pkt with
   |false=>
    have hs:=H8.o.absent hv
    go_wp2_with (go_at_call 102;refine ce 18 ?_)
    exact zB1
   |true=>
    rcases H8.o with⟨e1,hs⟩|⟨_,t,e2,ht0,ht1,hwild,hs⟩
    ·have HS:=hH hs
     clear hs
     go_wp2_with (go_at_call 102;refine ce 18 ?_)
     exact zB3
    ·have HS:=hH hs
     clear hs
     clear hwild
     have hte:t.toList.isEmpty=false:=tl_ne ht0
     have hte2:¬t.toList=[]:=tl_ne2 ht0
     go_wp2_with (go_at_call 102;refine ce 18 ?_)
     refine(writeByte_c _ _ _ _ (UInt8.ofNat 18) _ (by decide) hb.buf (by omega)).mono ?_
     rintro e w1 ⟨rfl,d2,hB1⟩
     have hb1:=hb.trans hB1
     have c6w1:=(HC.o.keep HKW.o (by omega) hb1).at_ 6 (by omega)
     exact zB4
 case rest=>
 clear hb
 obtain⟨d1,hb⟩:=hcut
 go_step
 go_step
 go_cut [] from 195 to 212 (fun wc=>BufTo W (w.heap.size+1) none (pre s 9) wc)
 case first=>
  as_aux_lemma=>
   have hx:=pre_le s HL.o 8
   have c22wc:=(HC.o.keep HKW.o (by omega) hb).at_ 22 (by omega);have c15wc:=(HC.o.keep HKW.o (by omega) hb).at_ 15 (by omega)
   cases hv:vpp 19 pkt with
   |false=>
    have hs:=H9.o.absent hv
    go_wp2_with (go_at_call 102;refine ce 19 ?_)
    exact zB1
   |true=>
    rcases H9.o with⟨e1,hs⟩|⟨e1,_,n1,e2,hn1,hs⟩
    ·have HS:=hH hs
     clear hs
     go_wp2_with (go_at_call 102;refine ce 19 ?_)
     exact zB3
    ·have HS:=hH hs
     clear hs
     go_wp2_with (go_at_call 102;refine ce 19 ?_)
     refine(writeByte_c _ _ _ _ (UInt8.ofNat 19) _ (by decide) hb.buf (by omega)).mono ?_
     rintro e w1 ⟨rfl,d2,hB1⟩
     have hb1:=hb.trans hB1
     have c15w1:=(HC.o.keep HKW.o (by omega) hb1).at_ 15 (by omega)
     exact zB7
 case rest=>
 clear hb
 obtain⟨d1,hb⟩:=hcut
 go_step
 go_step
 go_cut [] from 213 to 231 (fun wc=>BufTo W (w.heap.size+1) none (pre s 10) wc)
 case first=>
  as_aux_lemma=>
   have hx:=pre_le s HL.o 9
   have c7wc:=(HC.o.keep HKW.o (by omega) hb).at_ 7 (by omega)
   cases hv:vpp 21 pkt with
   |false=>
    have hs:=H10.o.absent hv
    go_wp2_with (go_at_call 102;refine ce 21 ?_)
    exact zB1
   |true=>
    rcases H10.o with⟨e1,hs⟩|⟨_,t,e2,ht0,ht1,hwild,hs⟩
    ·have HS:=hH hs
     clear hs
     go_wp2_with (go_at_call 102;refine ce 21 ?_)
     exact zB3
    ·have HS:=hH hs
     clear hs
     clear hwild
     have hte:t.toList.isEmpty=false:=tl_ne ht0
     have hte2:¬t.toList=[]:=tl_ne2 ht0
     go_wp2_with (go_at_call 102;refine ce 21 ?_)
     refine(writeByte_c _ _ _ _ (UInt8.ofNat 21) _ (by decide) hb.buf (by omega)).mono ?_
     rintro e w1 ⟨rfl,d2,hB1⟩
     have hb1:=hb.trans hB1
     have c7w1:=(HC.o.keep HKW.o (by omega) hb1).at_ 7 (by omega)
     exact zB4
 case rest=>
 clear hb
 obtain⟨d1,hb⟩:=hcut
 go_step
 go_step
 go_cut [] from 232 to 251 (fun wc=>BufTo W (w.heap.size+1) none (pre s 11) wc)
 case first=>
  as_aux_lemma=>
   have hx:=pre_le s HL.o 10
   have c2wc:=(HC.o.keep HKW.o (by omega) hb).at_ 2 (by omega)
   cases hv:vpp 22 pkt with
   |false=>
    have hs:=H11.o.absent hv
    go_wp2_with (go_at_call 102;refine ce 22 ?_)
    exact zB1
   |true=>
    rcases H11.o with⟨A0,c0,e1,hs⟩|⟨_,A0,n1,c0,ys,e2,hr0,hA0,hn0,hn1,hs⟩
    ·have HS:=hH hs
     clear hs
     go_wp2_with (go_at_call 102;refine ce 22 ?_)
     exact zB3
    ·have HS:=hH hs
     clear hs
     have hny:ys.length≤n1:=by have h:=hr0.1;rw[bvs_length] at h;omega
     have hny:ys.length≤n1:=by have h:=hr0.1;rw[bvs_length] at h;omega
     go_wp2_with (go_at_call 102;refine ce 22 ?_)
     refine(writeByte_c _ _ _ _ (UInt8.ofNat 22) _ (by decide) hb.buf (by omega)).mono ?_
     rintro e w1 ⟨rfl,d2,hB1⟩
     have hb1:=hb.trans hB1
     have c2w1:=(HC.o.keep HKW.o (by omega) hb1).at_ 2 (by omega)
     exact zB5
 case rest=>
 clear hb
 obtain⟨d1,hb⟩:=hcut
 go_step
 go_step
 go_cut [] from 252 to 268 (fun wc=>BufTo W (w.heap.size+1) none (pre s 12) wc)
 case first=>
  as_aux_lemma=>
   have hx:=pre_le s HL.o 11
   have c24wc:=(HC.o.keep HKW.o (by omega) hb).at_ 24 (by omega);have c23wc:=(HC.o.keep HKW.o (by omega) hb).at_ 23 (by omega)
   cases hv:vpp 23 pkt with
   |false=>
    have hs:=H12.o.absent hv
    go_wp2_with (go_at_call 102;refine ce 23 ?_)
    exact zB1
   |true=>
    rcases H12.o with⟨e1,hs⟩|⟨e1,_,b,e2,hb2,hs⟩
    ·have HS:=hH hs
     clear hs
     go_wp2_with (go_at_call 102;refine ce 23 ?_)
     exact zB3
    ·have HS:=hH hs
     clear hs
     go_wp2_with (go_at_call 102;refine ce 23 ?_)
     refine(writeByte_c _ _ _ _ (UInt8.ofNat 23) _ (by decide) hb.buf (by omega)).mono ?_
     rintro e w1 ⟨rfl,d2,hB1⟩
     have hb1:=hb.trans hB1
     have c23w1:=(HC.o.keep HKW.o (by omega) hb1).at_ 23 (by omega)
     exact zB2
 case rest=>
 clear hb
 obtain⟨d1,hb⟩:=hcut
 go_step
 go_step
 go_cut [] from 269 to 287 (fun wc=>BufTo W (w.heap.size+1) none (pre s 13) wc)
 case first=>
  as_aux_lemma=>
   have hx:=pre_le s HL.o 12
   have c13wc:=(HC.o.keep HKW.o (by omega) hb).at_ 13 (by omega)
   cases hv:vpp 24 pkt with
   |false=>
    have hs:=H13.o.absent hv
    go_wp2_with (go_at_call 102;refine ce 24 ?_)
    exact zB1
   |true=>
    rcases H13.o with⟨e1,hs⟩|⟨_,n1,e2,hn0,hn1,hs⟩
    ·have HS:=hH hs
     clear hs
     go_wp2_with (go_at_call 102;refine ce 24 ?_)
     exact zB3
    ·have HS:=hH hs
     clear hs
     go_wp2_with (go_at_call 102;refine ce 24 ?_)
     refine(writeByte_c _ _ _ _ (UInt8.ofNat 24) _ (by decide) hb.buf (by omega)).mono ?_
     rintro e w1 ⟨rfl,d2,hB1⟩
     have hb1:=hb.trans hB1
     have c13w1:=(HC.o.keep HKW.o (by omega) hb1).at_ 13 (by omega)
     exact zB6
 case rest=>
 clear hb
 obtain⟨d1,hb⟩:=hcut
 go_step
 go_step
 go_cut [] from 288 to 305 (fun wc=>BufTo W (w.heap.size+1) none (pre s 14) wc)
 case first=>
  as_aux_lemma=>
   have hx:=pre_le s HL.o 13
   have c25wc:=(HC.o.keep HKW.o (by omega) hb).at_ 25 (by omega)
   cases hv:vpp 25 pkt with
   |false=>
    have hs:=H14.o.absent hv
    go_wp2_with (go_at_call 102;refine ce 25 ?_)
    exact zB1
   |true=>
    rcases H14.o with⟨e1,hs⟩|⟨_,b,e2,hb2,hs⟩
    ·have HS:=hH hs
     clear hs
     go_wp2_with (go_at_call 102;refine ce 25 ?_)
     exact zB3
    ·have HS:=hH hs
     clear hs
     go_wp2_with (go_at_call 102;refine ce 25 ?_)
     refine(writeByte_c _ _ _ _ (UInt8.ofNat 25) _ (by decide) hb.buf (by omega)).mono ?_
     rintro e w1 ⟨rfl,d2,hB1⟩
     have hb1:=hb.trans hB1
     have c25w1:=(HC.o.keep HKW.o (by omega) hb1).at_ 25 (by omega)
     exact zB2
 case rest=>
 clear hb
 obtain⟨d1,hb⟩:=hcut
 go_step
 go_step
 go_cut [] from 306 to 329 (fun wc=>BufTo W (w.heap.size+1) none (pre s 15) wc)
 case first=>
  as_aux_lemma=>
   have hx:=pre_le s HL.o 14
   have c8wc:=(HC.o.keep HKW.o (by omega) hb).at_ 8 (by omega);have m2wc:wc.cell? ⟨w.heap.size,2,none⟩=some (.bool true):=(by rw[(HM.o.keep hb.keeps (by simp)).cell];rfl)
   cases hv:vpp 26 pkt with
   |false=>
    have hs:=H15.o.absent hv
    go_wp2_with (go_at_call 102;refine ce 26 ?_)
    exact zB1
   |true=>
    rcases H15.o with⟨e1,hs⟩|⟨_,t,e2,ht0,ht1,hwild,hs⟩
    ·have HS:=hH hs
     clear hs
     go_wp2_with (go_at_call 102;refine ce 26 ?_)
     exact zB3
    ·have HS:=hH hs
     clear hs
     clear hwild
     have hte:t.toList.isEmpty=false:=tl_ne ht0
     have hte2:¬t.toList=[]:=tl_ne2 ht0
     go_wp2_with (go_at_call 102;refine ce 26 ?_)
     refine(writeByte_c _ _ _ _ (UInt8.ofNat 26) _ (by decide) hb.buf (by omega)).mono ?_
     rintro e w1 ⟨rfl,d2,hB1⟩
     have hb1:=hb.trans hB1
     have c8w1:=(HC.o.keep HKW.o (by omega) hb1).at_ 8 (by omega)
     exact zB4
 case rest=>
 clear hb
 obtain⟨d1,hb⟩:=hcut
 go_step
 go_step
 go_cut [] from 330 to 349 (fun wc=>BufTo W (w.heap.size+1) none (pre s 16) wc)
 case first=>
  as_aux_lemma=>
   have hx:=pre_le s HL.o 15
   have c9wc:=(HC.o.keep HKW.o (by omega) hb).at_ 9 (by omega)
   cases hv:vpp 28 pkt with
   |false=>
    have hs:=H16.o.absent hv
    go_wp2_with (go_at_call 102;refine ce 28 ?_)
    exact zB1
   |true=>
    rcases H16.o with⟨e1,hs⟩|⟨_,t,e2,ht0,ht1,hwild,hs⟩
    ·have HS:=hH hs
     clear hs
     go_wp2_with (go_at_call 102;refine ce 28 ?_)
     exact zB3
    ·have HS:=hH hs
     clear hs
     clear hwild
     have hte:t.toList.isEmpty=false:=tl_ne ht0
     have hte2:¬t.toList=[]:=tl_ne2 ht0
     go_wp2_with (go_at_call 102;refine ce 28 ?_)
     refine(writeByte_c _ _ _ _ (UInt8.ofNat 28) _ (by decide) hb.buf (by omega)).mono ?_
     rintro e w1 ⟨rfl,d2,hB1⟩
     have hb1:=hb.trans hB1
     have c9w1:=(HC.o.keep HKW.o (by omega) hb1).at_ 9 (by omega)
     exact zB4
 case rest=>
 clear hb
 obtain⟨d1,hb⟩:=hcut
 go_step
 go_step
 go_cut [] from 350 to 388 (fun wc=>BufTo W (w.heap.size+1) none (pre s 17) wc)
 case first=>
  as_aux_lemma=>
   have hx:=pre_le s HL.o 16
   have c10wc:=(HC.o.keep HKW.o (by omega) hb).at_ 10 (by omega);have m1wc:wc.cell? ⟨w.heap.size,1,none⟩=some (.bool false):=(by rw[(HM.o.keep hb.keeps (by simp)).cell];rfl);have m0wc:wc.cell? ⟨w.heap.size,0,none⟩=some (.int .u32 0):=(by rw[(HM.o.keep hb.keeps (by simp)).cell];rfl)
   cases hv:vpp 31 pkt with
   |false=>
    have hs:=H17.o.absent hv
    go_wp2_with (go_at_call 102;refine ce 31 ?_)
    exact zB1
   |true=>
    rcases H17.o with⟨e1,hs⟩|⟨_,t,e2,ht0,ht1,hwild,hs⟩
    ·have HS:=hH hs
     clear hs
     go_wp2_with (go_at_call 102;refine ce 31 ?_)
     exact zB3
    ·have HS:=hH hs
     clear hs
     clear hwild
     have hte:t.toList.isEmpty=false:=tl_ne ht0
     have hte2:¬t.toList=[]:=tl_ne2 ht0
     go_wp2_with (go_at_call 102;refine ce 31 ?_)
     refine(encodeString_c _ t ht1).mono ?_
     rintro e w2 ⟨A,c,rfl,hr,hk,hA⟩
     have hb2:=hb.post hk
     have m1w2:w2.cell? ⟨w.heap.size,1,none⟩=some (.bool false):=(by rw[(HM.o.keep hb2.keeps (by simp)).cell];rfl);have m0w2:w2.cell? ⟨w.heap.size,0,none⟩=some (.int .u32 0):=(by rw[(HM.o.keep hb2.keeps (by simp)).cell];rfl)
     go_wp2_with fail
     refine(writeByte_c _ _ _ _ (UInt8.ofNat 31) _ (by decide) hb2.buf (by omega)).mono ?_
     rintro e w1 ⟨rfl,d2,hB1⟩
     have hb1:=hb2.trans hB1
     have hr1:=hr.keep hB1.keeps (fun a ha=>by have h1:=hA a ha;have h2:=hb.keeps.size;have h3:=HKW.o.size;have h4:=hb.buf.dlt;have h5:=HWS.o;cases hd:d1 with|none=>simp;omega|some k=>have:=h4 k hd;simp;omega)
     go_wp2_with fail
     refine(write_c _ _ _ _ _ _ _ _ hb1.buf hr1 (by simp[be2_length,be4_length,lp_length];omega)).mono ?_
     rintro e w3 ⟨rfl,d3,hB3⟩
     have hb3:=hb1.trans hB3
     exact zB8
 case rest=>
 clear hb
 obtain⟨d1,hb⟩:=hcut
 go_step
 go_step
 go_cut [] from 389 to 407 (fun wc=>BufTo W (w.heap.size+1) none (pre s 18) wc)
 case first=>
  as_aux_lemma=>
   have hx:=pre_le s HL.o 17
   have c16wc:=(HC.o.keep HKW.o (by omega) hb).at_ 16 (by omega)
   cases hv:vpp 33 pkt with
   |false=>
    have hs:=H18.o.absent hv
    go_wp2_with (go_at_call 102;refine ce 33 ?_)
    exact zB1
   |true=>
    rcases H18.o with⟨e1,hs⟩|⟨_,n1,e2,hn0,hn1,hs⟩
    ·have HS:=hH hs
     clear hs
     go_wp2_with (go_at_call 102;refine ce 33 ?_)
     exact zB3
    ·have HS:=hH hs
     clear hs
     go_wp2_with (go_at_call 102;refine ce 33 ?_)
     refine(writeByte_c _ _ _ _ (UInt8.ofNat 33) _ (by decide) hb.buf (by omega)).mono ?_
     rintro e w1 ⟨rfl,d2,hB1⟩
     have hb1:=hb.trans hB1
     have c16w1:=(HC.o.keep HKW.o (by omega) hb1).at_ 16 (by omega)
     exact zB7
 case rest=>
 clear hb
 obtain⟨d1,hb⟩:=hcut
 go_step
 go_step
 go_cut [] from 408 to 426 (fun wc=>BufTo W (w.heap.size+1) none (pre s 19) wc)
 case first=>
  as_aux_lemma=>
   have hx:=pre_le s HL.o 18
   have c17wc:=(HC.o.keep HKW.o (by omega) hb).at_ 17 (by omega)
   cases hv:vpp 34 pkt with
   |false=>
    have hs:=H19.o.absent hv
    go_wp2_with (go_at_call 102;refine ce 34 ?_)
    exact zB1
   |true=>
    rcases H19.o with⟨e1,hs⟩|⟨_,n1,e2,hn0,hn1,hs⟩
    ·have HS:=hH hs
     clear hs
     go_wp2_with (go_at_call 102;refine ce 34 ?_)
     exact zB3
    ·have HS:=hH hs
     clear hs
     go_wp2_with (go_at_call 102;refine ce 34 ?_)
     refine(writeByte_c _ _ _ _ (UInt8.ofNat 34) _ (by decide) hb.buf (by omega)).mono ?_
     rintro e w1 ⟨rfl,d2,hB1⟩
     have hb1:=hb.trans hB1
     have c17w1:=(HC.o.keep HKW.o (by omega) hb1).at_ 17 (by omega)
     exact zB7
 case rest=>
 clear hb
 obtain⟨d1,hb⟩:=hcut
 go_step
 go_step
 go_cut [] from 427 to 451 (fun wc=>BufTo W (w.heap.size+1) none (pre s 20) wc)
 case first=>
  as_aux_lemma=>
   have hx:=pre_le s HL.o 19
   have c26wc:=(HC.o.keep HKW.o (by omega) hb).at_ 26 (by omega);have c18wc:=(HC.o.keep HKW.o (by omega) hb).at_ 18 (by omega)
   cases hv:vpp 35 pkt with
   |false=>
    have hs:=H20.o.absent hv
    go_wp2_with (go_at_call 102;refine ce 35 ?_)
    exact zB1
   |true=>
    rcases H20.o with⟨e1,hs⟩|⟨e1,_,n1,e2,hn0,hn1,hs⟩
    ·have HS:=hH hs
     clear hs
     go_wp2_with (go_at_call 102;refine ce 35 ?_)
     exact zB3
    ·have HS:=hH hs
     clear hs
     go_wp2_with (go_at_call 102;refine ce 35 ?_)
     refine(writeByte_c _ _ _ _ (UInt8.ofNat 35) _ (by decide) hb.buf (by omega)).mono ?_
     rintro e w1 ⟨rfl,d2,hB1⟩
     have hb1:=hb.trans hB1
     have c18w1:=(HC.o.keep HKW.o (by omega) hb1).at_ 18 (by omega)
     exact zB7
 case rest=>
 clear hb
 obtain⟨d1,hb⟩:=hcut
 go_step
 go_step
 go_cut [] from 452 to 475 (fun wc=>BufTo W (w.heap.size+1) none (pre s 21) wc)
 case first=>
  as_aux_lemma=>
   have hx:=pre_le s HL.o 20
   have c28wc:=(HC.o.keep HKW.o (by omega) hb).at_ 28 (by omega);have c27wc:=(HC.o.keep HKW.o (by omega) hb).at_ 27 (by omega)
   cases hv:vpp 36 pkt with
   |false=>
    have hs:=H21.o.absent hv
    go_wp2_with (go_at_call 102;refine ce 36 ?_)
    exact zB1
   |true=>
    rcases H21.o with⟨e1,hs⟩|⟨e1,_,b,e2,hb2,hs⟩
    ·have HS:=hH hs
     clear hs
     go_wp2_with (go_at_call 102;refine ce 36 ?_)
     exact zB3
    ·have HS:=hH hs
     clear hs
     have hb2z:(b.toNat:Int)<2:=by omega
     have hb2d:decide ((b.toNat:Int)<2)=true:=decide_eq_true hb2z
     go_wp2_with (go_at_call 102;refine ce 36 ?_)
     refine(writeByte_c _ _ _ _ (UInt8.ofNat 36) _ (by decide) hb.buf (by omega)).mono ?_
     rintro e w1 ⟨rfl,d2,hB1⟩
     have hb1:=hb.trans hB1
     have c27w1:=(HC.o.keep HKW.o (by omega) hb1).at_ 27 (by omega)
     exact zB2
 case rest=>
 clear hb
 obtain⟨d1,hb⟩:=hcut
 go_step
 go_step
 go_cut [] from 476 to 492 (fun wc=>BufTo W (w.heap.size+1) none (pre s 22) wc)
 case first=>
  as_aux_lemma=>
   have hx:=pre_le s HL.o 21
   have c30wc:=(HC.o.keep HKW.o (by omega) hb).at_ 30 (by omega);have c29wc:=(HC.o.keep HKW.o (by omega) hb).at_ 29 (by omega)
   cases hv:vpp 37 pkt with
   |false=>
    have hs:=H22.o.absent hv
    go_wp2_with (go_at_call 102;refine ce 37 ?_)
    exact zB1
   |true=>
    rcases H22.o with⟨e1,hs⟩|⟨e1,_,b,e2,hb2,hs⟩
    ·have HS:=hH hs
     clear hs
     go_wp2_with (go_at_call 102;refine ce 37 ?_)
     exact zB3
    ·have HS:=hH hs
     clear hs
     go_wp2_with (go_at_call 102;refine ce 37 ?_)
     refine(writeByte_c _ _ _ _ (UInt8.ofNat 37) _ (by decide) hb.buf (by omega)).mono ?_
     rintro e w1 ⟨rfl,d2,hB1⟩
     have hb1:=hb.trans hB1
     have c29w1:=(HC.o.keep HKW.o (by omega) hb1).at_ 29 (by omega)
     exact zB2
 case rest=>
 clear hb
 obtain⟨d1,hb⟩:=hcut
 go_step
 go_step
 go_cut [] from 493 to 541 (fun wc=>BufTo W (w.heap.size+1) none (pre s 23) wc)
 case first=>
  as_aux_lemma=>
   have hx:=pre_le s HL.o 22
   have c3wc:=(HC.o.keep HKW.o (by omega) hb).at_ 3 (by omega);have m1wc:wc.cell? ⟨w.heap.size,1,none⟩=some (.bool false):=(by rw[(HM.o.keep hb.keeps (by simp)).cell];rfl);have m0wc:wc.cell? ⟨w.heap.size,0,none⟩=some (.int .u32 0):=(by rw[(HM.o.keep hb.keeps (by simp)).cell];rfl)
   cases hv:vpp 38 pkt with
   |false=>
    have hs:=H23.o.absent hv
    go_wp2_with (go_at_call 102;refine ce 38 ?_)
    exact zB1
   |true=>
    obtain⟨A0,c0,us,e1,hr0,hA0,hus,hlen,_,hs⟩:=H23.o
    have HS:=hH hs
    have HN:=hH hus
    clear hs hus
    have hcells:Hd (0<us.length→∃b0 o0,A0=some ⟨b0,o0,none⟩∧b0<w.heap.size∧∀k u,us[k]?=some u→w.cell? ⟨b0,o0+k*2,none⟩=some (.string u.1)∧w.cell? ⟨b0,o0+k*2+1,none⟩=some (.string u.2)):=by
     intro h0
     obtain⟨b0,o0,rfl,hcl⟩:=hr0.2 h0
     refine⟨b0,o0,rfl,hA0 _ rfl,fun k u hu=>⟨?_,?_⟩⟩
     ·exact hcl (k*2) _ (flat2_get us k u hu).1
     ·rw[Nat.add_assoc];exact hcl (k*2+1) _ (flat2_get us k u hu).2
    clear hr0 hA0
    obtain⟨W2,hW2⟩:∃W2,wc.alloc (.cells #[.slice none 0 0] 111)=W2:=⟨_,rfl⟩
    have hK2:Hd (Keeps [] wc W2):=by rw[←hW2];exact Keeps.alloc _ _
    have hP2:Hd (Buf W2 wc.heap.size none []):=by rw[←hW2];exact Buf.new wc
    have hZ2:Hd (W2.heap.size=wc.heap.size+1):=by rw[←hW2];show _=_;simp
    have HW2:=hH hW2
    clear hW2
    have c3a:(wc.alloc (.cells #[.slice none 0 0] 111)).cell? ⟨g,o+3,none⟩=some (pc 3):=(Keeps.alloc wc _).some_ c3wc (by simp)
    go_wp2_with (go_at_call 102;refine ce 38 ?_)
    go_loopg [507] (us.length+1) (fun gk i wr=>∃k d',i=.int .i64 ((k:Nat):Int)∧k≤us.length∧us.length<gk+k∧BufAt W2 wc.heap.size none d' ((us.take k).flatMap encU) wr)
    case atStart=>exact⟨0,none,rfl,by omega,by omega,by rw[HW2.o];exact BufAt.refl hP2.o⟩
    case round=>
     obtain⟨k,d2,rfl,hk,hgk,hbr⟩:=hrel
     have hkr:Keeps [] wc wr:=hK2.o.trans hbr.keeps (by simp)
     have hbx:=hb.post hkr
     by_cases hlt:k<us.length
     ·obtain⟨g',rfl⟩:∃g',gk=g'+1:=⟨gk-1,by omega⟩
      have hltz:(k:Int)<(us.length:Int):=by omega
      obtain⟨u,hu⟩:∃u,us[k]=u:=⟨_,rfl⟩
      have huu:=HN.o u (by rw[←hu];exact List.getElem_mem _)
      obtain⟨hu0,hu1⟩:=huu
      obtain⟨b0,o0,rfl,hb0,hcl⟩:=hcells.o (by omega)
      have hcl':=hcl k u (by rw[List.getElem?_eq_getElem hlt,hu])
      have hKwr:Keeps [w.heap.size+1] w wr:=HKW.o.trans2 hbx.keeps
      have hcx:=hKwr.some_ hcl'.1 (by simp;omega)
      have hcy:=hKwr.some_ hcl'.2 (by simp;omega)
      clear hcl hcl'
      have htk:Hd ((us.take (k+1)).flatMap encU=(us.take k).flatMap encU++encU u):=by
       rw[List.take_succ_eq_append_getElem hlt,List.flatMap_append,hu];show _=_;simp
      have hxl:((us.take k).flatMap encU).length≤4000000:=by
       have h1:=flat_le (us.take k) encU 131076 (fun n hn=>by have:=HN.o n (List.mem_of_mem_take hn);simp[encU,lp_length];omega)
       simp only[List.length_take] at h1 ⊢
       have:min k us.length*131076≤20*131076:=Nat.mul_le_mul_right _ (by omega)
       omega
      clear hu
      generalize hX:(us.take k).flatMap encU=X at hbr hxl
      have HX:=hH hX
      clear hX
      have hA1:=hbr.post (Keeps.alloc wr (.cells #[.string u.1,.string u.2] 124))
      go_wp2_with fail
      refine(writeByte_c _ _ _ _ 38 _ (by decide) hA1.buf (by omega)).mono ?_
      rintro e w1 ⟨rfl,d3,hB1⟩
      have hb1:=hA1.trans hB1
      have hloc:wr.heap.size∉wc.heap.size::d2.toList:=by
       have h8:=hbr.buf.lt
       have h9:=hbr.buf.dlt
       cases hd:d2 with
       |none=>simp;omega
       |some kk=>have h9:=h9 kk hd;simp;omega
      have hv1:w1.cell? ⟨wr.heap.size,0,none⟩=some (.string u.1):=hB1.keeps.some_ (by rw[(Blk.new wr 124 #[.string u.1,.string u.2]).cell];rfl) hloc
      go_wp2_with fail
      refine(encodeString_c _ u.1 hu0).mono ?_
      rintro e w2 ⟨A,c,rfl,hr,hkk,hA⟩
      have hb2:=hb1.post hkk
      have hc2:=hB1.post hkk
      go_wp2_with fail
      refine(write_c _ _ _ _ _ _ _ _ hb2.buf hr (by simp[lp_length];omega)).mono ?_
      rintro e w3 ⟨rfl,d4,hB3⟩
      have hb3:=hb2.trans hB3
      have hc3:=hc2.trans hB3
      have hv3:w3.cell? ⟨wr.heap.size,1,none⟩=some (.string u.2):=hc3.keeps.some_ (by rw[(Blk.new wr 124 #[.string u.1,.string u.2]).cell];rfl) hloc
      go_wp2_with fail
      refine(encodeString_c _ u.2 hu1).mono ?_
      rintro e w4 ⟨A',c',rfl,hr',hkk',hA'⟩
      have hb4:=hb3.post hkk'
      go_wp2_with fail
      refine(write_c _ _ _ _ _ _ _ _ hb4.buf hr' (by simp[lp_length];omega)).mono ?_
      rintro e w5 ⟨rfl,d5,hB5⟩
      have hb5:=hb4.trans hB5
      go_wp2_with fail
      go_roundg g'
      case measure=>omega
      case rel=>exact⟨k+1,d5,by go_num,by omega,by omega,by rw[htk.o,HX.o];simpa [encU] using hb5⟩
     ·have m0r:wr.cell? ⟨w.heap.size,0,none⟩=some (.int .u32 0):=hkr.some_ m0wc (by simp)
      rw[List.take_of_length_le (by omega)] at hbr
      have hxl:(us.flatMap encU).length≤4000000:=by rw[←HS.o];exact HL.o 23
      have HS2:Hd (s 23=us.flatMap encU):=HS
      clear hk hgk HS
      generalize us.flatMap encU=U at hbr hxl HS2
      go_wp2_with fail
      go_quiet (fail)
      have hbrn:BufAt W2 wc.heap.size none d2 U (wr.drewN nq):=hbr.post (Keeps.drewN wr nq)
      have hbxn:=hbx.post (Keeps.drewN wr nq)
      go_wp2_with fail
      refine(bytes_c _ _ _ _ hbrn.buf).mono ?_
      rintro e w6 ⟨rfl,A,c,rfl,hr,hA⟩
      go_wp2_with fail
      go_fit (write_c _ _ _ _ _ _ _ _ hbxn.buf hr (by omega))
      rintro e w7 ⟨rfl,d6,hB7⟩
      have hb7:=hbxn.trans hB7
      go_wp2_with fail
      go_meet
      case rel=>exact⟨d6,by rw[pre_succ,HS2.o];exact hb7⟩
 case rest=>
 clear hb
 obtain⟨d1,hb⟩:=hcut
 go_step
 go_step
 go_cut [] from 542 to 560 (fun wc=>BufTo W (w.heap.size+1) none (pre s 24) wc)
 case first=>
  as_aux_lemma=>
   have hx:=pre_le s HL.o 23
   have c14wc:=(HC.o.keep HKW.o (by omega) hb).at_ 14 (by omega)
   cases hv:vpp 39 pkt with
   |false=>
    have hs:=H24.o.absent hv
    go_wp2_with (go_at_call 102;refine ce 39 ?_)
    exact zB1
   |true=>
    rcases H24.o with⟨e1,hs⟩|⟨_,n1,e2,hn0,hn1,hs⟩
    ·have HS:=hH hs
     clear hs
     go_wp2_with (go_at_call 102;refine ce 39 ?_)
     exact zB3
    ·have HS:=hH hs
     clear hs
     go_wp2_with (go_at_call 102;refine ce 39 ?_)
     refine(writeByte_c _ _ _ _ (UInt8.ofNat 39) _ (by decide) hb.buf (by omega)).mono ?_
     rintro e w1 ⟨rfl,d2,hB1⟩
     have hb1:=hb.trans hB1
     have c14w1:=(HC.o.keep HKW.o (by omega) hb1).at_ 14 (by omega)
     exact zB6
 case rest=>
 clear hb
 obtain⟨d1,hb⟩:=hcut
 go_step
 go_step
 go_cut [] from 561 to 577 (fun wc=>BufTo W (w.heap.size+1) none (pre s 25) wc)
 case first=>
  as_aux_lemma=>
   have hx:=pre_le s HL.o 24
   have c32wc:=(HC.o.keep HKW.o (by omega) hb).at_ 32 (by omega);have c31wc:=(HC.o.keep HKW.o (by omega) hb).at_ 31 (by omega)
   cases hv:vpp 40 pkt with
   |false=>
    have hs:=H25.o.absent hv
    go_wp2_with (go_at_call 102;refine ce 40 ?_)
    exact zB1
   |true=>
    rcases H25.o with⟨e1,hs⟩|⟨e1,_,b,e2,hb2,hs⟩
    ·have HS:=hH hs
     clear hs
     go_wp2_with (go_at_call 102;refine ce 40 ?_)
     exact zB3
    ·have HS:=hH hs
     clear hs
     go_wp2_with (go_at_call 102;refine ce 40 ?_)
     refine(writeByte_c _ _ _ _ (UInt8.ofNat 40) _ (by decide) hb.buf (by omega)).mono ?_
     rintro e w1 ⟨rfl,d2,hB1⟩
     have hb1:=hb.trans hB1
     have c31w1:=(HC.o.keep HKW.o (by omega) hb1).at_ 31 (by omega)
     exact zB2
 case rest=>
 clear hb
 obtain⟨d1,hb⟩:=hcut
 go_step
 go_step
 go_cut [] from 578 to 594 (fun wc=>BufTo W (w.heap.size+1) none (pre s 26) wc)
 case first=>
  as_aux_lemma=>
   have hx:=pre_le s HL.o 25
   have c34wc:=(HC.o.keep HKW.o (by omega) hb).at_ 34 (by omega);have c33wc:=(HC.o.keep HKW.o (by omega) hb).at_ 33 (by omega)
   cases hv:vpp 41 pkt with
   |false=>
    have hs:=H26.o.absent hv
    go_wp2_with (go_at_call 102;refine ce 41 ?_)
    exact zB1
   |true=>
    rcases H26.o with⟨e1,hs⟩|⟨e1,_,b,e2,hb2,hs⟩
    ·have HS:=hH hs
     clear hs
     go_wp2_with (go_at_call 102;refine ce 41 ?_)
     exact zB3
    ·have HS:=hH hs
     clear hs
     go_wp2_with (go_at_call 102;refine ce 41 ?_)
     refine(writeByte_c _ _ _ _ (UInt8.ofNat 41) _ (by decide) hb.buf (by omega)).mono ?_
     rintro e w1 ⟨rfl,d2,hB1⟩
     have hb1:=hb.trans hB1
     have c33w1:=(HC.o.keep HKW.o (by omega) hb1).at_ 33 (by omega)
     exact zB2
 case rest=>
 clear hb
 obtain⟨d1,hb⟩:=hcut
 go_step
 go_step
 go_cut [] from 595 to 611 (fun wc=>BufTo W (w.heap.size+1) none (pre s 27) wc)
 case first=>
  as_aux_lemma=>
   have hx:=pre_le s HL.o 26
   have c36wc:=(HC.o.keep HKW.o (by omega) hb).at_ 36 (by omega);have c35wc:=(HC.o.keep HKW.o (by omega) hb).at_ 35 (by omega)
   cases hv:vpp 42 pkt with
   |false=>
    have hs:=H27.o.absent hv
    go_wp2_with (go_at_call 102;refine ce 42 ?_)
    exact zB1
   |true=>
    rcases H27.o with⟨e1,hs⟩|⟨e1,_,b,e2,hb2,hs⟩
    ·have HS:=hH hs
     clear hs
     go_wp2_with (go_at_call 102;refine ce 42 ?_)
     exact zB3
    ·have HS:=hH hs
     clear hs
     go_wp2_with (go_at_call 102;refine ce 42 ?_)
     refine(writeByte_c _ _ _ _ (UInt8.ofNat 42) _ (by decide) hb.buf (by omega)).mono ?_
     rintro e w1 ⟨rfl,d2,hB1⟩
     have hb1:=hb.trans hB1
     have c35w1:=(HC.o.keep HKW.o (by omega) hb1).at_ 35 (by omega)
     exact zB2
 case rest=>
 clear hb
 obtain⟨d1,hb⟩:=hcut
 go_step
 have hx:=pre_le s HL.o 27
 have hblt:=hB.lt
 have hkw:Keeps [] w wc:=(HKW.o.trans2 hb.keeps).mono (by simp)
 have hBk:Buf wc bb none []:=hB.keep hkw (by simp) (by simp)
 obtain⟨N,hN⟩:∃N,(pre s 27).length=N:=⟨_,rfl⟩
 rw[hN] at hx
 have HNN:=hH hN
 clear hN
 go_wp2_with fail
 refine(len_c _ _ _ _ hb.buf).mono ?_
 rintro e w1 ⟨rfl,rfl⟩
 rw[HNN.o]
 go_wp2_with fail
 refine(encodeLength_c _ _ _ _ N (by omega) hBk (by simp)).mono ?_
 rintro e w1 ⟨rfl,d2,hB1⟩
 have hbk:Buf w1 (w.heap.size+1) d1 (pre s 27):=hb.buf.keep hB1.keeps (by simp;omega) (by
  have h3:=HKW.o.size
  rcases hb.fresh with rfl|⟨k,rfl,hk⟩
  ·simp
  ·intro j hj;simp at hj;subst hj;simp;omega)
 go_wp2_with fail
 refine(bytes_c _ _ _ _ hbk).mono ?_
 rintro e w2 ⟨rfl,A,c,rfl,hr,hA⟩
 rw[HNN.o] at hr ⊢
 have hvl:=vlen_le N (by omega)
 go_wp2_with fail
 refine(write_c _ _ _ _ _ _ _ _ hB1.buf hr (by simp;omega)).mono ?_
 rintro e w3 ⟨rfl,d3,hB3⟩
 go_wp2_with fail
 go_end0
 exact⟨rfl,d3,by rw[HNN.o];simpa using (BufAt.pre hkw hB1).trans hB3⟩
end Go.Proofs.YtkglmacaecmhdaaGreatDoor
