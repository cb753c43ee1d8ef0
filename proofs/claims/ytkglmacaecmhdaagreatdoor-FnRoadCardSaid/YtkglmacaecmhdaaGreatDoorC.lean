/- FnRoad, part C: the walks of B4, W8, B5, B6, U1, U2, U3, U4, U5, V0. -/
import Derived.Test.YtkglmacaecmhdaaGreatDoorB
set_option linter.unusedVariables false
set_option linter.unusedSimpArgs false
set_option maxHeartbeats 8000000
set_option maxRecDepth 100000
namespace Go.Proofs.YtkglmacaecmhdaaGreatDoor
open Go Go.RowKit Tryz
structure PAll (w:World) (pkt:Int) (pc:Nat→Value) (s:Nat→List UInt8):Prop where
 hl:∀k,(s k).length≤4000000
 h1:PByteF pkt 1 (pc 20) (pc 19) (s 1)
 h2:PLong pkt 2 (pc 11) (s 2)
 h3:PText pkt 3 (pc 4) (s 3)
 h4:PText pkt 8 (pc 5) (s 4)
 h5:PData w pkt 9 (pc 0) (s 5)
 h6:PNums w pkt (pc 1) (s 6)
 h7:PLongF pkt 17 (pc 21) (pc 12) (s 7)
 h8:PText pkt 18 (pc 6) (s 8)
 h9:PWordF pkt 19 (pc 22) (pc 15) (s 9)
 h10:PText pkt 21 (pc 7) (s 10)
 h11:PData w pkt 22 (pc 2) (s 11)
 h12:PByteF pkt 23 (pc 24) (pc 23) (s 12)
 h13:PLong pkt 24 (pc 13) (s 13)
 h14:PByte pkt 25 (pc 25) (s 14)
 h15:PText pkt 26 (pc 8) (s 15)
 h16:PText pkt 28 (pc 9) (s 16)
 h17:PText pkt 31 (pc 10) (s 17)
 h18:PWord pkt 33 (pc 16) (s 18)
 h19:PWord pkt 34 (pc 17) (s 19)
 h20:PWordFP pkt 35 (pc 26) (pc 18) (s 20)
 h21:PByteF pkt 36 (pc 28) (pc 27) (s 21)
 h22:PByteF pkt 37 (pc 30) (pc 29) (s 22)
 h23:PUsers w pkt (pc 3) (s 23)
 h24:PLong pkt 39 (pc 14) (s 24)
 h25:PByteF pkt 40 (pc 32) (pc 31) (s 25)
 h26:PByteF pkt 41 (pc 34) (pc 33) (s 26)
 h27:PByteF pkt 42 (pc 36) (pc 35) (s 27)
theorem PData.keep {w w':World} {pkt:Int} {i:Nat} {cv:Value} {s:List UInt8} (h:PData w pkt i cv s) (k:Keeps [] w w'):PData w' pkt i cv s:=by
 rcases h with h|⟨hv,A,n,c,ys,h1,h2,h3,h4,h5,h6⟩
 ·exact .inl h
 ·exact .inr ⟨hv,A,n,c,ys,h1,h2.keep k (by simp),fun a ha=>Nat.lt_of_lt_of_le (h3 a ha) k.size,h4,h5,h6⟩
theorem zC16 {p:Prop} (h:p:=by
 obtain⟨A,c,ns,h1,h2,h3,h4⟩:=h
 exact⟨A,c,ns,h1,h2.keep k (by simp),fun a ha=>Nat.lt_of_lt_of_le (h3 a ha) k.size,h4⟩
 ):p:=h
theorem PNums.keep {w w':World} {pkt:Int} {cv:Value} {s:List UInt8} (h:PNums w pkt cv s) (k:Keeps [] w w'):PNums w' pkt cv s:=by
 exact zC16
theorem PUsers.keep {w w':World} {pkt:Int} {cv:Value} {s:List UInt8} (h:PUsers w pkt cv s) (k:Keeps [] w w'):PUsers w' pkt cv s:=by
 exact zC16
theorem PAll.keep {w w':World} {pkt:Int} {pc:Nat→Value} {s:Nat→List UInt8} (h:PAll w pkt pc s) (k:Keeps [] w w'):PAll w' pkt pc s:=
 {h with h5:=h.h5.keep k,h6:=h.h6.keep k,h11:=h.h11.keep k,h23:=h.h23.keep k}
theorem propsEnc_all (w:World) (g o bb:Nat) (n pkt:Int) (pc:Nat→Value) (s:Nat→List UInt8) (hc:Cells37 w g o pc) (h:PAll w pkt pc s) (hB:Buf w bb none []):
 Calls prog 85 #[.pointer (some ⟨g,o,none⟩),.int .u8 pkt,.agg #[.int .u32 0,.bool false,.bool true],.pointer (some ⟨bb,0,none⟩),.int .i64 n] w fun e w'=>e=.returned (.tuple #[])∧BufTo w bb none (vlen (pre s 27).length++pre s 27) w':=
 propsEncode_c w g o bb n pkt pc s hc h.hl h.h1 h.h2 h.h3 h.h4 h.h5 h.h6 h.h7 h.h8 h.h9 h.h10 h.h11 h.h12 h.h13 h.h14 h.h15 h.h16 h.h17 h.h18 h.h19 h.h20 h.h21 h.h22 h.h23 h.h24 h.h25 h.h26 h.h27 hB
structure PkEnc (w:World) (g:Nat) (cs:Array Value) (pv:Nat→Value) (t q:Nat) (dup ret:Bool) (ver:Nat):Prop where
 blk:Blk w g 86 cs
 sz:cs.size=108
 at_:∀j,j<108→cs[j]?=some (pv j)
 ht:t<16
 hq:q<4
 e93:pv 93=.int .u8 (t:Int)
 e94:pv 94=.int .u8 (q:Int)
 e95:pv 95=.bool dup
 e96:pv 96=.bool ret
 e99:pv 99=.int .u32 0
 e100:pv 100=.bool false
 e101:pv 101=.bool true
 e103:pv 103=.int .u8 (ver:Int)
section
variable {w w':World} {g:Nat} {cs:Array Value} {pv:Nat→Value} {t q:Nat} {dup ret:Bool} {ver:Nat} {S:List Nat}
theorem PkEnc.cell (h:PkEnc w g cs pv t q dup ret ver) (k:Keeps S w w') (hn:g∉S) (j:Nat) (hj:j<108):w'.cell? ⟨g,j,none⟩=some (pv j):=by
 rw[(h.blk.keep k hn).cell,h.at_ j hj]
theorem PkEnc.cells37 (h:PkEnc w g cs pv t q dup ret ver) (k:Keeps S w w') (hn:g∉S) (o:Nat) (ho:o+37≤108):Cells37 w' g o (fun j=>pv (o+j)):=
 fun j hj=>h.cell k hn (o+j) (by omega)
theorem PkEnc.frozen (h:PkEnc w g cs pv t q dup ret ver) (k:Keeps S w w') (hn:g∉S) (j:Nat):w'.frozen? ⟨g,j,none⟩=false:=(h.blk.keep k hn).frozen j
end
theorem gc {w w':World} {g:Nat} {cs:Array Value} {pv:Nat→Value} {t q:Nat} {dup ret:Bool} {ver:Nat} (h:Hd (PkEnc w g cs pv t q dup ret ver)) (k:Keeps (w.heap.size::(none:Option Nat).toList) (w.alloc (.cells #[.slice none 0 0] 111)) w') (j:Nat) (hj:j<108:=by omega):w'.cell? ⟨g,j,none⟩=some (pv j):=by
 have hg:=h.o.blk.lt
 exact h.o.cell ((Keeps.alloc w _).trans2 k) (by simp<;>omega) j hj
theorem gd {w w':World} {g:Nat} {cs:Array Value} {pv:Nat→Value} {t q:Nat} {dup ret:Bool} {ver:Nat} (h:Hd (PkEnc w g cs pv t q dup ret ver)) (k:Keeps (w.heap.size::(none:Option Nat).toList) (w.alloc (.cells #[.slice none 0 0] 111)) w'.drew) (j:Nat) (hj:j<108:=by omega):w'.cell? ⟨g,j,none⟩=some (pv j):=gc h k j hj
theorem PkEnc.es {w:World} {g:Nat} {cs:Array Value} {pv:Nat→Value} {t q:Nat} {dup ret:Bool} {ver:Nat} (P:PkEnc w g cs pv t q dup ret ver):pv 93=.int .u8 (t:Int)∧pv 94=.int .u8 (q:Int)∧pv 95=.bool dup∧pv 96=.bool ret∧pv 99=.int .u32 0∧pv 100=.bool false∧pv 101=.bool true∧pv 103=.int .u8 (ver:Int):=⟨P.e93,P.e94,P.e95,P.e96,P.e99,P.e100,P.e101,P.e103⟩
theorem al0 (w:World):Hd (Keeps [] w (w.alloc (.cells #[.slice none 0 0] 111)))∧Hd ((w.alloc (.cells #[.slice none 0 0] 111)).heap.size=w.heap.size+1):=⟨Keeps.alloc _ _,by show _=_;simp⟩
def EncTo (w:World) (g bb:Nat) (bytes:List UInt8) (w':World):Prop:=∃d',Buf w' bb d' bytes∧Keeps [g,bb] w w'
theorem encTo_of {w v v' v2:World} {g bb B:Nat} {d2:Option Nat} {bytes:List UInt8} (hK:Keeps [B] w v) (hB:w.heap.size≤B) (hs:Keeps [g] v v') (h:BufAt v' bb none d2 bytes v2):EncTo w g bb bytes v2:=by
 refine⟨d2,h.buf,?_⟩
 refine((hK.mono (S':=[g,bb]) (by simp;omega)).trans hs (by simp)).trans h.keeps (by simp)
theorem PkEnc.tailCells {w v:World} {g:Nat} {cs:Array Value} {pv:Nat→Value} {t q:Nat} {dup ret:Bool} {ver:Nat} {S:List Nat} (P:PkEnc w g cs pv t q dup ret ver) (k:Keeps S w v) (hn:g∉S) (r:Int):
 (v.setCell ⟨g,92,none⟩ (.int .i64 r)).cell? ⟨g,92,none⟩=some (.int .i64 r)∧(v.setCell ⟨g,92,none⟩ (.int .i64 r)).cell? ⟨g,92+1,none⟩=some (.int .u8 (t:Int))∧
 (v.setCell ⟨g,92,none⟩ (.int .i64 r)).cell? ⟨g,92+2,none⟩=some (.int .u8 (q:Int))∧(v.setCell ⟨g,92,none⟩ (.int .i64 r)).cell? ⟨g,92+3,none⟩=some (.bool dup)∧
 (v.setCell ⟨g,92,none⟩ (.int .i64 r)).cell? ⟨g,92+4,none⟩=some (.bool ret):=by
 have h:=(P.blk.keep k hn).set_ 92 (.int .i64 r)
 have hz:=P.sz
 refine⟨?_,?_,?_,?_,?_⟩<;>rw[h.cell]
 ·rw[Array.getElem?_setIfInBounds];simp[hz]
 ·rw[Array.getElem?_setIfInBounds,if_neg (by omega),P.at_ _ (by omega),P.e93]
 ·rw[Array.getElem?_setIfInBounds,if_neg (by omega),P.at_ _ (by omega),P.e94]
 ·rw[Array.getElem?_setIfInBounds,if_neg (by omega),P.at_ _ (by omega),P.e95]
 ·rw[Array.getElem?_setIfInBounds,if_neg (by omega),P.at_ _ (by omega),P.e96]
theorem nbKeep {w W v v' w1:World} {B g bb:Nat} {d:Option Nat} {X:List UInt8} (hb:BufAt W B none d X v) (hW:Keeps [] w W) (hg:g<w.heap.size) (hbb:bb<w.heap.size) (hB:w.heap.size≤B)
 (h1:Keeps [g] v v') (h2:Keeps (bb::(none:Option Nat).toList) v' w1):Buf w1 B d X:=by
 have hd:∀k,d=some k→w.heap.size≤k:=by
  intro k hk
  rcases hb.fresh with h|⟨j,h,hj⟩
  ·rw[h] at hk;cases hk
  ·rw[h] at hk;cases hk;have:=hW.size;omega
 exact(hb.buf.keep h1 (by simp;omega) (fun k hk=>by have:=hd k hk;simp;omega)).keep h2 (by simp;omega) (fun k hk=>by have:=hd k hk;simp;omega)
theorem calls_flip {P:Program} {f:FuncId} {args:Array Value} {w:World} {v:Value} (h:Calls P f args w fun e w'=>w=w'∧e=.returned v):Calls P f args w fun e w'=>e=.returned v∧w'=w:=
 h.mono fun _ _ h=>⟨h.2,h.1.symm⟩
theorem pbKeep {W v V v' v'' w1:World} {nb pb:Nat} {dn dQ d2:Option Nat} {X Y Z:List UInt8} (hb:BufAt W nb none dn X v) (hpb:v.heap.size≤pb) (hV:v.heap.size≤V.heap.size) (hQ:BufAt V pb none dQ Y v')
 (h2:Buf v'' pb dQ Y) (hw:BufAt v'' nb dn d2 Z w1):Buf w1 pb dQ Y:=by
 have h3:=hb.buf.lt
 have h4:=hb.buf.dlt
 have h5:∀j,j∈nb::dn.toList→j<v.heap.size:=by
  intro j hj
  rcases List.mem_cons.1 hj with rfl|hj
  ·exact h3
  ·cases dn with
   |none=>simp at hj
   |some k=>simp at hj;subst hj;exact h4 _ rfl
 refine h2.keep hw.keeps (fun hm=>by have:=h5 _ hm;omega) ?_
 intro j hj hm
 have:=h5 j hm
 rcases hQ.fresh with h|⟨q,h,hq⟩
 ·rw[h] at hj;cases hj
 ·rw[h] at hj;cases hj;omega
theorem swap_set_alloc (w:World) (g i:Nat) (v:Value) (o:Obj) (h:g<w.heap.size):(w.setCell ⟨g,i,none⟩ v).alloc o=(w.alloc o).setCell ⟨g,i,none⟩ v:=by
 unfold World.setCell World.alloc
 congr 1
 apply Array.ext_getElem?
 intro k
 simp only[Array.getElem?_push,Array.getElem?_modify,Array.size_modify]
 by_cases e:k=w.heap.size
 ·subst e
  rw[if_pos rfl,if_neg (by omega),if_pos rfl]
 ·rw[if_neg e]
  by_cases e2:g=k
  ·rw[if_pos e2,if_pos e2,if_neg e]
  ·rw[if_neg e2,if_neg e2,if_neg e]
structure SubV where
 f:ByteArray
 id:Int
 h:Nat
 q:Nat
 ap:Bool
 nl:Bool
def SubV.cells (u:SubV):List Value:=[.slice none 0 0,.string u.f,.int .i64 u.id,.map none,.int .u8 (u.h:Int),.int .u8 (u.q:Int),.bool u.ap,.bool u.nl,.bool false]
def SubV.cellAt (u:SubV):Nat→Value
 |0=>.slice none 0 0
 |1=>.string u.f
 |2=>.int .i64 u.id
 |3=>.map none
 |4=>.int .u8 (u.h:Int)
 |5=>.int .u8 (u.q:Int)
 |6=>.bool u.ap
 |7=>.bool u.nl
 |_=>.bool false
theorem flat9_get (us:List SubV) (k:Nat) (u:SubV) (hu:us[k]?=some u) (j:Nat) (hj:j<9):(us.flatMap SubV.cells)[k*9+j]?=some (u.cellAt j):=by
 induction us generalizing k with
 |nil=>simp at hu
 |cons a l ih=>
  rcases k with _|k
  ·simp at hu;subst hu
   rw[List.flatMap_cons,List.getElem?_append_left (by simp[SubV.cells];omega)]
   obtain rfl|rfl|rfl|rfl|rfl|rfl|rfl|rfl|rfl:j=0∨j=1∨j=2∨j=3∨j=4∨j=5∨j=6∨j=7∨j=8:=by omega
   all_goals simp[SubV.cells,SubV.cellAt]
  ·have:=ih k (by simpa using hu)
   rw[List.flatMap_cons,List.getElem?_append_right (by simp[SubV.cells];omega)]
   have e:(k+1)*9+j-(SubV.cells a).length=k*9+j:=by simp[SubV.cells];omega
   rw[e,this]
def flagB (cl wf wr pf uf:Bool) (wq:Nat):UInt8:=UInt8.ofNat (bit cl*2+bit wf*4+wq*8+bit wr*32+bit pf*64+bit uf*128)
theorem flag_eq (cl wf wr pf uf:Bool) (wq:Nat) (h:wq<3):
 bits BinOp.or IntKind.u8 (bits BinOp.or IntKind.u8 (bits BinOp.or IntKind.u8 (bits BinOp.or IntKind.u8 (bits BinOp.or IntKind.u8 (bits BinOp.or IntKind.u8 ((bit cl:Int)*2 % 256) ((bit wf:Int)*4 % 256)) ((wq:Int)*8)) ((bit wr:Int)*32 % 256)) ((bit pf:Int)*64 % 256)) ((bit uf:Int)*128 % 256)) 0=((flagB cl wf wr pf uf wq).toNat:Int):=by
 obtain rfl|rfl|rfl:wq=0∨wq=1∨wq=2:=by omega
 all_goals cases cl<;>cases wf<;>cases wr<;>cases pf<;>cases uf<;>rfl
def optD (b:Bool) (l:List UInt8):List UInt8:=if b then lp l else[]
theorem optD_le (b:Bool) (l:List UInt8) (h:l.length≤65535):(optD b l).length≤65537:=by
 cases b
 ·simp[optD]
 ·simp[optD,lp_length];omega
def willB4 (wf:Bool) (wt:ByteArray) (wp:List UInt8):List UInt8:=if wf then lp wt.data.toList++lp wp else[]
def pbytes (s:Nat→List UInt8):List UInt8:=vlen (pre s 27).length++pre s 27
def willB5 (wf:Bool) (s2:Nat→List UInt8) (wt:ByteArray) (wp:List UInt8):List UInt8:=if wf then pbytes s2++lp wt.data.toList++lp wp else[]
theorem willB4_le (wf:Bool) (wt:ByteArray) (wp:List UInt8) (h:wt.size<65536) (h2:wp.length≤65535):(willB4 wf wt wp).length≤140000:=by
 have:=tl_len wt
 cases wf<;>simp[willB4,lp_length]<;>omega
theorem willB5_le (wf:Bool) (s2:Nat→List UInt8) (wt:ByteArray) (wp:List UInt8) (hl:∀k,(s2 k).length≤4000000) (h:wt.size<65536) (h2:wp.length≤65535):(willB5 wf s2 wt wp).length≤110000000:=by
 have:=tl_len wt
 have h3:=pre_le s2 hl 27
 have h4:=vlen_le (pre s2 27).length (by omega)
 cases wf<;>simp[willB5,lp_length,pbytes]<;>omega
def encF (u:SubV):List UInt8:=lp u.f.data.toList
def encS4 (u:SubV):List UInt8:=lp u.f.data.toList++[UInt8.ofNat u.q]
def encS5 (u:SubV):List UInt8:=lp u.f.data.toList++[optB u.q u.h u.nl u.ap]
def whole (t q:Nat) (dup ret:Bool) (body:List UInt8):List UInt8:=hdrB t q dup ret::(vlen body.length++body)
theorem connackEncode5_c (w:World) (g bb:Nat) (cs:Array Value) (pv:Nat→Value) (q:Nat) (dup ret:Bool) (sp:Bool) (code:UInt8) (P:PkEnc w g cs pv 2 q dup ret 5)
 (e104:pv 104=.bool sp) (e105:pv 105=.int .u8 (code.toNat:Int)) (s:Nat→List UInt8) (hs:PAll w 2 (fun j=>pv (50+j)) s) (hB:Buf w bb none []) (hgb:g≠bb):
 Calls prog 46 #[.pointer (some ⟨g,0,none⟩),.pointer (some ⟨bb,0,none⟩)] w fun e w'=>e=.returned .nilIface∧EncTo w g bb (whole 2 q dup ret ([UInt8.ofNat (bit sp),code]++pbytes s)) w':=by
 have hg:=P.blk.lt
 have hblt:=hB.lt
 obtain⟨e93,e94,e95,e96,e99,e100,e101,e103⟩:=P.es
 have HP:=hH P
 clear P
 have hb0:=BufAt.refl (Buf.new w)
 obtain⟨HKW,HWS⟩:=al0 w
 have HS:=hH hs
 clear hs
 have g1_104:=gc HP hb0.keeps 104
 have hbit:=bit_lt sp
 obtain⟨BODY,hBODY⟩:∃B,[UInt8.ofNat (bit sp),code]++pbytes s=B:=⟨_,rfl⟩
 rw[hBODY]
 have HBODY:=hH hBODY
 clear hBODY
 go_enter func46,ntmps46
 go_wp2_with (go_at_call 83;refine(encodeBool_b _ sp).mono ?_;rintro e w' ⟨rfl,rfl⟩)
 refine(writeByte_c _ _ _ _ (UInt8.ofNat (bit sp)) _ (ofNat_lo (by omega)) hb0.buf (by simp)).mono ?_
 rintro e w2 ⟨rfl,d2,hB2⟩
 have hb2:=hb0.trans hB2
 have g3_105:=gc HP hb2.keeps 105
 go_wp2_with fail
 refine(writeByte_c _ _ _ _ (code) _ (rfl) hb2.buf (by simp)).mono ?_
 rintro e w4 ⟨rfl,d4,hB4⟩
 have hb4:=hb2.trans hB4
 have g5_103:=gc HP hb4.keeps 103
 have hp6:=BufAt.refl (Buf.new w4)
 have hpk6:=Keeps.alloc w4 (.cells #[.slice none 0 0] 111)
 have hn6:=(hb4.post hpk6).post (Keeps.drew _)
 have g7_93:=gd HP hn6.keeps 93
 have g8_99:=gd HP hn6.keeps 99
 have g9_100:=gd HP hn6.keeps 100
 have g10_101:=gd HP hn6.keeps 101
 have hcc6:=HP.o.cells37 (HKW.o.trans2 hn6.keeps) (by simp<;>omega) 50 (by omega)
 have hpa6:=HS.o.keep ((HKW.o.trans2 hn6.keeps).mono (S':=[]) (by simp))
 have hpb6:Buf (w4.alloc (.cells #[.slice none 0 0] 111)).drew w4.heap.size none []:=hp6.buf
 go_wp2_with fail
 refine wp_region_still_tail 16 (by kernel_rfl) (by kernel_rfl) ?_
 simp only[List.take_succ_cons,List.take_zero,List.drop_succ_cons,List.drop_zero]
 change wpStill _ _ (w4.alloc (.cells #[.slice none 0 0] 111)).drew _ _ _
 repeat still_step
 still_call (calls_flip (len_c _ _ _ _ hn6.buf))
 repeat still_step
 try refine wpStill_nil ?_
 change wpList _ _ _ _ _ (w4.alloc (.cells #[.slice none 0 0] 111)).drew
 go_wp2_with fail
 refine(propsEnc_all _ g 50 _ _ 2 _ _ hcc6 hpa6 hpb6).mono ?_
 rintro e v6 ⟨rfl,dp6,hQ6⟩
 have hkq6:Keeps [] w4 v6:=((hpk6.trans (Keeps.drew _) (by simp)).trans hQ6.keeps (by simp))
 have hm6:=hb4.post hkq6
 go_wp2_with fail
 refine(bytes_c _ _ _ _ hQ6.buf).mono ?_
 rintro e w6 ⟨rfl,A6,c6,rfl,hr6,hA6⟩
 have hpl6:=pre_le s HS.o.hl 27
 have hvl6:=vlen_le (pre s 27).length (by omega)
 generalize hX6:vlen (pre s 27).length++pre s 27=X6 at hr6 ⊢
 have hxl6:X6.length≤110000000:=by rw[←hX6];simp only[List.length_append];omega
 have HX6:=hH hX6
 clear hX6
 go_wp2_with fail
 go_fit (write_c _ _ _ _ _ _ _ _ hm6.buf hr6 (by first|omega|(simp[lp_length,be2_length]<;>omega)))
 rintro e w11 ⟨rfl,d11,hB11⟩
 have hb11:=hm6.trans hB11
 go_wp2_with fail
 refine(len_c _ _ _ _ hb11.buf).mono ?_
 rintro e w12 ⟨rfl,rfl⟩
 generalize hY:((([]++[UInt8.ofNat (bit sp)])++[code])++X6)=Y at hb11 ⊢
 have HY:=hH hY
 have hyl:Y.length<268435456:=by rw[←hY];simp[lp_length,be2_length]<;>omega
 clear hY
 have hkk:=HKW.o.trans2 hb11.keeps
 have k92:w11.cell? ⟨g,92,none⟩=some (pv 92):=HP.o.cell hkk (by simp<;>omega) 92 (by omega)
 have f92:w11.frozen? ⟨g,92,none⟩=false:=HP.o.frozen hkk (by simp<;>omega) 92
 obtain⟨t0,t1,t2,t3,t4⟩:=HP.o.tailCells hkk (by simp<;>omega) (Y.length:Int)
 have hBv:Buf (w11.setCell ⟨g,92,none⟩ (.int .i64 (Y.length:Int))) bb none []:=(hB.keep hkk (by simp<;>omega) (by simp)).keep (Keeps.setCell _ _ _) (by simp<;>omega) (by simp)
 go_wp2_with fail
 refine(header_c _ g 92 bb none [] 2 q Y.length dup ret HP.o.ht HP.o.hq hyl t0 t1 t2 t3 t4 hgb (by simp) hBv (by simp)).mono ?_
 rintro e wh ⟨rfl,dh,hBh⟩
 have hnb:=nbKeep hb11 HKW.o hg hblt (by omega) (Keeps.setCell w11 ⟨g,92,none⟩ (.int .i64 (Y.length:Int))) hBh.keeps
 have hvl:=vlen_le Y.length hyl
 go_wp2_with fail
 refine(bytes_c _ _ _ _ hnb).mono ?_
 rintro e wb ⟨rfl,Ab,cb,rfl,hrb,hAb⟩
 go_wp2_with fail
 go_fit (write_c _ _ _ _ _ _ _ _ hBh.buf hrb (by simp<;>omega))
 rintro e we ⟨rfl,de,hBe⟩
 go_wp2_with fail
 go_ret
 refine⟨rfl,?_⟩
 have hfin:=encTo_of hkk (by omega) (Keeps.setCell w11 ⟨g,92,none⟩ (.int .i64 (Y.length:Int))) (hBh.trans hBe)
 have hy:BODY=Y:=by rw[←HBODY.o,←HY.o,←HX6.o];simp[pbytes]
 unfold whole
 rw[hy]
 simpa using hfin
theorem zC10 {p:Prop} (h:p:=by
 have hy:BODY=Y:=by rw[←HBODY.o,←HY.o];simp[pbytes]
 unfold whole
 rw[hy]
 simpa using hfin
 ):p:=h
theorem connackEncode4_c (w:World) (g bb:Nat) (cs:Array Value) (pv:Nat→Value) (q:Nat) (dup ret:Bool) (sp:Bool) (code:UInt8) (P:PkEnc w g cs pv 2 q dup ret 4)
 (e104:pv 104=.bool sp) (e105:pv 105=.int .u8 (code.toNat:Int)) (hB:Buf w bb none []) (hgb:g≠bb):
 Calls prog 46 #[.pointer (some ⟨g,0,none⟩),.pointer (some ⟨bb,0,none⟩)] w fun e w'=>e=.returned .nilIface∧EncTo w g bb (whole 2 q dup ret ([UInt8.ofNat (bit sp),code])) w':=by
 have hg:=P.blk.lt
 have hblt:=hB.lt
 obtain⟨e93,e94,e95,e96,e99,e100,e101,e103⟩:=P.es
 have HP:=hH P
 clear P
 have hb0:=BufAt.refl (Buf.new w)
 obtain⟨HKW,HWS⟩:=al0 w
 have g1_104:=gc HP hb0.keeps 104
 have hbit:=bit_lt sp
 obtain⟨BODY,hBODY⟩:∃B,[UInt8.ofNat (bit sp),code]=B:=⟨_,rfl⟩
 rw[hBODY]
 have HBODY:=hH hBODY
 clear hBODY
 go_enter func46,ntmps46
 go_wp2_with (go_at_call 83;refine(encodeBool_b _ sp).mono ?_;rintro e w' ⟨rfl,rfl⟩)
 refine(writeByte_c _ _ _ _ (UInt8.ofNat (bit sp)) _ (ofNat_lo (by omega)) hb0.buf (by simp)).mono ?_
 rintro e w2 ⟨rfl,d2,hB2⟩
 have hb2:=hb0.trans hB2
 have g3_105:=gc HP hb2.keeps 105
 go_wp2_with fail
 refine(writeByte_c _ _ _ _ (code) _ (rfl) hb2.buf (by simp)).mono ?_
 rintro e w4 ⟨rfl,d4,hB4⟩
 have hb4:=hb2.trans hB4
 have g5_103:=gc HP hb4.keeps 103
 go_wp2_with fail
 refine(len_c _ _ _ _ hb4.buf).mono ?_
 rintro e w6 ⟨rfl,rfl⟩
 generalize hY:(([]++[UInt8.ofNat (bit sp)])++[code])=Y at hb4 ⊢
 have HY:=hH hY
 have hyl:Y.length<268435456:=by rw[←hY];simp[lp_length,be2_length]<;>omega
 clear hY
 have hkk:=HKW.o.trans2 hb4.keeps
 have k92:w4.cell? ⟨g,92,none⟩=some (pv 92):=HP.o.cell hkk (by simp<;>omega) 92 (by omega)
 have f92:w4.frozen? ⟨g,92,none⟩=false:=HP.o.frozen hkk (by simp<;>omega) 92
 obtain⟨t0,t1,t2,t3,t4⟩:=HP.o.tailCells hkk (by simp<;>omega) (Y.length:Int)
 have hBv:Buf (w4.setCell ⟨g,92,none⟩ (.int .i64 (Y.length:Int))) bb none []:=(hB.keep hkk (by simp<;>omega) (by simp)).keep (Keeps.setCell _ _ _) (by simp<;>omega) (by simp)
 go_wp2_with fail
 refine(header_c _ g 92 bb none [] 2 q Y.length dup ret HP.o.ht HP.o.hq hyl t0 t1 t2 t3 t4 hgb (by simp) hBv (by simp)).mono ?_
 rintro e wh ⟨rfl,dh,hBh⟩
 have hnb:=nbKeep hb4 HKW.o hg hblt (by omega) (Keeps.setCell w4 ⟨g,92,none⟩ (.int .i64 (Y.length:Int))) hBh.keeps
 have hvl:=vlen_le Y.length hyl
 go_wp2_with fail
 refine(bytes_c _ _ _ _ hnb).mono ?_
 rintro e wb ⟨rfl,Ab,cb,rfl,hrb,hAb⟩
 go_wp2_with fail
 go_fit (write_c _ _ _ _ _ _ _ _ hBh.buf hrb (by simp<;>omega))
 rintro e we ⟨rfl,de,hBe⟩
 go_wp2_with fail
 go_ret
 refine⟨rfl,?_⟩
 have hfin:=encTo_of hkk (by omega) (Keeps.setCell w4 ⟨g,92,none⟩ (.int .i64 (Y.length:Int))) (hBh.trans hBe)
 exact zC10
theorem zC19 {p:Prop} (h:p:=by
 have hy:BODY=Y:=by rw[←HBODY.o,←HY.o,←HX5.o];simp[pbytes]
 unfold whole
 rw[hy]
 simpa using hfin
 ):p:=h
theorem zC6 {p:Prop} (h:p:=by
 rintro e wh ⟨rfl,dh,hBh⟩
 have hnb:=nbKeep hb13 HKW.o hg hblt (by omega) (Keeps.setCell w13 ⟨g,92,none⟩ (.int .i64 (Y.length:Int))) hBh.keeps
 have hvl:=vlen_le Y.length hyl
 go_wp2_with fail
 refine(bytes_c _ _ _ _ hnb).mono ?_
 rintro e wb ⟨rfl,Ab,cb,rfl,hrb,hAb⟩
 go_wp2_with fail
 go_fit (write_c _ _ _ _ _ _ _ _ hBh.buf hrb (by simp<;>omega))
 rintro e we ⟨rfl,de,hBe⟩
 go_wp2_with fail
 go_ret
 refine⟨rfl,?_⟩
 have hfin:=encTo_of hkk (by omega) (Keeps.setCell w13 ⟨g,92,none⟩ (.int .i64 (Y.length:Int))) (hBh.trans hBe)
 exact zC19
 ):p:=h
theorem subackEncode5_c (w:World) (g bb:Nat) (cs:Array Value) (pv:Nat→Value) (q:Nat) (dup ret:Bool) (id:Nat) (codes:List UInt8) (A0:Option Addr) (c0:Nat) (P:PkEnc w g cs pv 9 q dup ret 5)
 (hid:id<65536) (e102:pv 102=.int .u16 (id:Int)) (e88:pv 88=.slice A0 codes.length c0) (r88:Rd w 1 A0 codes.length (bvs codes)) (a88:∀a,A0=some a→a.block<w.heap.size) (hcl:codes.length≤1000) (s:Nat→List UInt8) (hs:PAll w 9 (fun j=>pv (50+j)) s) (hB:Buf w bb none []) (hgb:g≠bb):
 Calls prog 53 #[.pointer (some ⟨g,0,none⟩),.pointer (some ⟨bb,0,none⟩)] w fun e w'=>e=.returned .nilIface∧EncTo w g bb (whole 9 q dup ret (be2 id++pbytes s++codes)) w':=by
 have hg:=P.blk.lt
 have hblt:=hB.lt
 obtain⟨e93,e94,e95,e96,e99,e100,e101,e103⟩:=P.es
 have HP:=hH P
 clear P
 have hb0:=BufAt.refl (Buf.new w)
 obtain⟨HKW,HWS⟩:=al0 w
 have HS:=hH hs
 clear hs
 have R88:=hH r88
 clear r88
 have g1_102:=gc HP hb0.keeps 102
 obtain⟨BODY,hBODY⟩:∃B,be2 id++pbytes s++codes=B:=⟨_,rfl⟩
 rw[hBODY]
 have HBODY:=hH hBODY
 clear hBODY
 go_enter func53,ntmps53
 go_wp2_with fail
 refine(encodeUint16_c _ id hid).mono ?_
 rintro e w2 ⟨A2,c2,rfl,hr2,hk2,hA2⟩
 have hb2:=hb0.post hk2
 go_wp2_with fail
 refine(write_c _ _ _ _ _ _ _ _ hb2.buf hr2 (by simp[lp_length,be2_length]<;>omega)).mono ?_
 rintro e w3 ⟨rfl,d3,hB3⟩
 have hb3:=hb2.trans hB3
 have g4_103:=gc HP hb3.keeps 103
 have hp5:=BufAt.refl (Buf.new w3)
 have hpk5:=Keeps.alloc w3 (.cells #[.slice none 0 0] 111)
 have hn5:=(hb3.post hpk5).post (Keeps.drew _)
 have g6_93:=gd HP hn5.keeps 93
 have g7_99:=gd HP hn5.keeps 99
 have g8_100:=gd HP hn5.keeps 100
 have g9_101:=gd HP hn5.keeps 101
 have g10_88:=gd HP hn5.keeps 88
 have hcc5:=HP.o.cells37 (HKW.o.trans2 hn5.keeps) (by simp<;>omega) 50 (by omega)
 have hpa5:=HS.o.keep ((HKW.o.trans2 hn5.keeps).mono (S':=[]) (by simp))
 have hpb5:Buf (w3.alloc (.cells #[.slice none 0 0] 111)).drew w3.heap.size none []:=hp5.buf
 go_wp2_with fail
 refine wp_region_still_tail 21 (by kernel_rfl) (by kernel_rfl) ?_
 simp only[List.take_succ_cons,List.take_zero,List.drop_succ_cons,List.drop_zero]
 change wpStill _ _ (w3.alloc (.cells #[.slice none 0 0] 111)).drew _ _ _
 repeat still_step
 still_call (calls_flip (len_c _ _ _ _ hn5.buf))
 repeat still_step
 try refine wpStill_nil ?_
 change wpList _ _ _ _ _ (w3.alloc (.cells #[.slice none 0 0] 111)).drew
 go_wp2_with fail
 refine(propsEnc_all _ g 50 _ _ 9 _ _ hcc5 hpa5 hpb5).mono ?_
 rintro e v5 ⟨rfl,dp5,hQ5⟩
 have hkq5:Keeps [] w3 v5:=((hpk5.trans (Keeps.drew _) (by simp)).trans hQ5.keeps (by simp))
 have hm5:=hb3.post hkq5
 go_wp2_with fail
 refine(bytes_c _ _ _ _ hQ5.buf).mono ?_
 rintro e w5 ⟨rfl,A5,c5,rfl,hr5,hA5⟩
 have hpl5:=pre_le s HS.o.hl 27
 have hvl5:=vlen_le (pre s 27).length (by omega)
 generalize hX5:vlen (pre s 27).length++pre s 27=X5 at hr5 ⊢
 have hxl5:X5.length≤110000000:=by rw[←hX5];simp only[List.length_append];omega
 have HX5:=hH hX5
 clear hX5
 go_wp2_with fail
 go_fit (write_c _ _ _ _ _ _ _ _ hm5.buf hr5 (by first|omega|(simp[lp_length,be2_length]<;>omega)))
 rintro e w11 ⟨rfl,d11,hB11⟩
 have hb11:=hm5.trans hB11
 have g12_88:=gc HP hb11.keeps 88
 go_wp2_with fail
 refine(write_c _ _ _ _ _ _ _ _ hb11.buf (R88.o.keep (HKW.o.trans2 hb11.keeps) (fun a ha=>by have:=a88 a ha;simp<;>omega)) (by simp[be2_length]<;>omega)).mono ?_
 rintro e w13 ⟨rfl,d13,hB13⟩
 have hb13:=hb11.trans hB13
 go_wp2_with fail
 refine(len_c _ _ _ _ hb13.buf).mono ?_
 rintro e w14 ⟨rfl,rfl⟩
 generalize hY:((([]++be2 id)++X5)++codes)=Y at hb13 ⊢
 have HY:=hH hY
 have hyl:Y.length<268435456:=by rw[←hY];simp[lp_length,be2_length]<;>omega
 clear hY
 have hkk:=HKW.o.trans2 hb13.keeps
 have k92:w13.cell? ⟨g,92,none⟩=some (pv 92):=HP.o.cell hkk (by simp<;>omega) 92 (by omega)
 have f92:w13.frozen? ⟨g,92,none⟩=false:=HP.o.frozen hkk (by simp<;>omega) 92
 obtain⟨t0,t1,t2,t3,t4⟩:=HP.o.tailCells hkk (by simp<;>omega) (Y.length:Int)
 have hBv:Buf (w13.setCell ⟨g,92,none⟩ (.int .i64 (Y.length:Int))) bb none []:=(hB.keep hkk (by simp<;>omega) (by simp)).keep (Keeps.setCell _ _ _) (by simp<;>omega) (by simp)
 go_wp2_with fail
 refine(header_c _ g 92 bb none [] 9 q Y.length dup ret HP.o.ht HP.o.hq hyl t0 t1 t2 t3 t4 hgb (by simp) hBv (by simp)).mono ?_
 exact zC6
theorem subackEncode4_c (w:World) (g bb:Nat) (cs:Array Value) (pv:Nat→Value) (q:Nat) (dup ret:Bool) (id:Nat) (codes:List UInt8) (A0:Option Addr) (c0:Nat) (P:PkEnc w g cs pv 9 q dup ret 4)
 (hid:id<65536) (e102:pv 102=.int .u16 (id:Int)) (e88:pv 88=.slice A0 codes.length c0) (r88:Rd w 1 A0 codes.length (bvs codes)) (a88:∀a,A0=some a→a.block<w.heap.size) (hcl:codes.length≤1000) (hB:Buf w bb none []) (hgb:g≠bb):
 Calls prog 53 #[.pointer (some ⟨g,0,none⟩),.pointer (some ⟨bb,0,none⟩)] w fun e w'=>e=.returned .nilIface∧EncTo w g bb (whole 9 q dup ret (be2 id++codes)) w':=by
 have hg:=P.blk.lt
 have hblt:=hB.lt
 obtain⟨e93,e94,e95,e96,e99,e100,e101,e103⟩:=P.es
 have HP:=hH P
 clear P
 have hb0:=BufAt.refl (Buf.new w)
 obtain⟨HKW,HWS⟩:=al0 w
 have R88:=hH r88
 clear r88
 have g1_102:=gc HP hb0.keeps 102
 obtain⟨BODY,hBODY⟩:∃B,be2 id++codes=B:=⟨_,rfl⟩
 rw[hBODY]
 have HBODY:=hH hBODY
 clear hBODY
 go_enter func53,ntmps53
 go_wp2_with fail
 refine(encodeUint16_c _ id hid).mono ?_
 rintro e w2 ⟨A2,c2,rfl,hr2,hk2,hA2⟩
 have hb2:=hb0.post hk2
 go_wp2_with fail
 refine(write_c _ _ _ _ _ _ _ _ hb2.buf hr2 (by simp[lp_length,be2_length]<;>omega)).mono ?_
 rintro e w3 ⟨rfl,d3,hB3⟩
 have hb3:=hb2.trans hB3
 have g4_103:=gc HP hb3.keeps 103
 have g5_88:=gc HP hb3.keeps 88
 go_wp2_with fail
 refine(write_c _ _ _ _ _ _ _ _ hb3.buf (R88.o.keep (HKW.o.trans2 hb3.keeps) (fun a ha=>by have:=a88 a ha;simp<;>omega)) (by simp[be2_length]<;>omega)).mono ?_
 rintro e w6 ⟨rfl,d6,hB6⟩
 have hb6:=hb3.trans hB6
 go_wp2_with fail
 refine(len_c _ _ _ _ hb6.buf).mono ?_
 rintro e w7 ⟨rfl,rfl⟩
 generalize hY:(([]++be2 id)++codes)=Y at hb6 ⊢
 have HY:=hH hY
 have hyl:Y.length<268435456:=by rw[←hY];simp[lp_length,be2_length]<;>omega
 clear hY
 have hkk:=HKW.o.trans2 hb6.keeps
 have k92:w6.cell? ⟨g,92,none⟩=some (pv 92):=HP.o.cell hkk (by simp<;>omega) 92 (by omega)
 have f92:w6.frozen? ⟨g,92,none⟩=false:=HP.o.frozen hkk (by simp<;>omega) 92
 obtain⟨t0,t1,t2,t3,t4⟩:=HP.o.tailCells hkk (by simp<;>omega) (Y.length:Int)
 have hBv:Buf (w6.setCell ⟨g,92,none⟩ (.int .i64 (Y.length:Int))) bb none []:=(hB.keep hkk (by simp<;>omega) (by simp)).keep (Keeps.setCell _ _ _) (by simp<;>omega) (by simp)
 go_wp2_with fail
 refine(header_c _ g 92 bb none [] 9 q Y.length dup ret HP.o.ht HP.o.hq hyl t0 t1 t2 t3 t4 hgb (by simp) hBv (by simp)).mono ?_
 rintro e wh ⟨rfl,dh,hBh⟩
 have hnb:=nbKeep hb6 HKW.o hg hblt (by omega) (Keeps.setCell w6 ⟨g,92,none⟩ (.int .i64 (Y.length:Int))) hBh.keeps
 have hvl:=vlen_le Y.length hyl
 go_wp2_with fail
 refine(bytes_c _ _ _ _ hnb).mono ?_
 rintro e wb ⟨rfl,Ab,cb,rfl,hrb,hAb⟩
 go_wp2_with fail
 go_fit (write_c _ _ _ _ _ _ _ _ hBh.buf hrb (by simp<;>omega))
 rintro e we ⟨rfl,de,hBe⟩
 go_wp2_with fail
 go_ret
 refine⟨rfl,?_⟩
 have hfin:=encTo_of hkk (by omega) (Keeps.setCell w6 ⟨g,92,none⟩ (.int .i64 (Y.length:Int))) (hBh.trans hBe)
 exact zC10
theorem unsubackEncode5_c (w:World) (g bb:Nat) (cs:Array Value) (pv:Nat→Value) (q:Nat) (dup ret:Bool) (id:Nat) (codes:List UInt8) (A0:Option Addr) (c0:Nat) (P:PkEnc w g cs pv 11 q dup ret 5)
 (hid:id<65536) (e102:pv 102=.int .u16 (id:Int)) (e88:pv 88=.slice A0 codes.length c0) (r88:Rd w 1 A0 codes.length (bvs codes)) (a88:∀a,A0=some a→a.block<w.heap.size) (hcl:codes.length≤1000) (s:Nat→List UInt8) (hs:PAll w 11 (fun j=>pv (50+j)) s) (hB:Buf w bb none []) (hgb:g≠bb):
 Calls prog 55 #[.pointer (some ⟨g,0,none⟩),.pointer (some ⟨bb,0,none⟩)] w fun e w'=>e=.returned .nilIface∧EncTo w g bb (whole 11 q dup ret (be2 id++pbytes s++codes)) w':=by
 have hg:=P.blk.lt
 have hblt:=hB.lt
 obtain⟨e93,e94,e95,e96,e99,e100,e101,e103⟩:=P.es
 have HP:=hH P
 clear P
 have hb0:=BufAt.refl (Buf.new w)
 obtain⟨HKW,HWS⟩:=al0 w
 have HS:=hH hs
 clear hs
 have R88:=hH r88
 clear r88
 have g1_102:=gc HP hb0.keeps 102
 obtain⟨BODY,hBODY⟩:∃B,be2 id++pbytes s++codes=B:=⟨_,rfl⟩
 rw[hBODY]
 have HBODY:=hH hBODY
 clear hBODY
 go_enter func55,ntmps55
 go_wp2_with fail
 refine(encodeUint16_c _ id hid).mono ?_
 rintro e w2 ⟨A2,c2,rfl,hr2,hk2,hA2⟩
 have hb2:=hb0.post hk2
 go_wp2_with fail
 refine(write_c _ _ _ _ _ _ _ _ hb2.buf hr2 (by simp[lp_length,be2_length]<;>omega)).mono ?_
 rintro e w3 ⟨rfl,d3,hB3⟩
 have hb3:=hb2.trans hB3
 have g4_103:=gc HP hb3.keeps 103
 have hp5:=BufAt.refl (Buf.new w3)
 have hpk5:=Keeps.alloc w3 (.cells #[.slice none 0 0] 111)
 have hn5:=(hb3.post hpk5).post (Keeps.drew _)
 have g6_93:=gd HP hn5.keeps 93
 have g7_99:=gd HP hn5.keeps 99
 have g8_100:=gd HP hn5.keeps 100
 have g9_101:=gd HP hn5.keeps 101
 have hcc5:=HP.o.cells37 (HKW.o.trans2 hn5.keeps) (by simp<;>omega) 50 (by omega)
 have hpa5:=HS.o.keep ((HKW.o.trans2 hn5.keeps).mono (S':=[]) (by simp))
 have hpb5:Buf (w3.alloc (.cells #[.slice none 0 0] 111)).drew w3.heap.size none []:=hp5.buf
 go_wp2_with fail
 refine wp_region_still_tail 15 (by kernel_rfl) (by kernel_rfl) ?_
 simp only[List.take_succ_cons,List.take_zero,List.drop_succ_cons,List.drop_zero]
 change wpStill _ _ (w3.alloc (.cells #[.slice none 0 0] 111)).drew _ _ _
 repeat still_step
 still_call (calls_flip (len_c _ _ _ _ hn5.buf))
 repeat still_step
 try refine wpStill_nil ?_
 change wpList _ _ _ _ _ (w3.alloc (.cells #[.slice none 0 0] 111)).drew
 go_wp2_with fail
 refine(propsEnc_all _ g 50 _ _ 11 _ _ hcc5 hpa5 hpb5).mono ?_
 rintro e v5 ⟨rfl,dp5,hQ5⟩
 have hkq5:Keeps [] w3 v5:=((hpk5.trans (Keeps.drew _) (by simp)).trans hQ5.keeps (by simp))
 have hm5:=hb3.post hkq5
 go_wp2_with fail
 refine(bytes_c _ _ _ _ hQ5.buf).mono ?_
 rintro e w5 ⟨rfl,A5,c5,rfl,hr5,hA5⟩
 have hpl5:=pre_le s HS.o.hl 27
 have hvl5:=vlen_le (pre s 27).length (by omega)
 generalize hX5:vlen (pre s 27).length++pre s 27=X5 at hr5 ⊢
 have hxl5:X5.length≤110000000:=by rw[←hX5];simp only[List.length_append];omega
 have HX5:=hH hX5
 clear hX5
 go_wp2_with fail
 go_fit (write_c _ _ _ _ _ _ _ _ hm5.buf hr5 (by first|omega|(simp[lp_length,be2_length]<;>omega)))
 rintro e w10 ⟨rfl,d10,hB10⟩
 have hb10:=hm5.trans hB10
 have g11_88:=gc HP hb10.keeps 88
 go_wp2_with fail
 refine(write_c _ _ _ _ _ _ _ _ hb10.buf (R88.o.keep (HKW.o.trans2 hb10.keeps) (fun a ha=>by have:=a88 a ha;simp<;>omega)) (by simp[be2_length]<;>omega)).mono ?_
 rintro e w12 ⟨rfl,d12,hB12⟩
 have hb12:=hb10.trans hB12
 go_wp2_with fail
 refine(len_c _ _ _ _ hb12.buf).mono ?_
 rintro e w13 ⟨rfl,rfl⟩
 generalize hY:((([]++be2 id)++X5)++codes)=Y at hb12 ⊢
 have HY:=hH hY
 have hyl:Y.length<268435456:=by rw[←hY];simp[lp_length,be2_length]<;>omega
 clear hY
 have hkk:=HKW.o.trans2 hb12.keeps
 have k92:w12.cell? ⟨g,92,none⟩=some (pv 92):=HP.o.cell hkk (by simp<;>omega) 92 (by omega)
 have f92:w12.frozen? ⟨g,92,none⟩=false:=HP.o.frozen hkk (by simp<;>omega) 92
 obtain⟨t0,t1,t2,t3,t4⟩:=HP.o.tailCells hkk (by simp<;>omega) (Y.length:Int)
 have hBv:Buf (w12.setCell ⟨g,92,none⟩ (.int .i64 (Y.length:Int))) bb none []:=(hB.keep hkk (by simp<;>omega) (by simp)).keep (Keeps.setCell _ _ _) (by simp<;>omega) (by simp)
 go_wp2_with fail
 refine(header_c _ g 92 bb none [] 11 q Y.length dup ret HP.o.ht HP.o.hq hyl t0 t1 t2 t3 t4 hgb (by simp) hBv (by simp)).mono ?_
 rintro e wh ⟨rfl,dh,hBh⟩
 have hnb:=nbKeep hb12 HKW.o hg hblt (by omega) (Keeps.setCell w12 ⟨g,92,none⟩ (.int .i64 (Y.length:Int))) hBh.keeps
 have hvl:=vlen_le Y.length hyl
 go_wp2_with fail
 refine(bytes_c _ _ _ _ hnb).mono ?_
 rintro e wb ⟨rfl,Ab,cb,rfl,hrb,hAb⟩
 go_wp2_with fail
 go_fit (write_c _ _ _ _ _ _ _ _ hBh.buf hrb (by simp<;>omega))
 rintro e we ⟨rfl,de,hBe⟩
 go_wp2_with fail
 go_ret
 refine⟨rfl,?_⟩
 have hfin:=encTo_of hkk (by omega) (Keeps.setCell w12 ⟨g,92,none⟩ (.int .i64 (Y.length:Int))) (hBh.trans hBe)
 exact zC19
theorem zC7 {p:Prop} (h:p:=by
 rintro e wh ⟨rfl,dh,hBh⟩
 have hnb:=nbKeep hb3 HKW.o hg hblt (by omega) (Keeps.setCell w3 ⟨g,92,none⟩ (.int .i64 (Y.length:Int))) hBh.keeps
 have hvl:=vlen_le Y.length hyl
 go_wp2_with fail
 refine(bytes_c _ _ _ _ hnb).mono ?_
 rintro e wb ⟨rfl,Ab,cb,rfl,hrb,hAb⟩
 go_wp2_with fail
 go_fit (write_c _ _ _ _ _ _ _ _ hBh.buf hrb (by simp<;>omega))
 rintro e we ⟨rfl,de,hBe⟩
 go_wp2_with fail
 go_ret
 refine⟨rfl,?_⟩
 have hfin:=encTo_of hkk (by omega) (Keeps.setCell w3 ⟨g,92,none⟩ (.int .i64 (Y.length:Int))) (hBh.trans hBe)
 exact zC10
 ):p:=h
theorem unsubackEncode4_c (w:World) (g bb:Nat) (cs:Array Value) (pv:Nat→Value) (q:Nat) (dup ret:Bool) (id:Nat) (P:PkEnc w g cs pv 11 q dup ret 4)
 (hid:id<65536) (e102:pv 102=.int .u16 (id:Int)) (hB:Buf w bb none []) (hgb:g≠bb):
 Calls prog 55 #[.pointer (some ⟨g,0,none⟩),.pointer (some ⟨bb,0,none⟩)] w fun e w'=>e=.returned .nilIface∧EncTo w g bb (whole 11 q dup ret (be2 id)) w':=by
 have hg:=P.blk.lt
 have hblt:=hB.lt
 obtain⟨e93,e94,e95,e96,e99,e100,e101,e103⟩:=P.es
 have HP:=hH P
 clear P
 have hb0:=BufAt.refl (Buf.new w)
 obtain⟨HKW,HWS⟩:=al0 w
 have g1_102:=gc HP hb0.keeps 102
 obtain⟨BODY,hBODY⟩:∃B,be2 id=B:=⟨_,rfl⟩
 rw[hBODY]
 have HBODY:=hH hBODY
 clear hBODY
 go_enter func55,ntmps55
 go_wp2_with fail
 refine(encodeUint16_c _ id hid).mono ?_
 rintro e w2 ⟨A2,c2,rfl,hr2,hk2,hA2⟩
 have hb2:=hb0.post hk2
 go_wp2_with fail
 refine(write_c _ _ _ _ _ _ _ _ hb2.buf hr2 (by simp[lp_length,be2_length]<;>omega)).mono ?_
 rintro e w3 ⟨rfl,d3,hB3⟩
 have hb3:=hb2.trans hB3
 have g4_103:=gc HP hb3.keeps 103
 go_wp2_with fail
 refine(len_c _ _ _ _ hb3.buf).mono ?_
 rintro e w5 ⟨rfl,rfl⟩
 generalize hY:([]++be2 id)=Y at hb3 ⊢
 have HY:=hH hY
 have hyl:Y.length<268435456:=by rw[←hY];simp[lp_length,be2_length]<;>omega
 clear hY
 have hkk:=HKW.o.trans2 hb3.keeps
 have k92:w3.cell? ⟨g,92,none⟩=some (pv 92):=HP.o.cell hkk (by simp<;>omega) 92 (by omega)
 have f92:w3.frozen? ⟨g,92,none⟩=false:=HP.o.frozen hkk (by simp<;>omega) 92
 obtain⟨t0,t1,t2,t3,t4⟩:=HP.o.tailCells hkk (by simp<;>omega) (Y.length:Int)
 have hBv:Buf (w3.setCell ⟨g,92,none⟩ (.int .i64 (Y.length:Int))) bb none []:=(hB.keep hkk (by simp<;>omega) (by simp)).keep (Keeps.setCell _ _ _) (by simp<;>omega) (by simp)
 go_wp2_with fail
 refine(header_c _ g 92 bb none [] 11 q Y.length dup ret HP.o.ht HP.o.hq hyl t0 t1 t2 t3 t4 hgb (by simp) hBv (by simp)).mono ?_
 exact zC7
theorem zC8 {p:Prop} (h:p:=by
 have h1:=((HP.o.blk.keep hkk (by simp<;>omega)).set_ 92 (.int .i64 (R:Int)))
 have h2:=Blk.keep (w:=_) (w':=we) (S:=[bb]) (show Blk _ g 86 _ from h1.drew) hfin.keeps (by simpa using hgb)
 rw[h2.cell,Array.getElem?_setIfInBounds,if_neg (by omega),HP.o.at_ _ (by omega)]
 ):p:=h
theorem zC17 {p:Prop} (h:p:=by
 unfold whole
 rw[hy,List.length_append,←HR.o]
 simpa using hff
 ):p:=h
theorem zC3 {p:Prop} (h:p:=by
 have hvl:=vlen_le R hRl
 go_wp2_with fail
 refine(bytes_c _ _ _ _ hnb).mono ?_
 rintro e wb ⟨rfl,Ab,cb,rfl,hrb,hAb⟩
 go_wp2_with fail
 go_fit (write_c _ _ _ _ _ _ _ _ hBh.buf hrb (by simp<;>omega))
 rintro e we ⟨rfl,de,hBe⟩
 have hfin:=hBh.trans hBe
 have hkf:Keeps [g,bb] w we:=((hkk.mono (S':=[g,bb]) (by simp<;>omega)).trans hks (by simp)).trans hfin.keeps (by simp)
 have j87:we.cell? ⟨g,87,none⟩=some (pv 87):=by
  exact zC8
 have hsz:=HP.o.sz
 go_wp2_with fail
 go_fit (write_c _ _ _ _ _ _ _ _ hfin.buf (R87.o.keep (show Keeps [g,bb] w we from hkf) (fun a ha=>by have:=n87 a ha;simp;omega)) (by simp<;>omega))
 rintro e wf ⟨rfl,df,hBf⟩
 go_wp2_with fail
 go_ret
 refine⟨rfl,?_⟩
 have hff:=encTo_of hkk (by omega) hks (hfin.trans hBf)
 have hy:BODY=Y++payload:=by rw[←HBODY.o,←HY.o];simp[pbytes]
 exact zC17
 ):p:=h
theorem publishEncode4_c (w:World) (g bb:Nat) (cs:Array Value) (pv:Nat→Value) (q:Nat) (dup ret:Bool) (topic:ByteArray) (payload:List UInt8) (A0:Option Addr) (c0:Nat) (P:PkEnc w g cs pv 3 q dup ret 4)
 (htop:topic.size<65536) (e90:pv 90=.string topic) (e87:pv 87=.slice A0 payload.length c0) (r87:Rd w 1 A0 payload.length (bvs payload)) (a87:∀a,A0=some a→a.block<w.heap.size) (n87:∀a,A0=some a→a.block≠g∧a.block≠bb) (hpl:payload.length≤1000) (hq0:q=0) (hB:Buf w bb none []) (hgb:g≠bb):
 Calls prog 47 #[.pointer (some ⟨g,0,none⟩),.pointer (some ⟨bb,0,none⟩)] w fun e w'=>e=.returned .nilIface∧EncTo w g bb (whole 3 q dup ret (lp topic.data.toList++payload)) w':=by
 have hg:=P.blk.lt
 have hblt:=hB.lt
 obtain⟨e93,e94,e95,e96,e99,e100,e101,e103⟩:=P.es
 have HP:=hH P
 clear P
 have hb0:=BufAt.refl (Buf.new w)
 obtain⟨HKW,HWS⟩:=al0 w
 have R87:=hH r87
 clear r87
 have htl:=tl_len topic
 have HTL:=hH htl
 clear htl
 subst hq0
 have g1_90:=gc HP hb0.keeps 90
 obtain⟨BODY,hBODY⟩:∃B,lp topic.data.toList++payload=B:=⟨_,rfl⟩
 rw[hBODY]
 have HBODY:=hH hBODY
 clear hBODY
 go_enter func47,ntmps47
 go_wp2_with fail
 refine(encodeString_c _ topic htop).mono ?_
 rintro e w2 ⟨A2,c2,rfl,hr2,hk2,hA2⟩
 have hb2:=hb0.post hk2
 go_wp2_with fail
 refine(write_c _ _ _ _ _ _ _ _ hb2.buf hr2 (by rw[lp_length,HTL.o];simp<;>omega)).mono ?_
 rintro e w3 ⟨rfl,d3,hB3⟩
 have hb3:=hb2.trans hB3
 have g4_94:=gc HP hb3.keeps 94
 have g5_103:=gc HP hb3.keeps 103
 generalize hY:([]++lp topic.data.toList)=Y at hb3
 have HY:=hH hY
 have hyl:Y.length<200000000:=by rw[←hY];simp only[List.length_append,lp_length,be2_length,HTL.o,List.length_nil];omega
 clear hY
 have hkk:=HKW.o.trans2 hb3.keeps
 have hbd:=hb3.post (Keeps.drew _)
 have k87:w3.cell? ⟨g,87,none⟩=some (pv 87):=HP.o.cell hkk (by simp<;>omega) 87 (by omega)
 have k92:w3.cell? ⟨g,92,none⟩=some (pv 92):=HP.o.cell hkk (by simp<;>omega) 92 (by omega)
 have f92:w3.frozen? ⟨g,92,none⟩=false:=HP.o.frozen hkk (by simp<;>omega) 92
 obtain⟨R,hR⟩:∃R,R=Y.length+payload.length:=⟨_,rfl⟩
 have hRl:R<268435456:=by omega
 have hRz:(Y.length:Int)+(payload.length:Int)=(R:Int):=by omega
 have HR:=hH hR
 clear hR
 have HRZ:=hH hRz
 clear hRz
 go_wp2_with fail
 refine wp_region_still_tail 12 (by kernel_rfl) (by kernel_rfl) ?_
 simp only[List.take_succ_cons,List.take_zero,List.drop_succ_cons,List.drop_zero]
 change wpStill _ _ w3.drew _ _ _
 repeat still_step
 still_call (calls_flip (len_c _ _ _ _ hbd.buf))
 repeat still_step
 try refine wpStill_nil ?_
 change wpList _ _ _ _ _ w3.drew
 have hwr:IntKind.i64.wrap ((Y.length:Int)+(payload.length:Int))=(R:Int):=by rw[HRZ.o];exact IntWalk.i64_in _ (by omega)
 obtain⟨t0,t1,t2,t3,t4⟩:=HP.o.tailCells (HKW.o.trans2 hbd.keeps) (by simp<;>omega) (R:Int)
 have hBv:Buf (w3.drew.setCell ⟨g,92,none⟩ (.int .i64 (R:Int))) bb none []:=((hB.keep hkk (by simp<;>omega) (by simp)).keep (Keeps.drew _) (by simp) (by simp)).keep (Keeps.setCell _ _ _) (by simp<;>omega) (by simp)
 have ht1:(w3.setCell ⟨g,92,none⟩ (.int .i64 (R:Int))).drew=w3.drew.setCell ⟨g,92,none⟩ (.int .i64 (R:Int)):=rfl
 rw[←ht1] at t0 t1 t2 t3 t4 hBv
 clear ht1
 go_wp2_with fail
 go_fit (header_c _ g 92 bb none [] 3 0 R dup ret HP.o.ht HP.o.hq hRl t0 t1 t2 t3 t4 hgb (by simp) hBv (by simp))
 rintro e wh ⟨rfl,dh,hBh⟩
 have hks:Keeps [g] w3 (w3.setCell ⟨g,92,none⟩ (.int .i64 (R:Int))).drew:=(Keeps.setCell w3 ⟨g,92,none⟩ (.int .i64 (R:Int))).trans (Keeps.drew _) (by simp)
 have hnb:=nbKeep hb3 HKW.o hg hblt (by omega) hks hBh.keeps
 exact zC3
theorem publishEncode4q_c (w:World) (g bb:Nat) (cs:Array Value) (pv:Nat→Value) (q:Nat) (dup ret:Bool) (topic:ByteArray) (payload:List UInt8) (A0:Option Addr) (c0:Nat) (id:Nat) (P:PkEnc w g cs pv 3 q dup ret 4)
 (htop:topic.size<65536) (e90:pv 90=.string topic) (e87:pv 87=.slice A0 payload.length c0) (r87:Rd w 1 A0 payload.length (bvs payload)) (a87:∀a,A0=some a→a.block<w.heap.size) (n87:∀a,A0=some a→a.block≠g∧a.block≠bb) (hpl:payload.length≤1000) (hid:id<65536) (hid0:0<id) (e102:pv 102=.int .u16 (id:Int)) (hq0:0<q) (hB:Buf w bb none []) (hgb:g≠bb):
 Calls prog 47 #[.pointer (some ⟨g,0,none⟩),.pointer (some ⟨bb,0,none⟩)] w fun e w'=>e=.returned .nilIface∧EncTo w g bb (whole 3 q dup ret (lp topic.data.toList++be2 id++payload)) w':=by
 have hg:=P.blk.lt
 have hblt:=hB.lt
 obtain⟨e93,e94,e95,e96,e99,e100,e101,e103⟩:=P.es
 have HP:=hH P
 clear P
 have hb0:=BufAt.refl (Buf.new w)
 obtain⟨HKW,HWS⟩:=al0 w
 have R87:=hH r87
 clear r87
 have htl:=tl_len topic
 have HTL:=hH htl
 clear htl
 have hqz:(0:Int)<(q:Int):=by omega
 have hidz:((id:Int)==0)=false:=by simp;omega
 have g1_90:=gc HP hb0.keeps 90
 obtain⟨BODY,hBODY⟩:∃B,lp topic.data.toList++be2 id++payload=B:=⟨_,rfl⟩
 rw[hBODY]
 have HBODY:=hH hBODY
 clear hBODY
 go_enter func47,ntmps47
 go_wp2_with fail
 refine(encodeString_c _ topic htop).mono ?_
 rintro e w2 ⟨A2,c2,rfl,hr2,hk2,hA2⟩
 have hb2:=hb0.post hk2
 go_wp2_with fail
 refine(write_c _ _ _ _ _ _ _ _ hb2.buf hr2 (by rw[lp_length,HTL.o];simp<;>omega)).mono ?_
 rintro e w3 ⟨rfl,d3,hB3⟩
 have hb3:=hb2.trans hB3
 have g4_94:=gc HP hb3.keeps 94
 have g5_102:=gc HP hb3.keeps 102
 go_wp2_with fail
 refine(encodeUint16_c _ id hid).mono ?_
 rintro e w6 ⟨A6,c6,rfl,hr6,hk6,hA6⟩
 have hb6:=hb3.post hk6
 go_wp2_with fail
 refine(write_c _ _ _ _ _ _ _ _ hb6.buf hr6 (by simp only[List.length_append,lp_length,be2_length,HTL.o];simp<;>omega)).mono ?_
 rintro e w7 ⟨rfl,d7,hB7⟩
 have hb7:=hb6.trans hB7
 have g8_103:=gc HP hb7.keeps 103
 generalize hY:(([]++lp topic.data.toList)++be2 id)=Y at hb7
 have HY:=hH hY
 have hyl:Y.length<200000000:=by rw[←hY];simp only[List.length_append,lp_length,be2_length,HTL.o,List.length_nil];omega
 clear hY
 have hkk:=HKW.o.trans2 hb7.keeps
 have hbd:=hb7.post (Keeps.drew _)
 have k87:w7.cell? ⟨g,87,none⟩=some (pv 87):=HP.o.cell hkk (by simp<;>omega) 87 (by omega)
 have k92:w7.cell? ⟨g,92,none⟩=some (pv 92):=HP.o.cell hkk (by simp<;>omega) 92 (by omega)
 have f92:w7.frozen? ⟨g,92,none⟩=false:=HP.o.frozen hkk (by simp<;>omega) 92
 obtain⟨R,hR⟩:∃R,R=Y.length+payload.length:=⟨_,rfl⟩
 have hRl:R<268435456:=by omega
 have hRz:(Y.length:Int)+(payload.length:Int)=(R:Int):=by omega
 have HR:=hH hR
 clear hR
 have HRZ:=hH hRz
 clear hRz
 go_wp2_with fail
 refine wp_region_still_tail 12 (by kernel_rfl) (by kernel_rfl) ?_
 simp only[List.take_succ_cons,List.take_zero,List.drop_succ_cons,List.drop_zero]
 change wpStill _ _ w7.drew _ _ _
 repeat still_step
 still_call (calls_flip (len_c _ _ _ _ hbd.buf))
 repeat still_step
 try refine wpStill_nil ?_
 change wpList _ _ _ _ _ w7.drew
 have hwr:IntKind.i64.wrap ((Y.length:Int)+(payload.length:Int))=(R:Int):=by rw[HRZ.o];exact IntWalk.i64_in _ (by omega)
 obtain⟨t0,t1,t2,t3,t4⟩:=HP.o.tailCells (HKW.o.trans2 hbd.keeps) (by simp<;>omega) (R:Int)
 have hBv:Buf (w7.drew.setCell ⟨g,92,none⟩ (.int .i64 (R:Int))) bb none []:=((hB.keep hkk (by simp<;>omega) (by simp)).keep (Keeps.drew _) (by simp) (by simp)).keep (Keeps.setCell _ _ _) (by simp<;>omega) (by simp)
 have ht1:(w7.setCell ⟨g,92,none⟩ (.int .i64 (R:Int))).drew=w7.drew.setCell ⟨g,92,none⟩ (.int .i64 (R:Int)):=rfl
 rw[←ht1] at t0 t1 t2 t3 t4 hBv
 clear ht1
 go_wp2_with fail
 go_fit (header_c _ g 92 bb none [] 3 q R dup ret HP.o.ht HP.o.hq hRl t0 t1 t2 t3 t4 hgb (by simp) hBv (by simp))
 rintro e wh ⟨rfl,dh,hBh⟩
 have hks:Keeps [g] w7 (w7.setCell ⟨g,92,none⟩ (.int .i64 (R:Int))).drew:=(Keeps.setCell w7 ⟨g,92,none⟩ (.int .i64 (R:Int))).trans (Keeps.drew _) (by simp)
 have hnb:=nbKeep hb7 HKW.o hg hblt (by omega) hks hBh.keeps
 exact zC3
theorem publishEncode5_c (w:World) (g bb:Nat) (cs:Array Value) (pv:Nat→Value) (q:Nat) (dup ret:Bool) (topic:ByteArray) (payload:List UInt8) (A0:Option Addr) (c0:Nat) (P:PkEnc w g cs pv 3 q dup ret 5)
 (htop:topic.size<65536) (e90:pv 90=.string topic) (e87:pv 87=.slice A0 payload.length c0) (r87:Rd w 1 A0 payload.length (bvs payload)) (a87:∀a,A0=some a→a.block<w.heap.size) (n87:∀a,A0=some a→a.block≠g∧a.block≠bb) (hpl:payload.length≤1000) (hq0:q=0) (s:Nat→List UInt8) (hs:PAll w 3 (fun j=>pv (50+j)) s) (hB:Buf w bb none []) (hgb:g≠bb):
 Calls prog 47 #[.pointer (some ⟨g,0,none⟩),.pointer (some ⟨bb,0,none⟩)] w fun e w'=>e=.returned .nilIface∧EncTo w g bb (whole 3 q dup ret (lp topic.data.toList++pbytes s++payload)) w':=by
 have hg:=P.blk.lt
 have hblt:=hB.lt
 obtain⟨e93,e94,e95,e96,e99,e100,e101,e103⟩:=P.es
 have HP:=hH P
 clear P
 have hb0:=BufAt.refl (Buf.new w)
 obtain⟨HKW,HWS⟩:=al0 w
 have HS:=hH hs
 clear hs
 have R87:=hH r87
 clear r87
 have htl:=tl_len topic
 have HTL:=hH htl
 clear htl
 subst hq0
 have g1_90:=gc HP hb0.keeps 90
 obtain⟨BODY,hBODY⟩:∃B,lp topic.data.toList++pbytes s++payload=B:=⟨_,rfl⟩
 rw[hBODY]
 have HBODY:=hH hBODY
 clear hBODY
 go_enter func47,ntmps47
 go_wp2_with fail
 refine(encodeString_c _ topic htop).mono ?_
 rintro e w2 ⟨A2,c2,rfl,hr2,hk2,hA2⟩
 have hb2:=hb0.post hk2
 go_wp2_with fail
 refine(write_c _ _ _ _ _ _ _ _ hb2.buf hr2 (by rw[lp_length,HTL.o];simp<;>omega)).mono ?_
 rintro e w3 ⟨rfl,d3,hB3⟩
 have hb3:=hb2.trans hB3
 have g4_94:=gc HP hb3.keeps 94
 have g5_103:=gc HP hb3.keeps 103
 have hp6:=BufAt.refl (Buf.new w3)
 have hpk6:=Keeps.alloc w3 (.cells #[.slice none 0 0] 111)
 have hn6:=(hb3.post hpk6).post (Keeps.drew _)
 have g7_93:=gd HP hn6.keeps 93
 have g8_99:=gd HP hn6.keeps 99
 have g9_100:=gd HP hn6.keeps 100
 have g10_101:=gd HP hn6.keeps 101
 have g11_87:=gd HP hn6.keeps 87
 have hcc6:=HP.o.cells37 (HKW.o.trans2 hn6.keeps) (by simp<;>omega) 50 (by omega)
 have hpa6:=HS.o.keep ((HKW.o.trans2 hn6.keeps).mono (S':=[]) (by simp))
 have hpb6:Buf (w3.alloc (.cells #[.slice none 0 0] 111)).drew w3.heap.size none []:=hp6.buf
 go_wp2_with fail
 refine wp_region_still_tail 21 (by kernel_rfl) (by kernel_rfl) ?_
 simp only[List.take_succ_cons,List.take_zero,List.drop_succ_cons,List.drop_zero]
 change wpStill _ _ (w3.alloc (.cells #[.slice none 0 0] 111)).drew _ _ _
 repeat still_step
 still_call (calls_flip (len_c _ _ _ _ hn6.buf))
 repeat still_step
 try refine wpStill_nil ?_
 change wpList _ _ _ _ _ (w3.alloc (.cells #[.slice none 0 0] 111)).drew
 go_wp2_with fail
 refine(propsEnc_all _ g 50 _ _ 3 _ _ hcc6 hpa6 hpb6).mono ?_
 rintro e v6 ⟨rfl,dp6,hQ6⟩
 have hkq6:Keeps [] w3 v6:=((hpk6.trans (Keeps.drew _) (by simp)).trans hQ6.keeps (by simp))
 have hm6:=hb3.post hkq6
 go_wp2_with fail
 refine(bytes_c _ _ _ _ hQ6.buf).mono ?_
 rintro e w6 ⟨rfl,A6,c6,rfl,hr6,hA6⟩
 have hpl6:=pre_le s HS.o.hl 27
 have hvl6:=vlen_le (pre s 27).length (by omega)
 generalize hX6:vlen (pre s 27).length++pre s 27=X6 at hr6 ⊢
 have hxl6:X6.length≤110000000:=by rw[←hX6];simp only[List.length_append];omega
 have HX6:=hH hX6
 clear hX6
 go_wp2_with fail
 go_fit (write_c _ _ _ _ _ _ _ _ hm6.buf hr6 (by first|omega|(simp[lp_length,be2_length]<;>omega)))
 rintro e w12 ⟨rfl,d12,hB12⟩
 have hb12:=hm6.trans hB12
 generalize hY:(([]++lp topic.data.toList)++X6)=Y at hb12
 have HY:=hH hY
 have hyl:Y.length<200000000:=by rw[←hY];simp only[List.length_append,lp_length,be2_length,HTL.o,List.length_nil];omega
 clear hY
 have hkk:=HKW.o.trans2 hb12.keeps
 have hbd:=hb12.post (Keeps.drew _)
 have k87:w12.cell? ⟨g,87,none⟩=some (pv 87):=HP.o.cell hkk (by simp<;>omega) 87 (by omega)
 have k92:w12.cell? ⟨g,92,none⟩=some (pv 92):=HP.o.cell hkk (by simp<;>omega) 92 (by omega)
 have f92:w12.frozen? ⟨g,92,none⟩=false:=HP.o.frozen hkk (by simp<;>omega) 92
 obtain⟨R,hR⟩:∃R,R=Y.length+payload.length:=⟨_,rfl⟩
 have hRl:R<268435456:=by omega
 have hRz:(Y.length:Int)+(payload.length:Int)=(R:Int):=by omega
 have HR:=hH hR
 clear hR
 have HRZ:=hH hRz
 clear hRz
 go_wp2_with fail
 refine wp_region_still_tail 12 (by kernel_rfl) (by kernel_rfl) ?_
 simp only[List.take_succ_cons,List.take_zero,List.drop_succ_cons,List.drop_zero]
 change wpStill _ _ w12.drew _ _ _
 repeat still_step
 still_call (calls_flip (len_c _ _ _ _ hbd.buf))
 repeat still_step
 try refine wpStill_nil ?_
 change wpList _ _ _ _ _ w12.drew
 have hwr:IntKind.i64.wrap ((Y.length:Int)+(payload.length:Int))=(R:Int):=by rw[HRZ.o];exact IntWalk.i64_in _ (by omega)
 obtain⟨t0,t1,t2,t3,t4⟩:=HP.o.tailCells (HKW.o.trans2 hbd.keeps) (by simp<;>omega) (R:Int)
 have hBv:Buf (w12.drew.setCell ⟨g,92,none⟩ (.int .i64 (R:Int))) bb none []:=((hB.keep hkk (by simp<;>omega) (by simp)).keep (Keeps.drew _) (by simp) (by simp)).keep (Keeps.setCell _ _ _) (by simp<;>omega) (by simp)
 have ht1:(w12.setCell ⟨g,92,none⟩ (.int .i64 (R:Int))).drew=w12.drew.setCell ⟨g,92,none⟩ (.int .i64 (R:Int)):=rfl
 rw[←ht1] at t0 t1 t2 t3 t4 hBv
 clear ht1
 go_wp2_with fail
 go_fit (header_c _ g 92 bb none [] 3 0 R dup ret HP.o.ht HP.o.hq hRl t0 t1 t2 t3 t4 hgb (by simp) hBv (by simp))
 rintro e wh ⟨rfl,dh,hBh⟩
 have hks:Keeps [g] w12 (w12.setCell ⟨g,92,none⟩ (.int .i64 (R:Int))).drew:=(Keeps.setCell w12 ⟨g,92,none⟩ (.int .i64 (R:Int))).trans (Keeps.drew _) (by simp)
 have hnb:=nbKeep hb12 HKW.o hg hblt (by omega) hks hBh.keeps
 have hvl:=vlen_le R hRl
 go_wp2_with fail
 refine(bytes_c _ _ _ _ hnb).mono ?_
 rintro e wb ⟨rfl,Ab,cb,rfl,hrb,hAb⟩
 go_wp2_with fail
 go_fit (write_c _ _ _ _ _ _ _ _ hBh.buf hrb (by simp<;>omega))
 rintro e we ⟨rfl,de,hBe⟩
 have hfin:=hBh.trans hBe
 have hkf:Keeps [g,bb] w we:=((hkk.mono (S':=[g,bb]) (by simp<;>omega)).trans hks (by simp)).trans hfin.keeps (by simp)
 have j87:we.cell? ⟨g,87,none⟩=some (pv 87):=by
  exact zC8
 have hsz:=HP.o.sz
 go_wp2_with fail
 go_fit (write_c _ _ _ _ _ _ _ _ hfin.buf (R87.o.keep (show Keeps [g,bb] w we from hkf) (fun a ha=>by have:=n87 a ha;simp;omega)) (by simp<;>omega))
 rintro e wf ⟨rfl,df,hBf⟩
 go_wp2_with fail
 go_ret
 refine⟨rfl,?_⟩
 have hff:=encTo_of hkk (by omega) hks (hfin.trans hBf)
 have hy:BODY=Y++payload:=by rw[←HBODY.o,←HY.o,←HX6.o];simp[pbytes]
 exact zC17
theorem publishEncode5q_c (w:World) (g bb:Nat) (cs:Array Value) (pv:Nat→Value) (q:Nat) (dup ret:Bool) (topic:ByteArray) (payload:List UInt8) (A0:Option Addr) (c0:Nat) (id:Nat) (P:PkEnc w g cs pv 3 q dup ret 5)
 (htop:topic.size<65536) (e90:pv 90=.string topic) (e87:pv 87=.slice A0 payload.length c0) (r87:Rd w 1 A0 payload.length (bvs payload)) (a87:∀a,A0=some a→a.block<w.heap.size) (n87:∀a,A0=some a→a.block≠g∧a.block≠bb) (hpl:payload.length≤1000) (hid:id<65536) (hid0:0<id) (e102:pv 102=.int .u16 (id:Int)) (hq0:0<q) (s:Nat→List UInt8) (hs:PAll w 3 (fun j=>pv (50+j)) s) (hB:Buf w bb none []) (hgb:g≠bb):
 Calls prog 47 #[.pointer (some ⟨g,0,none⟩),.pointer (some ⟨bb,0,none⟩)] w fun e w'=>e=.returned .nilIface∧EncTo w g bb (whole 3 q dup ret (lp topic.data.toList++be2 id++pbytes s++payload)) w':=by
 have hg:=P.blk.lt
 have hblt:=hB.lt
 obtain⟨e93,e94,e95,e96,e99,e100,e101,e103⟩:=P.es
 have HP:=hH P
 clear P
 have hb0:=BufAt.refl (Buf.new w)
 obtain⟨HKW,HWS⟩:=al0 w
 have HS:=hH hs
 clear hs
 have R87:=hH r87
 clear r87
 have htl:=tl_len topic
 have HTL:=hH htl
 clear htl
 have hqz:(0:Int)<(q:Int):=by omega
 have hidz:((id:Int)==0)=false:=by simp;omega
 have g1_90:=gc HP hb0.keeps 90
 obtain⟨BODY,hBODY⟩:∃B,lp topic.data.toList++be2 id++pbytes s++payload=B:=⟨_,rfl⟩
 rw[hBODY]
 have HBODY:=hH hBODY
 clear hBODY
 go_enter func47,ntmps47
 go_wp2_with fail
 refine(encodeString_c _ topic htop).mono ?_
 rintro e w2 ⟨A2,c2,rfl,hr2,hk2,hA2⟩
 have hb2:=hb0.post hk2
 go_wp2_with fail
 refine(write_c _ _ _ _ _ _ _ _ hb2.buf hr2 (by rw[lp_length,HTL.o];simp<;>omega)).mono ?_
 rintro e w3 ⟨rfl,d3,hB3⟩
 have hb3:=hb2.trans hB3
 have g4_94:=gc HP hb3.keeps 94
 have g5_102:=gc HP hb3.keeps 102
 go_wp2_with fail
 refine(encodeUint16_c _ id hid).mono ?_
 rintro e w6 ⟨A6,c6,rfl,hr6,hk6,hA6⟩
 have hb6:=hb3.post hk6
 go_wp2_with fail
 refine(write_c _ _ _ _ _ _ _ _ hb6.buf hr6 (by simp only[List.length_append,lp_length,be2_length,HTL.o];simp<;>omega)).mono ?_
 rintro e w7 ⟨rfl,d7,hB7⟩
 have hb7:=hb6.trans hB7
 have g8_103:=gc HP hb7.keeps 103
 have hp9:=BufAt.refl (Buf.new w7)
 have hpk9:=Keeps.alloc w7 (.cells #[.slice none 0 0] 111)
 have hn9:=(hb7.post hpk9).post (Keeps.drew _)
 have g10_93:=gd HP hn9.keeps 93
 have g11_99:=gd HP hn9.keeps 99
 have g12_100:=gd HP hn9.keeps 100
 have g13_101:=gd HP hn9.keeps 101
 have g14_87:=gd HP hn9.keeps 87
 have hcc9:=HP.o.cells37 (HKW.o.trans2 hn9.keeps) (by simp<;>omega) 50 (by omega)
 have hpa9:=HS.o.keep ((HKW.o.trans2 hn9.keeps).mono (S':=[]) (by simp))
 have hpb9:Buf (w7.alloc (.cells #[.slice none 0 0] 111)).drew w7.heap.size none []:=hp9.buf
 go_wp2_with fail
 refine wp_region_still_tail 21 (by kernel_rfl) (by kernel_rfl) ?_
 simp only[List.take_succ_cons,List.take_zero,List.drop_succ_cons,List.drop_zero]
 change wpStill _ _ (w7.alloc (.cells #[.slice none 0 0] 111)).drew _ _ _
 repeat still_step
 still_call (calls_flip (len_c _ _ _ _ hn9.buf))
 repeat still_step
 try refine wpStill_nil ?_
 change wpList _ _ _ _ _ (w7.alloc (.cells #[.slice none 0 0] 111)).drew
 go_wp2_with fail
 refine(propsEnc_all _ g 50 _ _ 3 _ _ hcc9 hpa9 hpb9).mono ?_
 rintro e v9 ⟨rfl,dp9,hQ9⟩
 have hkq9:Keeps [] w7 v9:=((hpk9.trans (Keeps.drew _) (by simp)).trans hQ9.keeps (by simp))
 have hm9:=hb7.post hkq9
 go_wp2_with fail
 refine(bytes_c _ _ _ _ hQ9.buf).mono ?_
 rintro e w9 ⟨rfl,A9,c9,rfl,hr9,hA9⟩
 have hpl9:=pre_le s HS.o.hl 27
 have hvl9:=vlen_le (pre s 27).length (by omega)
 generalize hX9:vlen (pre s 27).length++pre s 27=X9 at hr9 ⊢
 have hxl9:X9.length≤110000000:=by rw[←hX9];simp only[List.length_append];omega
 have HX9:=hH hX9
 clear hX9
 go_wp2_with fail
 go_fit (write_c _ _ _ _ _ _ _ _ hm9.buf hr9 (by first|omega|(simp[lp_length,be2_length]<;>omega)))
 rintro e w15 ⟨rfl,d15,hB15⟩
 have hb15:=hm9.trans hB15
 generalize hY:((([]++lp topic.data.toList)++be2 id)++X9)=Y at hb15
 have HY:=hH hY
 have hyl:Y.length<200000000:=by rw[←hY];simp only[List.length_append,lp_length,be2_length,HTL.o,List.length_nil];omega
 clear hY
 have hkk:=HKW.o.trans2 hb15.keeps
 have hbd:=hb15.post (Keeps.drew _)
 have k87:w15.cell? ⟨g,87,none⟩=some (pv 87):=HP.o.cell hkk (by simp<;>omega) 87 (by omega)
 have k92:w15.cell? ⟨g,92,none⟩=some (pv 92):=HP.o.cell hkk (by simp<;>omega) 92 (by omega)
 have f92:w15.frozen? ⟨g,92,none⟩=false:=HP.o.frozen hkk (by simp<;>omega) 92
 obtain⟨R,hR⟩:∃R,R=Y.length+payload.length:=⟨_,rfl⟩
 have hRl:R<268435456:=by omega
 have hRz:(Y.length:Int)+(payload.length:Int)=(R:Int):=by omega
 have HR:=hH hR
 clear hR
 have HRZ:=hH hRz
 clear hRz
 go_wp2_with fail
 refine wp_region_still_tail 12 (by kernel_rfl) (by kernel_rfl) ?_
 simp only[List.take_succ_cons,List.take_zero,List.drop_succ_cons,List.drop_zero]
 change wpStill _ _ w15.drew _ _ _
 repeat still_step
 still_call (calls_flip (len_c _ _ _ _ hbd.buf))
 repeat still_step
 try refine wpStill_nil ?_
 change wpList _ _ _ _ _ w15.drew
 have hwr:IntKind.i64.wrap ((Y.length:Int)+(payload.length:Int))=(R:Int):=by rw[HRZ.o];exact IntWalk.i64_in _ (by omega)
 obtain⟨t0,t1,t2,t3,t4⟩:=HP.o.tailCells (HKW.o.trans2 hbd.keeps) (by simp<;>omega) (R:Int)
 have hBv:Buf (w15.drew.setCell ⟨g,92,none⟩ (.int .i64 (R:Int))) bb none []:=((hB.keep hkk (by simp<;>omega) (by simp)).keep (Keeps.drew _) (by simp) (by simp)).keep (Keeps.setCell _ _ _) (by simp<;>omega) (by simp)
 have ht1:(w15.setCell ⟨g,92,none⟩ (.int .i64 (R:Int))).drew=w15.drew.setCell ⟨g,92,none⟩ (.int .i64 (R:Int)):=rfl
 rw[←ht1] at t0 t1 t2 t3 t4 hBv
 clear ht1
 go_wp2_with fail
 go_fit (header_c _ g 92 bb none [] 3 q R dup ret HP.o.ht HP.o.hq hRl t0 t1 t2 t3 t4 hgb (by simp) hBv (by simp))
 rintro e wh ⟨rfl,dh,hBh⟩
 have hks:Keeps [g] w15 (w15.setCell ⟨g,92,none⟩ (.int .i64 (R:Int))).drew:=(Keeps.setCell w15 ⟨g,92,none⟩ (.int .i64 (R:Int))).trans (Keeps.drew _) (by simp)
 have hnb:=nbKeep hb15 HKW.o hg hblt (by omega) hks hBh.keeps
 have hvl:=vlen_le R hRl
 go_wp2_with fail
 refine(bytes_c _ _ _ _ hnb).mono ?_
 rintro e wb ⟨rfl,Ab,cb,rfl,hrb,hAb⟩
 go_wp2_with fail
 go_fit (write_c _ _ _ _ _ _ _ _ hBh.buf hrb (by simp<;>omega))
 rintro e we ⟨rfl,de,hBe⟩
 have hfin:=hBh.trans hBe
 have hkf:Keeps [g,bb] w we:=((hkk.mono (S':=[g,bb]) (by simp<;>omega)).trans hks (by simp)).trans hfin.keeps (by simp)
 have j87:we.cell? ⟨g,87,none⟩=some (pv 87):=by
  exact zC8
 have hsz:=HP.o.sz
 go_wp2_with fail
 go_fit (write_c _ _ _ _ _ _ _ _ hfin.buf (R87.o.keep (show Keeps [g,bb] w we from hkf) (fun a ha=>by have:=n87 a ha;simp;omega)) (by simp<;>omega))
 rintro e wf ⟨rfl,df,hBf⟩
 go_wp2_with fail
 go_ret
 refine⟨rfl,?_⟩
 have hff:=encTo_of hkk (by omega) hks (hfin.trans hBf)
 have hy:BODY=Y++payload:=by rw[←HBODY.o,←HY.o,←HX9.o];simp[pbytes]
 exact zC17
theorem puback4_c (w:World) (g bb:Nat) (cs:Array Value) (pv:Nat→Value) (q:Nat) (dup ret:Bool) (t id:Nat) (P:PkEnc w g cs pv t q dup ret 4)
 (hid:id<65536) (e102:pv 102=.int .u16 (id:Int)) (hB:Buf w bb none []) (hgb:g≠bb):
 Calls prog 89 #[.pointer (some ⟨g,0,none⟩),.pointer (some ⟨bb,0,none⟩)] w fun e w'=>e=.returned .nilIface∧EncTo w g bb (whole t q dup ret (be2 id)) w':=by
 have hg:=P.blk.lt
 have hblt:=hB.lt
 obtain⟨e93,e94,e95,e96,e99,e100,e101,e103⟩:=P.es
 have HP:=hH P
 clear P
 have hb0:=BufAt.refl (Buf.new w)
 obtain⟨HKW,HWS⟩:=al0 w
 have g1_102:=gc HP hb0.keeps 102
 obtain⟨BODY,hBODY⟩:∃B,be2 id=B:=⟨_,rfl⟩
 rw[hBODY]
 have HBODY:=hH hBODY
 clear hBODY
 go_enter func89,ntmps89
 go_wp2_with fail
 refine(encodeUint16_c _ id hid).mono ?_
 rintro e w2 ⟨A2,c2,rfl,hr2,hk2,hA2⟩
 have hb2:=hb0.post hk2
 go_wp2_with fail
 refine(write_c _ _ _ _ _ _ _ _ hb2.buf hr2 (by simp[lp_length,be2_length]<;>omega)).mono ?_
 rintro e w3 ⟨rfl,d3,hB3⟩
 have hb3:=hb2.trans hB3
 have g4_103:=gc HP hb3.keeps 103
 go_wp2_with fail
 refine(len_c _ _ _ _ hb3.buf).mono ?_
 rintro e w5 ⟨rfl,rfl⟩
 generalize hY:([]++be2 id)=Y at hb3 ⊢
 have HY:=hH hY
 have hyl:Y.length<268435456:=by rw[←hY];simp[lp_length,be2_length]<;>omega
 clear hY
 have hkk:=HKW.o.trans2 hb3.keeps
 have k92:w3.cell? ⟨g,92,none⟩=some (pv 92):=HP.o.cell hkk (by simp<;>omega) 92 (by omega)
 have f92:w3.frozen? ⟨g,92,none⟩=false:=HP.o.frozen hkk (by simp<;>omega) 92
 obtain⟨t0,t1,t2,t3,t4⟩:=HP.o.tailCells hkk (by simp<;>omega) (Y.length:Int)
 have hBv:Buf (w3.setCell ⟨g,92,none⟩ (.int .i64 (Y.length:Int))) bb none []:=(hB.keep hkk (by simp<;>omega) (by simp)).keep (Keeps.setCell _ _ _) (by simp<;>omega) (by simp)
 go_wp2_with fail
 refine(header_c _ g 92 bb none [] t q Y.length dup ret HP.o.ht HP.o.hq hyl t0 t1 t2 t3 t4 hgb (by simp) hBv (by simp)).mono ?_
 exact zC7
theorem pubackn_c (w:World) (g bb:Nat) (cs:Array Value) (pv:Nat→Value) (q:Nat) (dup ret:Bool) (t id:Nat) (code:UInt8) (s:Nat→List UInt8) (P:PkEnc w g cs pv t q dup ret 5)
 (hid:id<65536) (e102:pv 102=.int .u16 (id:Int)) (e105:pv 105=.int .u8 (code.toNat:Int)) (h21:w.cell? ⟨21,1,none⟩=some (.int .u8 128)) (hcode:code.toNat<128) (hpe:pre s 27=[]) (hs:PAll w t (fun j=>pv (50+j)) s) (hB:Buf w bb none []) (hgb:g≠bb):
 Calls prog 89 #[.pointer (some ⟨g,0,none⟩),.pointer (some ⟨bb,0,none⟩)] w fun e w'=>e=.returned .nilIface∧EncTo w g bb (whole t q dup ret (be2 id)) w':=by
 have hg:=P.blk.lt
 have hblt:=hB.lt
 obtain⟨e93,e94,e95,e96,e99,e100,e101,e103⟩:=P.es
 have HP:=hH P
 clear P
 have hb0:=BufAt.refl (Buf.new w)
 obtain⟨HKW,HWS⟩:=al0 w
 have HS:=hH hs
 clear hs
 have g21lt:21<w.heap.size:=World.block_lt_of_cell? w _ h21
 have g1_102:=gc HP hb0.keeps 102
 obtain⟨BODY,hBODY⟩:∃B,be2 id=B:=⟨_,rfl⟩
 rw[hBODY]
 have HBODY:=hH hBODY
 clear hBODY
 go_enter func89,ntmps89
 go_wp2_with fail
 refine(encodeUint16_c _ id hid).mono ?_
 rintro e w2 ⟨A2,c2,rfl,hr2,hk2,hA2⟩
 have hb2:=hb0.post hk2
 go_wp2_with fail
 refine(write_c _ _ _ _ _ _ _ _ hb2.buf hr2 (by simp[lp_length,be2_length]<;>omega)).mono ?_
 rintro e w3 ⟨rfl,d3,hB3⟩
 have hb3:=hb2.trans hB3
 have g4_103:=gc HP hb3.keeps 103
 have hp5:=BufAt.refl (Buf.new w3)
 have hpk5:=Keeps.alloc w3 (.cells #[.slice none 0 0] 111)
 have hn5:=(hb3.post hpk5).post (Keeps.drew _)
 have g6_93:=gd HP hn5.keeps 93
 have g7_99:=gd HP hn5.keeps 99
 have g8_100:=gd HP hn5.keeps 100
 have g9_101:=gd HP hn5.keeps 101
 have hcc5:=HP.o.cells37 (HKW.o.trans2 hn5.keeps) (by simp<;>omega) 50 (by omega)
 have hpa5:=HS.o.keep ((HKW.o.trans2 hn5.keeps).mono (S':=[]) (by simp))
 have hpb5:Buf (w3.alloc (.cells #[.slice none 0 0] 111)).drew w3.heap.size none []:=hp5.buf
 go_wp2_with fail
 refine wp_region_still_tail 15 (by kernel_rfl) (by kernel_rfl) ?_
 simp only[List.take_succ_cons,List.take_zero,List.drop_succ_cons,List.drop_zero]
 change wpStill _ _ (w3.alloc (.cells #[.slice none 0 0] 111)).drew _ _ _
 repeat still_step
 still_call (calls_flip (len_c _ _ _ _ hn5.buf))
 repeat still_step
 try refine wpStill_nil ?_
 change wpList _ _ _ _ _ (w3.alloc (.cells #[.slice none 0 0] 111)).drew
 go_wp2_with fail
 refine(propsEnc_all _ g 50 _ _ t _ _ hcc5 hpa5 hpb5).mono ?_
 rintro e v5 ⟨rfl,dp5,hQ5⟩
 have hkq5:Keeps [] w3 v5:=((hpk5.trans (Keeps.drew _) (by simp)).trans hQ5.keeps (by simp))
 have hm5:=hb3.post hkq5
 have hpl5:=pre_le s HS.o.hl 27
 have hvl5:=vlen_le (pre s 27).length (by omega)
 have hvp5:=vlen_pos (pre s 27).length
 obtain⟨X5,hX5⟩:∃X,vlen (pre s 27).length++pre s 27=X:=⟨_,rfl⟩
 have hxl5:X5.length≤110000000:=by rw[←hX5];simp only[List.length_append];omega
 have hxg5:X5.length=1:=by rw[←hX5,hpe,vlen_lo (by simp)];rfl
 have hxz5:decide ((1:Int)<(X5.length:Int))=false:=decide_eq_false (by omega)
 rw[hX5] at hQ5
 have HX5:=hH hX5
 clear hX5
 have g10_105:=gc HP hm5.keeps 105
 have g21:v5.cell? ⟨21,1,none⟩=some (.int .u8 128):=(HKW.o.trans2 hm5.keeps).some_ h21 (by simp<;>omega)
 have hc1:¬((128:Int)≤(code.toNat:Int)):=by omega
 have hc1d:decide ((128:Int)≤(code.toNat:Int))=false:=decide_eq_false hc1
 go_wp2_with fail
 go_quiet ((go_at_call 87;exact Calls.quiet_of_same (calls_flip (len_c _ _ _ _ (hQ5.buf.keep (Keeps.drewN v5 _) (by simp) (by simp))))))
 have hm2:=hm5.post (Keeps.drewN v5 nq)
 have hQ2:=hQ5.buf.keep (Keeps.drewN v5 nq) (by simp) (by simp)
 go_wp2_with fail
 refine(len_c _ _ _ _ hQ2).mono ?_
 rintro e ww ⟨rfl,rfl⟩
 go_wp2_with fail
 refine(len_c _ _ _ _ hm2.buf).mono ?_
 rintro e w11 ⟨rfl,rfl⟩
 generalize hY:([]++be2 id)=Y at hm2 ⊢
 have HY:=hH hY
 have hyl:Y.length<268435456:=by rw[←hY];simp[lp_length,be2_length]<;>omega
 clear hY
 have hkk:=HKW.o.trans2 hm2.keeps
 have k92:(v5.drewN nq).cell? ⟨g,92,none⟩=some (pv 92):=HP.o.cell hkk (by simp<;>omega) 92 (by omega)
 have f92:(v5.drewN nq).frozen? ⟨g,92,none⟩=false:=HP.o.frozen hkk (by simp<;>omega) 92
 obtain⟨t0,t1,t2,t3,t4⟩:=HP.o.tailCells hkk (by simp<;>omega) (Y.length:Int)
 have hBv:Buf ((v5.drewN nq).setCell ⟨g,92,none⟩ (.int .i64 (Y.length:Int))) bb none []:=(hB.keep hkk (by simp<;>omega) (by simp)).keep (Keeps.setCell _ _ _) (by simp<;>omega) (by simp)
 go_wp2_with fail
 refine(header_c _ g 92 bb none [] t q Y.length dup ret HP.o.ht HP.o.hq hyl t0 t1 t2 t3 t4 hgb (by simp) hBv (by simp)).mono ?_
 rintro e wh ⟨rfl,dh,hBh⟩
 have hnb:=nbKeep hm2 HKW.o hg hblt (by omega) (Keeps.setCell (v5.drewN nq) ⟨g,92,none⟩ (.int .i64 (Y.length:Int))) hBh.keeps
 have hvl:=vlen_le Y.length hyl
 go_wp2_with fail
 refine(bytes_c _ _ _ _ hnb).mono ?_
 rintro e wb ⟨rfl,Ab,cb,rfl,hrb,hAb⟩
 go_wp2_with fail
 go_fit (write_c _ _ _ _ _ _ _ _ hBh.buf hrb (by simp<;>omega))
 rintro e we ⟨rfl,de,hBe⟩
 go_wp2_with fail
 go_ret
 refine⟨rfl,?_⟩
 have hfin:=encTo_of hkk (by omega) (Keeps.setCell (v5.drewN nq) ⟨g,92,none⟩ (.int .i64 (Y.length:Int))) (hBh.trans hBe)
 exact zC10
theorem pubackc_c (w:World) (g bb:Nat) (cs:Array Value) (pv:Nat→Value) (q:Nat) (dup ret:Bool) (t id:Nat) (code:UInt8) (s:Nat→List UInt8) (P:PkEnc w g cs pv t q dup ret 5)
 (hid:id<65536) (e102:pv 102=.int .u16 (id:Int)) (e105:pv 105=.int .u8 (code.toNat:Int)) (h21:w.cell? ⟨21,1,none⟩=some (.int .u8 128)) (hcode:128≤code.toNat) (hpe:pre s 27=[]) (hs:PAll w t (fun j=>pv (50+j)) s) (hB:Buf w bb none []) (hgb:g≠bb):
 Calls prog 89 #[.pointer (some ⟨g,0,none⟩),.pointer (some ⟨bb,0,none⟩)] w fun e w'=>e=.returned .nilIface∧EncTo w g bb (whole t q dup ret (be2 id++[code])) w':=by
 have hg:=P.blk.lt
 have hblt:=hB.lt
 obtain⟨e93,e94,e95,e96,e99,e100,e101,e103⟩:=P.es
 have HP:=hH P
 clear P
 have hb0:=BufAt.refl (Buf.new w)
 obtain⟨HKW,HWS⟩:=al0 w
 have HS:=hH hs
 clear hs
 have g21lt:21<w.heap.size:=World.block_lt_of_cell? w _ h21
 have g1_102:=gc HP hb0.keeps 102
 obtain⟨BODY,hBODY⟩:∃B,be2 id++[code]=B:=⟨_,rfl⟩
 rw[hBODY]
 have HBODY:=hH hBODY
 clear hBODY
 go_enter func89,ntmps89
 go_wp2_with fail
 refine(encodeUint16_c _ id hid).mono ?_
 rintro e w2 ⟨A2,c2,rfl,hr2,hk2,hA2⟩
 have hb2:=hb0.post hk2
 go_wp2_with fail
 refine(write_c _ _ _ _ _ _ _ _ hb2.buf hr2 (by simp[lp_length,be2_length]<;>omega)).mono ?_
 rintro e w3 ⟨rfl,d3,hB3⟩
 have hb3:=hb2.trans hB3
 have g4_103:=gc HP hb3.keeps 103
 have hp5:=BufAt.refl (Buf.new w3)
 have hpk5:=Keeps.alloc w3 (.cells #[.slice none 0 0] 111)
 have hn5:=(hb3.post hpk5).post (Keeps.drew _)
 have g6_93:=gd HP hn5.keeps 93
 have g7_99:=gd HP hn5.keeps 99
 have g8_100:=gd HP hn5.keeps 100
 have g9_101:=gd HP hn5.keeps 101
 have hcc5:=HP.o.cells37 (HKW.o.trans2 hn5.keeps) (by simp<;>omega) 50 (by omega)
 have hpa5:=HS.o.keep ((HKW.o.trans2 hn5.keeps).mono (S':=[]) (by simp))
 have hpb5:Buf (w3.alloc (.cells #[.slice none 0 0] 111)).drew w3.heap.size none []:=hp5.buf
 go_wp2_with fail
 refine wp_region_still_tail 15 (by kernel_rfl) (by kernel_rfl) ?_
 simp only[List.take_succ_cons,List.take_zero,List.drop_succ_cons,List.drop_zero]
 change wpStill _ _ (w3.alloc (.cells #[.slice none 0 0] 111)).drew _ _ _
 repeat still_step
 still_call (calls_flip (len_c _ _ _ _ hn5.buf))
 repeat still_step
 try refine wpStill_nil ?_
 change wpList _ _ _ _ _ (w3.alloc (.cells #[.slice none 0 0] 111)).drew
 go_wp2_with fail
 refine(propsEnc_all _ g 50 _ _ t _ _ hcc5 hpa5 hpb5).mono ?_
 rintro e v5 ⟨rfl,dp5,hQ5⟩
 have hkq5:Keeps [] w3 v5:=((hpk5.trans (Keeps.drew _) (by simp)).trans hQ5.keeps (by simp))
 have hm5:=hb3.post hkq5
 have hpl5:=pre_le s HS.o.hl 27
 have hvl5:=vlen_le (pre s 27).length (by omega)
 have hvp5:=vlen_pos (pre s 27).length
 obtain⟨X5,hX5⟩:∃X,vlen (pre s 27).length++pre s 27=X:=⟨_,rfl⟩
 have hxl5:X5.length≤110000000:=by rw[←hX5];simp only[List.length_append];omega
 have hxg5:X5.length=1:=by rw[←hX5,hpe,vlen_lo (by simp)];rfl
 have hxz5:decide ((1:Int)<(X5.length:Int))=false:=decide_eq_false (by omega)
 rw[hX5] at hQ5
 have HX5:=hH hX5
 clear hX5
 have g10_105:=gc HP hm5.keeps 105
 have g21:v5.cell? ⟨21,1,none⟩=some (.int .u8 128):=(HKW.o.trans2 hm5.keeps).some_ h21 (by simp<;>omega)
 have hc1:((128:Int)≤(code.toNat:Int)):=by omega
 have hc1d:decide ((128:Int)≤(code.toNat:Int))=true:=decide_eq_true hc1
 go_wp2_with fail
 go_quiet ((go_at_call 87;exact Calls.quiet_of_same (calls_flip (len_c _ _ _ _ (hQ5.buf.keep (Keeps.drewN v5 _) (by simp) (by simp))))))
 have hm2:=hm5.post (Keeps.drewN v5 nq)
 have hQ2:=hQ5.buf.keep (Keeps.drewN v5 nq) (by simp) (by simp)
 have g11_105:=gc HP hm2.keeps 105
 go_wp2_with fail
 refine(writeByte_c _ _ _ _ (code) _ (rfl) hm2.buf (by simp[be2_length]<;>omega)).mono ?_
 rintro e w12 ⟨rfl,d12,hB12⟩
 have hb12:=hm2.trans hB12
 have hQ3:=pbKeep hb3 (Nat.le_refl _) (by simp) hQ5 hQ2 hB12
 go_wp2_with fail
 refine(len_c _ _ _ _ hQ3).mono ?_
 rintro e ww ⟨rfl,rfl⟩
 go_wp2_with fail
 refine(len_c _ _ _ _ hb12.buf).mono ?_
 rintro e w13 ⟨rfl,rfl⟩
 generalize hY:(([]++be2 id)++[code])=Y at hb12 ⊢
 have HY:=hH hY
 have hyl:Y.length<268435456:=by rw[←hY];simp[lp_length,be2_length]<;>omega
 clear hY
 have hkk:=HKW.o.trans2 hb12.keeps
 have k92:w12.cell? ⟨g,92,none⟩=some (pv 92):=HP.o.cell hkk (by simp<;>omega) 92 (by omega)
 have f92:w12.frozen? ⟨g,92,none⟩=false:=HP.o.frozen hkk (by simp<;>omega) 92
 obtain⟨t0,t1,t2,t3,t4⟩:=HP.o.tailCells hkk (by simp<;>omega) (Y.length:Int)
 have hBv:Buf (w12.setCell ⟨g,92,none⟩ (.int .i64 (Y.length:Int))) bb none []:=(hB.keep hkk (by simp<;>omega) (by simp)).keep (Keeps.setCell _ _ _) (by simp<;>omega) (by simp)
 go_wp2_with fail
 refine(header_c _ g 92 bb none [] t q Y.length dup ret HP.o.ht HP.o.hq hyl t0 t1 t2 t3 t4 hgb (by simp) hBv (by simp)).mono ?_
 rintro e wh ⟨rfl,dh,hBh⟩
 have hnb:=nbKeep hb12 HKW.o hg hblt (by omega) (Keeps.setCell w12 ⟨g,92,none⟩ (.int .i64 (Y.length:Int))) hBh.keeps
 have hvl:=vlen_le Y.length hyl
 go_wp2_with fail
 refine(bytes_c _ _ _ _ hnb).mono ?_
 rintro e wb ⟨rfl,Ab,cb,rfl,hrb,hAb⟩
 go_wp2_with fail
 go_fit (write_c _ _ _ _ _ _ _ _ hBh.buf hrb (by simp<;>omega))
 rintro e we ⟨rfl,de,hBe⟩
 go_wp2_with fail
 go_ret
 refine⟨rfl,?_⟩
 have hfin:=encTo_of hkk (by omega) (Keeps.setCell w12 ⟨g,92,none⟩ (.int .i64 (Y.length:Int))) (hBh.trans hBe)
 exact zC10
theorem zC2 {p:Prop} (h:p:=by
 go_wp2_with fail
 go_quiet ((go_at_call 87;exact Calls.quiet_of_same (calls_flip (len_c _ _ _ _ (hQ5.buf.keep (Keeps.drewN v5 _) (by simp) (by simp))))))
 have hm2:=hm5.post (Keeps.drewN v5 nq)
 have hQ2:=hQ5.buf.keep (Keeps.drewN v5 nq) (by simp) (by simp)
 have g11_105:=gc HP hm2.keeps 105
 go_wp2_with fail
 refine(writeByte_c _ _ _ _ (code) _ (rfl) hm2.buf (by simp[be2_length]<;>omega)).mono ?_
 rintro e w12 ⟨rfl,d12,hB12⟩
 have hb12:=hm2.trans hB12
 have hQ3:=pbKeep hb3 (Nat.le_refl _) (by simp) hQ5 hQ2 hB12
 go_wp2_with fail
 refine(len_c _ _ _ _ hQ3).mono ?_
 rintro e ww ⟨rfl,rfl⟩
 go_wp2_with fail
 refine(bytes_c _ _ _ _ hQ3).mono ?_
 rintro e w9 ⟨rfl,A9,c9,rfl,hr9,hA9⟩
 go_wp2_with fail
 go_fit (write_c _ _ _ _ _ _ _ _ hb12.buf hr9 (by simp[lp_length,be2_length]<;>omega))
 rintro e w13 ⟨rfl,d13,hB13⟩
 have hb13:=hb12.trans hB13
 go_wp2_with fail
 refine(len_c _ _ _ _ hb13.buf).mono ?_
 rintro e w14 ⟨rfl,rfl⟩
 generalize hY:((([]++be2 id)++[code])++X5)=Y at hb13 ⊢
 have HY:=hH hY
 have hyl:Y.length<268435456:=by rw[←hY];simp[lp_length,be2_length]<;>omega
 clear hY
 have hkk:=HKW.o.trans2 hb13.keeps
 have k92:w13.cell? ⟨g,92,none⟩=some (pv 92):=HP.o.cell hkk (by simp<;>omega) 92 (by omega)
 have f92:w13.frozen? ⟨g,92,none⟩=false:=HP.o.frozen hkk (by simp<;>omega) 92
 obtain⟨t0,t1,t2,t3,t4⟩:=HP.o.tailCells hkk (by simp<;>omega) (Y.length:Int)
 have hBv:Buf (w13.setCell ⟨g,92,none⟩ (.int .i64 (Y.length:Int))) bb none []:=(hB.keep hkk (by simp<;>omega) (by simp)).keep (Keeps.setCell _ _ _) (by simp<;>omega) (by simp)
 go_wp2_with fail
 refine(header_c _ g 92 bb none [] t q Y.length dup ret HP.o.ht HP.o.hq hyl t0 t1 t2 t3 t4 hgb (by simp) hBv (by simp)).mono ?_
 exact zC6
 ):p:=h
theorem pubackpl_c (w:World) (g bb:Nat) (cs:Array Value) (pv:Nat→Value) (q:Nat) (dup ret:Bool) (t id:Nat) (code:UInt8) (s:Nat→List UInt8) (P:PkEnc w g cs pv t q dup ret 5)
 (hid:id<65536) (e102:pv 102=.int .u16 (id:Int)) (e105:pv 105=.int .u8 (code.toNat:Int)) (h21:w.cell? ⟨21,1,none⟩=some (.int .u8 128)) (hcode:code.toNat<128) (hpe:pre s 27≠[]) (hs:PAll w t (fun j=>pv (50+j)) s) (hB:Buf w bb none []) (hgb:g≠bb):
 Calls prog 89 #[.pointer (some ⟨g,0,none⟩),.pointer (some ⟨bb,0,none⟩)] w fun e w'=>e=.returned .nilIface∧EncTo w g bb (whole t q dup ret (be2 id++[code]++pbytes s)) w':=by
 have hg:=P.blk.lt
 have hblt:=hB.lt
 obtain⟨e93,e94,e95,e96,e99,e100,e101,e103⟩:=P.es
 have HP:=hH P
 clear P
 have hb0:=BufAt.refl (Buf.new w)
 obtain⟨HKW,HWS⟩:=al0 w
 have HS:=hH hs
 clear hs
 have hpn:0<(pre s 27).length:=by cases h:pre s 27 with|nil=>exact absurd h hpe|cons a l=>simp
 have g21lt:21<w.heap.size:=World.block_lt_of_cell? w _ h21
 have g1_102:=gc HP hb0.keeps 102
 obtain⟨BODY,hBODY⟩:∃B,be2 id++[code]++pbytes s=B:=⟨_,rfl⟩
 rw[hBODY]
 have HBODY:=hH hBODY
 clear hBODY
 go_enter func89,ntmps89
 go_wp2_with fail
 refine(encodeUint16_c _ id hid).mono ?_
 rintro e w2 ⟨A2,c2,rfl,hr2,hk2,hA2⟩
 have hb2:=hb0.post hk2
 go_wp2_with fail
 refine(write_c _ _ _ _ _ _ _ _ hb2.buf hr2 (by simp[lp_length,be2_length]<;>omega)).mono ?_
 rintro e w3 ⟨rfl,d3,hB3⟩
 have hb3:=hb2.trans hB3
 have g4_103:=gc HP hb3.keeps 103
 have hp5:=BufAt.refl (Buf.new w3)
 have hpk5:=Keeps.alloc w3 (.cells #[.slice none 0 0] 111)
 have hn5:=(hb3.post hpk5).post (Keeps.drew _)
 have g6_93:=gd HP hn5.keeps 93
 have g7_99:=gd HP hn5.keeps 99
 have g8_100:=gd HP hn5.keeps 100
 have g9_101:=gd HP hn5.keeps 101
 have hcc5:=HP.o.cells37 (HKW.o.trans2 hn5.keeps) (by simp<;>omega) 50 (by omega)
 have hpa5:=HS.o.keep ((HKW.o.trans2 hn5.keeps).mono (S':=[]) (by simp))
 have hpb5:Buf (w3.alloc (.cells #[.slice none 0 0] 111)).drew w3.heap.size none []:=hp5.buf
 go_wp2_with fail
 refine wp_region_still_tail 15 (by kernel_rfl) (by kernel_rfl) ?_
 simp only[List.take_succ_cons,List.take_zero,List.drop_succ_cons,List.drop_zero]
 change wpStill _ _ (w3.alloc (.cells #[.slice none 0 0] 111)).drew _ _ _
 repeat still_step
 still_call (calls_flip (len_c _ _ _ _ hn5.buf))
 repeat still_step
 try refine wpStill_nil ?_
 change wpList _ _ _ _ _ (w3.alloc (.cells #[.slice none 0 0] 111)).drew
 go_wp2_with fail
 refine(propsEnc_all _ g 50 _ _ t _ _ hcc5 hpa5 hpb5).mono ?_
 rintro e v5 ⟨rfl,dp5,hQ5⟩
 have hkq5:Keeps [] w3 v5:=((hpk5.trans (Keeps.drew _) (by simp)).trans hQ5.keeps (by simp))
 have hm5:=hb3.post hkq5
 have hpl5:=pre_le s HS.o.hl 27
 have hvl5:=vlen_le (pre s 27).length (by omega)
 have hvp5:=vlen_pos (pre s 27).length
 obtain⟨X5,hX5⟩:∃X,vlen (pre s 27).length++pre s 27=X:=⟨_,rfl⟩
 have hxl5:X5.length≤110000000:=by rw[←hX5];simp only[List.length_append];omega
 have hxg5:1<X5.length:=by rw[←hX5];simp only[List.length_append];omega
 have hxz5:decide ((1:Int)<(X5.length:Int))=true:=decide_eq_true (by omega)
 rw[hX5] at hQ5
 have HX5:=hH hX5
 clear hX5
 have g10_105:=gc HP hm5.keeps 105
 have g21:v5.cell? ⟨21,1,none⟩=some (.int .u8 128):=(HKW.o.trans2 hm5.keeps).some_ h21 (by simp<;>omega)
 have hc1:¬((128:Int)≤(code.toNat:Int)):=by omega
 have hc1d:decide ((128:Int)≤(code.toNat:Int))=false:=decide_eq_false hc1
 exact zC2
theorem pubackph_c (w:World) (g bb:Nat) (cs:Array Value) (pv:Nat→Value) (q:Nat) (dup ret:Bool) (t id:Nat) (code:UInt8) (s:Nat→List UInt8) (P:PkEnc w g cs pv t q dup ret 5)
 (hid:id<65536) (e102:pv 102=.int .u16 (id:Int)) (e105:pv 105=.int .u8 (code.toNat:Int)) (h21:w.cell? ⟨21,1,none⟩=some (.int .u8 128)) (hcode:128≤code.toNat) (hpe:pre s 27≠[]) (hs:PAll w t (fun j=>pv (50+j)) s) (hB:Buf w bb none []) (hgb:g≠bb):
 Calls prog 89 #[.pointer (some ⟨g,0,none⟩),.pointer (some ⟨bb,0,none⟩)] w fun e w'=>e=.returned .nilIface∧EncTo w g bb (whole t q dup ret (be2 id++[code]++pbytes s)) w':=by
 have hg:=P.blk.lt
 have hblt:=hB.lt
 obtain⟨e93,e94,e95,e96,e99,e100,e101,e103⟩:=P.es
 have HP:=hH P
 clear P
 have hb0:=BufAt.refl (Buf.new w)
 obtain⟨HKW,HWS⟩:=al0 w
 have HS:=hH hs
 clear hs
 have hpn:0<(pre s 27).length:=by cases h:pre s 27 with|nil=>exact absurd h hpe|cons a l=>simp
 have g21lt:21<w.heap.size:=World.block_lt_of_cell? w _ h21
 have g1_102:=gc HP hb0.keeps 102
 obtain⟨BODY,hBODY⟩:∃B,be2 id++[code]++pbytes s=B:=⟨_,rfl⟩
 rw[hBODY]
 have HBODY:=hH hBODY
 clear hBODY
 go_enter func89,ntmps89
 go_wp2_with fail
 refine(encodeUint16_c _ id hid).mono ?_
 rintro e w2 ⟨A2,c2,rfl,hr2,hk2,hA2⟩
 have hb2:=hb0.post hk2
 go_wp2_with fail
 refine(write_c _ _ _ _ _ _ _ _ hb2.buf hr2 (by simp[lp_length,be2_length]<;>omega)).mono ?_
 rintro e w3 ⟨rfl,d3,hB3⟩
 have hb3:=hb2.trans hB3
 have g4_103:=gc HP hb3.keeps 103
 have hp5:=BufAt.refl (Buf.new w3)
 have hpk5:=Keeps.alloc w3 (.cells #[.slice none 0 0] 111)
 have hn5:=(hb3.post hpk5).post (Keeps.drew _)
 have g6_93:=gd HP hn5.keeps 93
 have g7_99:=gd HP hn5.keeps 99
 have g8_100:=gd HP hn5.keeps 100
 have g9_101:=gd HP hn5.keeps 101
 have hcc5:=HP.o.cells37 (HKW.o.trans2 hn5.keeps) (by simp<;>omega) 50 (by omega)
 have hpa5:=HS.o.keep ((HKW.o.trans2 hn5.keeps).mono (S':=[]) (by simp))
 have hpb5:Buf (w3.alloc (.cells #[.slice none 0 0] 111)).drew w3.heap.size none []:=hp5.buf
 go_wp2_with fail
 refine wp_region_still_tail 15 (by kernel_rfl) (by kernel_rfl) ?_
 simp only[List.take_succ_cons,List.take_zero,List.drop_succ_cons,List.drop_zero]
 change wpStill _ _ (w3.alloc (.cells #[.slice none 0 0] 111)).drew _ _ _
 repeat still_step
 still_call (calls_flip (len_c _ _ _ _ hn5.buf))
 repeat still_step
 try refine wpStill_nil ?_
 change wpList _ _ _ _ _ (w3.alloc (.cells #[.slice none 0 0] 111)).drew
 go_wp2_with fail
 refine(propsEnc_all _ g 50 _ _ t _ _ hcc5 hpa5 hpb5).mono ?_
 rintro e v5 ⟨rfl,dp5,hQ5⟩
 have hkq5:Keeps [] w3 v5:=((hpk5.trans (Keeps.drew _) (by simp)).trans hQ5.keeps (by simp))
 have hm5:=hb3.post hkq5
 have hpl5:=pre_le s HS.o.hl 27
 have hvl5:=vlen_le (pre s 27).length (by omega)
 have hvp5:=vlen_pos (pre s 27).length
 obtain⟨X5,hX5⟩:∃X,vlen (pre s 27).length++pre s 27=X:=⟨_,rfl⟩
 have hxl5:X5.length≤110000000:=by rw[←hX5];simp only[List.length_append];omega
 have hxg5:1<X5.length:=by rw[←hX5];simp only[List.length_append];omega
 have hxz5:decide ((1:Int)<(X5.length:Int))=true:=decide_eq_true (by omega)
 rw[hX5] at hQ5
 have HX5:=hH hX5
 clear hX5
 have g10_105:=gc HP hm5.keeps 105
 have g21:v5.cell? ⟨21,1,none⟩=some (.int .u8 128):=(HKW.o.trans2 hm5.keeps).some_ h21 (by simp<;>omega)
 have hc1:((128:Int)≤(code.toNat:Int)):=by omega
 have hc1d:decide ((128:Int)≤(code.toNat:Int))=true:=decide_eq_true hc1
 exact zC2
theorem zC11 {p:Prop} (h:p:=by
 go_wp2_with fail
 refine h0.o.mono ?_
 rintro e w' ⟨rfl,hq⟩
 go_wp2_with fail
 go_ret
 exact⟨rfl,hq⟩
 ):p:=h
theorem pubackEncode_c (w:World) (g bb:Nat) (Q:Ending→World→Prop) (h:Calls prog 89 #[.pointer (some ⟨g,0,none⟩),.pointer (some ⟨bb,0,none⟩)] w fun e w'=>e=.returned .nilIface∧Q e w'):
 Calls prog 48 #[.pointer (some ⟨g,0,none⟩),.pointer (some ⟨bb,0,none⟩)] w fun e w'=>e=.returned .nilIface∧Q e w':=by
 have h0:=hH h
 clear h
 go_enter func48,ntmps48
 exact zC11
theorem pubrecEncode_c (w:World) (g bb:Nat) (Q:Ending→World→Prop) (h:Calls prog 89 #[.pointer (some ⟨g,0,none⟩),.pointer (some ⟨bb,0,none⟩)] w fun e w'=>e=.returned .nilIface∧Q e w'):
 Calls prog 49 #[.pointer (some ⟨g,0,none⟩),.pointer (some ⟨bb,0,none⟩)] w fun e w'=>e=.returned .nilIface∧Q e w':=by
 have h0:=hH h
 clear h
 go_enter func49,ntmps49
 exact zC11
theorem pubrelEncode_c (w:World) (g bb:Nat) (Q:Ending→World→Prop) (h:Calls prog 89 #[.pointer (some ⟨g,0,none⟩),.pointer (some ⟨bb,0,none⟩)] w fun e w'=>e=.returned .nilIface∧Q e w'):
 Calls prog 50 #[.pointer (some ⟨g,0,none⟩),.pointer (some ⟨bb,0,none⟩)] w fun e w'=>e=.returned .nilIface∧Q e w':=by
 have h0:=hH h
 clear h
 go_enter func50,ntmps50
 exact zC11
theorem pubcompEncode_c (w:World) (g bb:Nat) (Q:Ending→World→Prop) (h:Calls prog 89 #[.pointer (some ⟨g,0,none⟩),.pointer (some ⟨bb,0,none⟩)] w fun e w'=>e=.returned .nilIface∧Q e w'):
 Calls prog 51 #[.pointer (some ⟨g,0,none⟩),.pointer (some ⟨bb,0,none⟩)] w fun e w'=>e=.returned .nilIface∧Q e w':=by
 have h0:=hH h
 clear h
 go_enter func51,ntmps51
 exact zC11
theorem disconnectEncode5_c (w:World) (g bb:Nat) (cs:Array Value) (pv:Nat→Value) (q:Nat) (dup ret:Bool) (code:UInt8) (P:PkEnc w g cs pv 14 q dup ret 5)
 (e105:pv 105=.int .u8 (code.toNat:Int)) (s:Nat→List UInt8) (hs:PAll w 14 (fun j=>pv (50+j)) s) (hB:Buf w bb none []) (hgb:g≠bb):
 Calls prog 58 #[.pointer (some ⟨g,0,none⟩),.pointer (some ⟨bb,0,none⟩)] w fun e w'=>e=.returned .nilIface∧EncTo w g bb (whole 14 q dup ret ([code]++pbytes s)) w':=by
 have hg:=P.blk.lt
 have hblt:=hB.lt
 obtain⟨e93,e94,e95,e96,e99,e100,e101,e103⟩:=P.es
 have HP:=hH P
 clear P
 have hb0:=BufAt.refl (Buf.new w)
 obtain⟨HKW,HWS⟩:=al0 w
 have HS:=hH hs
 clear hs
 have g1_103:=gc HP hb0.keeps 103
 have g2_105:=gc HP hb0.keeps 105
 obtain⟨BODY,hBODY⟩:∃B,[code]++pbytes s=B:=⟨_,rfl⟩
 rw[hBODY]
 have HBODY:=hH hBODY
 clear hBODY
 go_enter func58,ntmps58
 go_wp2_with fail
 refine(writeByte_c _ _ _ _ (code) _ (rfl) hb0.buf (by simp)).mono ?_
 rintro e w3 ⟨rfl,d3,hB3⟩
 have hb3:=hb0.trans hB3
 have hp4:=BufAt.refl (Buf.new w3)
 have hpk4:=Keeps.alloc w3 (.cells #[.slice none 0 0] 111)
 have hn4:=(hb3.post hpk4).post (Keeps.drew _)
 have g5_93:=gd HP hn4.keeps 93
 have g6_99:=gd HP hn4.keeps 99
 have g7_100:=gd HP hn4.keeps 100
 have g8_101:=gd HP hn4.keeps 101
 have hcc4:=HP.o.cells37 (HKW.o.trans2 hn4.keeps) (by simp<;>omega) 50 (by omega)
 have hpa4:=HS.o.keep ((HKW.o.trans2 hn4.keeps).mono (S':=[]) (by simp))
 have hpb4:Buf (w3.alloc (.cells #[.slice none 0 0] 111)).drew w3.heap.size none []:=hp4.buf
 go_wp2_with fail
 refine wp_region_still_tail 15 (by kernel_rfl) (by kernel_rfl) ?_
 simp only[List.take_succ_cons,List.take_zero,List.drop_succ_cons,List.drop_zero]
 change wpStill _ _ (w3.alloc (.cells #[.slice none 0 0] 111)).drew _ _ _
 repeat still_step
 still_call (calls_flip (len_c _ _ _ _ hn4.buf))
 repeat still_step
 try refine wpStill_nil ?_
 change wpList _ _ _ _ _ (w3.alloc (.cells #[.slice none 0 0] 111)).drew
 go_wp2_with fail
 refine(propsEnc_all _ g 50 _ _ 14 _ _ hcc4 hpa4 hpb4).mono ?_
 rintro e v4 ⟨rfl,dp4,hQ4⟩
 have hkq4:Keeps [] w3 v4:=((hpk4.trans (Keeps.drew _) (by simp)).trans hQ4.keeps (by simp))
 have hm4:=hb3.post hkq4
 go_wp2_with fail
 refine(bytes_c _ _ _ _ hQ4.buf).mono ?_
 rintro e w4 ⟨rfl,A4,c4,rfl,hr4,hA4⟩
 have hpl4:=pre_le s HS.o.hl 27
 have hvl4:=vlen_le (pre s 27).length (by omega)
 generalize hX4:vlen (pre s 27).length++pre s 27=X4 at hr4 ⊢
 have hxl4:X4.length≤110000000:=by rw[←hX4];simp only[List.length_append];omega
 have HX4:=hH hX4
 clear hX4
 go_wp2_with fail
 go_fit (write_c _ _ _ _ _ _ _ _ hm4.buf hr4 (by first|omega|(simp[lp_length,be2_length]<;>omega)))
 rintro e w9 ⟨rfl,d9,hB9⟩
 have hb9:=hm4.trans hB9
 go_wp2_with fail
 refine(len_c _ _ _ _ hb9.buf).mono ?_
 rintro e w10 ⟨rfl,rfl⟩
 generalize hY:(([]++[code])++X4)=Y at hb9 ⊢
 have HY:=hH hY
 have hyl:Y.length<268435456:=by rw[←hY];simp[lp_length,be2_length]<;>omega
 clear hY
 have hkk:=HKW.o.trans2 hb9.keeps
 have k92:w9.cell? ⟨g,92,none⟩=some (pv 92):=HP.o.cell hkk (by simp<;>omega) 92 (by omega)
 have f92:w9.frozen? ⟨g,92,none⟩=false:=HP.o.frozen hkk (by simp<;>omega) 92
 obtain⟨t0,t1,t2,t3,t4⟩:=HP.o.tailCells hkk (by simp<;>omega) (Y.length:Int)
 have hBv:Buf (w9.setCell ⟨g,92,none⟩ (.int .i64 (Y.length:Int))) bb none []:=(hB.keep hkk (by simp<;>omega) (by simp)).keep (Keeps.setCell _ _ _) (by simp<;>omega) (by simp)
 go_wp2_with fail
 refine(header_c _ g 92 bb none [] 14 q Y.length dup ret HP.o.ht HP.o.hq hyl t0 t1 t2 t3 t4 hgb (by simp) hBv (by simp)).mono ?_
 rintro e wh ⟨rfl,dh,hBh⟩
 have hnb:=nbKeep hb9 HKW.o hg hblt (by omega) (Keeps.setCell w9 ⟨g,92,none⟩ (.int .i64 (Y.length:Int))) hBh.keeps
 have hvl:=vlen_le Y.length hyl
 go_wp2_with fail
 refine(bytes_c _ _ _ _ hnb).mono ?_
 rintro e wb ⟨rfl,Ab,cb,rfl,hrb,hAb⟩
 go_wp2_with fail
 go_fit (write_c _ _ _ _ _ _ _ _ hBh.buf hrb (by simp<;>omega))
 rintro e we ⟨rfl,de,hBe⟩
 go_wp2_with fail
 go_ret
 refine⟨rfl,?_⟩
 have hfin:=encTo_of hkk (by omega) (Keeps.setCell w9 ⟨g,92,none⟩ (.int .i64 (Y.length:Int))) (hBh.trans hBe)
 have hy:BODY=Y:=by rw[←HBODY.o,←HY.o,←HX4.o];simp[pbytes]
 unfold whole
 rw[hy]
 simpa using hfin
theorem disconnectEncode4_c (w:World) (g bb:Nat) (cs:Array Value) (pv:Nat→Value) (q:Nat) (dup ret:Bool) (P:PkEnc w g cs pv 14 q dup ret 4)
 (hB:Buf w bb none []) (hgb:g≠bb):
 Calls prog 58 #[.pointer (some ⟨g,0,none⟩),.pointer (some ⟨bb,0,none⟩)] w fun e w'=>e=.returned .nilIface∧EncTo w g bb (whole 14 q dup ret ([])) w':=by
 have hg:=P.blk.lt
 have hblt:=hB.lt
 obtain⟨e93,e94,e95,e96,e99,e100,e101,e103⟩:=P.es
 have HP:=hH P
 clear P
 have hb0:=BufAt.refl (Buf.new w)
 obtain⟨HKW,HWS⟩:=al0 w
 have g1_103:=gc HP hb0.keeps 103
 go_enter func58,ntmps58
 go_wp2_with fail
 refine(len_c _ _ _ _ hb0.buf).mono ?_
 rintro e w2 ⟨rfl,rfl⟩
 have hyl:0<268435456:=by omega
 have hkk:=HKW.o.trans2 hb0.keeps
 have k92:(w.alloc (.cells #[.slice none 0 0] 111)).cell? ⟨g,92,none⟩=some (pv 92):=HP.o.cell hkk (by simp<;>omega) 92 (by omega)
 have f92:(w.alloc (.cells #[.slice none 0 0] 111)).frozen? ⟨g,92,none⟩=false:=HP.o.frozen hkk (by simp<;>omega) 92
 obtain⟨t0,t1,t2,t3,t4⟩:=HP.o.tailCells hkk (by simp<;>omega) (0:Int)
 have hBv:Buf ((w.alloc (.cells #[.slice none 0 0] 111)).setCell ⟨g,92,none⟩ (.int .i64 (0:Int))) bb none []:=(hB.keep hkk (by simp<;>omega) (by simp)).keep (Keeps.setCell _ _ _) (by simp<;>omega) (by simp)
 go_wp2_with fail
 have hsw:=swap_set_alloc w g 92 (.int .i64 0) (.cells #[.slice none 0 0] 111) hg
 rw[←hsw] at t0 t1 t2 t3 t4 hBv
 refine(header_c _ g 92 bb none [] 14 q 0 dup ret HP.o.ht HP.o.hq hyl t0 t1 t2 t3 t4 hgb (by simp) hBv (by simp)).mono ?_
 rintro e wh ⟨rfl,dh,hBh⟩
 rw[hsw] at hBh
 clear hsw t0 t1 t2 t3 t4
 have hnb:=nbKeep hb0 HKW.o hg hblt (by omega) (Keeps.setCell (w.alloc (.cells #[.slice none 0 0] 111)) ⟨g,92,none⟩ (.int .i64 (0:Int))) hBh.keeps
 have hvl:=vlen_le 0 hyl
 go_wp2_with fail
 refine(bytes_c _ _ _ _ hnb).mono ?_
 rintro e wb ⟨rfl,Ab,cb,rfl,hrb,hAb⟩
 go_wp2_with fail
 go_fit (write_c _ _ _ _ _ _ _ _ hBh.buf hrb (by simp<;>omega))
 rintro e we ⟨rfl,de,hBe⟩
 go_wp2_with fail
 go_ret
 refine⟨rfl,?_⟩
 have hfin:=encTo_of hkk (by omega) (Keeps.setCell (w.alloc (.cells #[.slice none 0 0] 111)) ⟨g,92,none⟩ (.int .i64 (0:Int))) (hBh.trans hBe)
 skip
 unfold whole
 skip
 simpa using hfin
theorem authEncode_c (w:World) (g bb:Nat) (cs:Array Value) (pv:Nat→Value) (q:Nat) (dup ret:Bool) (code:UInt8) (P:PkEnc w g cs pv 15 q dup ret 5)
 (e105:pv 105=.int .u8 (code.toNat:Int)) (s:Nat→List UInt8) (hs:PAll w 15 (fun j=>pv (50+j)) s) (hB:Buf w bb none []) (hgb:g≠bb):
 Calls prog 59 #[.pointer (some ⟨g,0,none⟩),.pointer (some ⟨bb,0,none⟩)] w fun e w'=>e=.returned .nilIface∧EncTo w g bb (whole 15 q dup ret ([code]++pbytes s)) w':=by
 have hg:=P.blk.lt
 have hblt:=hB.lt
 obtain⟨e93,e94,e95,e96,e99,e100,e101,e103⟩:=P.es
 have HP:=hH P
 clear P
 have hb0:=BufAt.refl (Buf.new w)
 obtain⟨HKW,HWS⟩:=al0 w
 have HS:=hH hs
 clear hs
 have g1_105:=gc HP hb0.keeps 105
 obtain⟨BODY,hBODY⟩:∃B,[code]++pbytes s=B:=⟨_,rfl⟩
 rw[hBODY]
 have HBODY:=hH hBODY
 clear hBODY
 go_enter func59,ntmps59
 go_wp2_with fail
 refine(writeByte_c _ _ _ _ (code) _ (rfl) hb0.buf (by simp)).mono ?_
 rintro e w2 ⟨rfl,d2,hB2⟩
 have hb2:=hb0.trans hB2
 have hp3:=BufAt.refl (Buf.new w2)
 have hpk3:=Keeps.alloc w2 (.cells #[.slice none 0 0] 111)
 have hn3:=(hb2.post hpk3).post (Keeps.drew _)
 have g4_93:=gd HP hn3.keeps 93
 have g5_99:=gd HP hn3.keeps 99
 have g6_100:=gd HP hn3.keeps 100
 have g7_101:=gd HP hn3.keeps 101
 have hcc3:=HP.o.cells37 (HKW.o.trans2 hn3.keeps) (by simp<;>omega) 50 (by omega)
 have hpa3:=HS.o.keep ((HKW.o.trans2 hn3.keeps).mono (S':=[]) (by simp))
 have hpb3:Buf (w2.alloc (.cells #[.slice none 0 0] 111)).drew w2.heap.size none []:=hp3.buf
 go_wp2_with fail
 refine wp_region_still_tail 15 (by kernel_rfl) (by kernel_rfl) ?_
 simp only[List.take_succ_cons,List.take_zero,List.drop_succ_cons,List.drop_zero]
 change wpStill _ _ (w2.alloc (.cells #[.slice none 0 0] 111)).drew _ _ _
 repeat still_step
 still_call (calls_flip (len_c _ _ _ _ hn3.buf))
 repeat still_step
 try refine wpStill_nil ?_
 change wpList _ _ _ _ _ (w2.alloc (.cells #[.slice none 0 0] 111)).drew
 go_wp2_with fail
 refine(propsEnc_all _ g 50 _ _ 15 _ _ hcc3 hpa3 hpb3).mono ?_
 rintro e v3 ⟨rfl,dp3,hQ3⟩
 have hkq3:Keeps [] w2 v3:=((hpk3.trans (Keeps.drew _) (by simp)).trans hQ3.keeps (by simp))
 have hm3:=hb2.post hkq3
 go_wp2_with fail
 refine(bytes_c _ _ _ _ hQ3.buf).mono ?_
 rintro e w3 ⟨rfl,A3,c3,rfl,hr3,hA3⟩
 have hpl3:=pre_le s HS.o.hl 27
 have hvl3:=vlen_le (pre s 27).length (by omega)
 generalize hX3:vlen (pre s 27).length++pre s 27=X3 at hr3 ⊢
 have hxl3:X3.length≤110000000:=by rw[←hX3];simp only[List.length_append];omega
 have HX3:=hH hX3
 clear hX3
 go_wp2_with fail
 go_fit (write_c _ _ _ _ _ _ _ _ hm3.buf hr3 (by first|omega|(simp[lp_length,be2_length]<;>omega)))
 rintro e w8 ⟨rfl,d8,hB8⟩
 have hb8:=hm3.trans hB8
 go_wp2_with fail
 refine(len_c _ _ _ _ hb8.buf).mono ?_
 rintro e w9 ⟨rfl,rfl⟩
 generalize hY:(([]++[code])++X3)=Y at hb8 ⊢
 have HY:=hH hY
 have hyl:Y.length<268435456:=by rw[←hY];simp[lp_length,be2_length]<;>omega
 clear hY
 have hkk:=HKW.o.trans2 hb8.keeps
 have k92:w8.cell? ⟨g,92,none⟩=some (pv 92):=HP.o.cell hkk (by simp<;>omega) 92 (by omega)
 have f92:w8.frozen? ⟨g,92,none⟩=false:=HP.o.frozen hkk (by simp<;>omega) 92
 obtain⟨t0,t1,t2,t3,t4⟩:=HP.o.tailCells hkk (by simp<;>omega) (Y.length:Int)
 have hBv:Buf (w8.setCell ⟨g,92,none⟩ (.int .i64 (Y.length:Int))) bb none []:=(hB.keep hkk (by simp<;>omega) (by simp)).keep (Keeps.setCell _ _ _) (by simp<;>omega) (by simp)
 go_wp2_with fail
 refine(header_c _ g 92 bb none [] 15 q Y.length dup ret HP.o.ht HP.o.hq hyl t0 t1 t2 t3 t4 hgb (by simp) hBv (by simp)).mono ?_
 rintro e wh ⟨rfl,dh,hBh⟩
 have hnb:=nbKeep hb8 HKW.o hg hblt (by omega) (Keeps.setCell w8 ⟨g,92,none⟩ (.int .i64 (Y.length:Int))) hBh.keeps
 have hvl:=vlen_le Y.length hyl
 go_wp2_with fail
 refine(bytes_c _ _ _ _ hnb).mono ?_
 rintro e wb ⟨rfl,Ab,cb,rfl,hrb,hAb⟩
 go_wp2_with fail
 go_fit (write_c _ _ _ _ _ _ _ _ hBh.buf hrb (by simp<;>omega))
 rintro e we ⟨rfl,de,hBe⟩
 go_wp2_with fail
 go_ret
 refine⟨rfl,?_⟩
 have hfin:=encTo_of hkk (by omega) (Keeps.setCell w8 ⟨g,92,none⟩ (.int .i64 (Y.length:Int))) (hBh.trans hBe)
 have hy:BODY=Y:=by rw[←HBODY.o,←HY.o,←HX3.o];simp[pbytes]
 unfold whole
 rw[hy]
 simpa using hfin
theorem zC4 {p:Prop} (h:p:=by
 rintro e wh ⟨rfl,dh,hBh⟩
 have hnb:=nbKeep hb12 HKW.o hg hblt (by omega) (Keeps.setCell w12 ⟨g,92,none⟩ (.int .i64 (Y.length:Int))) hBh.keeps
 have hvl:=vlen_le Y.length hyl
 go_wp2_with fail
 refine(bytes_c _ _ _ _ hnb).mono ?_
 rintro e wb ⟨rfl,Ab,cb,rfl,hrb,hAb⟩
 go_wp2_with fail
 go_fit (write_c _ _ _ _ _ _ _ _ hBh.buf hrb (by simp<;>omega))
 rintro e we ⟨rfl,de,hBe⟩
 go_wp2_with fail
 go_ret
 refine⟨rfl,?_⟩
 have hfin:=encTo_of hkk (by omega) (Keeps.setCell w12 ⟨g,92,none⟩ (.int .i64 (Y.length:Int))) (hBh.trans hBe)
 have hy:BODY=Y:=by rw[←HBODY.o,HU.o,←HY.o,←HX6.o];simp[pbytes]
 unfold whole
 rw[hy]
 simpa using hfin
 ):p:=h
theorem zC9 {p:Prop} (h:p:=by
 intro h0
 obtain⟨b0,o0,rfl,hcl⟩:=r89.2 h0
 refine⟨b0,o0,rfl,a89 _ rfl,fun k u hu j hj=>?_⟩
 rw[Nat.add_assoc];exact hcl (k*9+j) _ (flat9_get us k u hu j hj)
 ):p:=h
theorem zC12 {p:Prop} (h:p:=by
 simp only[List.length_take] at h1 ⊢
 have:min k us.length*65540≤1000*65540:=Nat.mul_le_mul_right _ (by omega)
 omega
 ):p:=h
theorem zC13 {p:Prop} (h:p:=by
 have:us.length*65540≤1000*65540:=Nat.mul_le_mul_right _ hlen
 omega
 ):p:=h
theorem zC14 {p:Prop} (h:p:=by
 have h8:=hbr.buf.lt
 have h9:=hbr.buf.dlt
 cases hd:d2 with
 |none=>simp;omega
 |some kk=>have h9:=h9 kk hd;simp;omega
 ):p:=h
theorem subscribeEncode5_c (w:World) (g bb:Nat) (cs:Array Value) (pv:Nat→Value) (q:Nat) (dup ret:Bool) (id:Nat) (us:List SubV) (A0:Option Addr) (c0:Nat) (P:PkEnc w g cs pv 8 q dup ret 5)
 (hid:id<65536) (hid0:0<id) (e102:pv 102=.int .u16 (id:Int)) (e89:pv 89=.slice A0 us.length c0) (r89:Rd w 9 A0 us.length (us.flatMap SubV.cells)) (a89:∀a,A0=some a→a.block<w.heap.size) (hus:∀u∈us,u.f.size<65536∧u.h<3∧u.q<3) (hlen:us.length≤1000) (s:Nat→List UInt8) (hs:PAll w 8 (fun j=>pv (50+j)) s) (hB:Buf w bb none []) (hgb:g≠bb):
 Calls prog 52 #[.pointer (some ⟨g,0,none⟩),.pointer (some ⟨bb,0,none⟩)] w fun e w'=>e=.returned .nilIface∧EncTo w g bb (whole 8 q dup ret (be2 id++pbytes s++us.flatMap encS5)) w':=by
 have hg:=P.blk.lt
 have hblt:=hB.lt
 obtain⟨e93,e94,e95,e96,e99,e100,e101,e103⟩:=P.es
 have HP:=hH P
 clear P
 have hb0:=BufAt.refl (Buf.new w)
 obtain⟨HKW,HWS⟩:=al0 w
 have HS:=hH hs
 clear hs
 have HN:=hH hus
 clear hus
 have hidz:((id:Int)==0)=false:=by simp;omega
 have hcells:Hd (0<us.length→∃b0 o0,A0=some ⟨b0,o0,none⟩∧b0<w.heap.size∧∀k u,us[k]?=some u→∀j,j<9→w.cell? ⟨b0,o0+k*9+j,none⟩=some (u.cellAt j)):=by
  exact zC9
 clear r89 a89
 have g0_102:w.cell? ⟨g,102,none⟩=some (pv 102):=HP.o.cell (Keeps.refl [] w) (by simp) 102 (by omega)
 have g1_102:=gc HP hb0.keeps 102
 obtain⟨BODY,hBODY⟩:∃B,be2 id++pbytes s++us.flatMap encS5=B:=⟨_,rfl⟩
 rw[hBODY]
 have HBODY:=hH hBODY
 clear hBODY
 go_enter func52,ntmps52
 go_wp2_with fail
 refine(encodeUint16_c _ id hid).mono ?_
 rintro e w2 ⟨A2,c2,rfl,hr2,hk2,hA2⟩
 have hb2:=hb0.post hk2
 go_wp2_with fail
 refine(write_c _ _ _ _ _ _ _ _ hb2.buf hr2 (by simp[lp_length,be2_length]<;>omega)).mono ?_
 rintro e w3 ⟨rfl,d3,hB3⟩
 have hb3:=hb2.trans hB3
 have g4_89:=gc HP hb3.keeps 89
 obtain⟨W2,hW2⟩:∃W2,w3.alloc (.cells #[.slice none 0 0] 111)=W2:=⟨_,rfl⟩
 have hK2:Hd (Keeps [] w3 W2):=by rw[←hW2];exact Keeps.alloc _ _
 have hP2:Hd (Buf W2 w3.heap.size none []):=by rw[←hW2];exact Buf.new w3
 have hZ2:Hd (W2.heap.size=w3.heap.size+1):=by rw[←hW2];show _=_;simp
 have HW2:=hH hW2
 clear hW2
 have g89:(w3.alloc (.cells #[.slice none 0 0] 111)).cell? ⟨g,89,none⟩=some (pv 89):=(Keeps.alloc w3 _).some_ g4_89 (by simp)
 go_wp2_with fail
 go_loopg [31] (us.length+1) (fun gk i wr=>∃k d',i=.int .i64 ((k:Nat):Int)∧k≤us.length∧us.length<gk+k∧BufAt W2 w3.heap.size none d' ((us.take k).flatMap encS5) wr)
 case atStart=>exact⟨0,none,rfl,by omega,by omega,by rw[HW2.o];exact BufAt.refl hP2.o⟩
 case round=>
  obtain⟨k,d2,rfl,hk,hgk,hbr⟩:=hrel
  have hkr:Keeps [] w3 wr:=hK2.o.trans hbr.keeps (by simp)
  have hbx:=hb3.post hkr
  by_cases hlt:k<us.length
  ·obtain⟨g',rfl⟩:∃g',gk=g'+1:=⟨gk-1,by omega⟩
   have hltz:(k:Int)<(us.length:Int):=by omega
   obtain⟨u,hu⟩:∃u,us[k]=u:=⟨_,rfl⟩
   have huu:=HN.o u (by rw[←hu];exact List.getElem_mem _)
   obtain⟨hu0,hu1,hu2⟩:=huu
   obtain⟨b0,o0,rfl,hb0,hcl⟩:=hcells.o (by omega)
   have hcl':=hcl k u (by rw[List.getElem?_eq_getElem hlt,hu])
   have hKwr:Keeps [w.heap.size] w wr:=HKW.o.trans2 hbx.keeps
   have hx0:wr.cell? ⟨b0,o0+k*9,none⟩=some (u.cellAt 0):=hKwr.some_ (hcl' 0 (by omega)) (by simp;omega)
   have hx1:wr.cell? ⟨b0,o0+k*9+1,none⟩=some (u.cellAt 1):=hKwr.some_ (hcl' 1 (by omega)) (by simp;omega)
   have hx2:wr.cell? ⟨b0,o0+k*9+2,none⟩=some (u.cellAt 2):=hKwr.some_ (hcl' 2 (by omega)) (by simp;omega)
   have hx3:wr.cell? ⟨b0,o0+k*9+3,none⟩=some (u.cellAt 3):=hKwr.some_ (hcl' 3 (by omega)) (by simp;omega)
   have hx4:wr.cell? ⟨b0,o0+k*9+4,none⟩=some (u.cellAt 4):=hKwr.some_ (hcl' 4 (by omega)) (by simp;omega)
   have hx5:wr.cell? ⟨b0,o0+k*9+5,none⟩=some (u.cellAt 5):=hKwr.some_ (hcl' 5 (by omega)) (by simp;omega)
   have hx6:wr.cell? ⟨b0,o0+k*9+6,none⟩=some (u.cellAt 6):=hKwr.some_ (hcl' 6 (by omega)) (by simp;omega)
   have hx7:wr.cell? ⟨b0,o0+k*9+7,none⟩=some (u.cellAt 7):=hKwr.some_ (hcl' 7 (by omega)) (by simp;omega)
   have hx8:wr.cell? ⟨b0,o0+k*9+8,none⟩=some (u.cellAt 8):=hKwr.some_ (hcl' 8 (by omega)) (by simp;omega)
   clear hcl hcl'
   have htk:Hd ((us.take (k+1)).flatMap encS5=(us.take k).flatMap encS5++encS5 u):=by rw[List.take_succ_eq_append_getElem hlt,List.flatMap_append,hu];show _=_;simp
   have hxl:((us.take k).flatMap encS5).length≤70000000:=by
    have h1:=flat_le (us.take k) encS5 65540 (fun n hn=>by have:=HN.o n (List.mem_of_mem_take hn);simp[encS5,lp_length];omega)
    exact zC12
   clear hu
   generalize hX:(us.take k).flatMap encS5=X at hbr hxl
   have HX:=hH hX
   clear hX
   simp only[SubV.cellAt] at hx0 hx1 hx2 hx3 hx4 hx5 hx6 hx7 hx8
   have hA1:=hbr.post (Keeps.alloc wr (.cells #[.slice none 0 0,.string u.f,.int .i64 u.id,.map none,.int .u8 (u.h:Int),.int .u8 (u.q:Int),.bool u.ap,.bool u.nl,.bool false] 108))
   go_wp2_with fail
   refine(encodeString_c _ u.f hu0).mono ?_
   rintro e y2 ⟨A,c,rfl,hr,hkk,hA⟩
   have hc2:=hA1.post hkk
   go_wp2_with fail
   refine(write_c _ _ _ _ _ _ _ _ hc2.buf hr (by simp[lp_length]<;>omega)).mono ?_
   rintro e y3 ⟨rfl,d4,hB3⟩
   have hc3:=hc2.trans hB3
   have hloc:wr.heap.size∉w3.heap.size::d2.toList:=by
    exact zC14
   have hv0:y3.cell? ⟨wr.heap.size,0,none⟩=some (.slice none 0 0):=hB3.keeps.some_ (hkk.some_ (by rw[(Blk.new wr 108 #[.slice none 0 0,.string u.f,.int .i64 u.id,.map none,.int .u8 (u.h:Int),.int .u8 (u.q:Int),.bool u.ap,.bool u.nl,.bool false]).cell];rfl) (by simp)) hloc
   have hv1:y3.cell? ⟨wr.heap.size,1,none⟩=some (.string u.f):=hB3.keeps.some_ (hkk.some_ (by rw[(Blk.new wr 108 #[.slice none 0 0,.string u.f,.int .i64 u.id,.map none,.int .u8 (u.h:Int),.int .u8 (u.q:Int),.bool u.ap,.bool u.nl,.bool false]).cell];rfl) (by simp)) hloc
   have hv2:y3.cell? ⟨wr.heap.size,2,none⟩=some (.int .i64 u.id):=hB3.keeps.some_ (hkk.some_ (by rw[(Blk.new wr 108 #[.slice none 0 0,.string u.f,.int .i64 u.id,.map none,.int .u8 (u.h:Int),.int .u8 (u.q:Int),.bool u.ap,.bool u.nl,.bool false]).cell];rfl) (by simp)) hloc
   have hv3:y3.cell? ⟨wr.heap.size,3,none⟩=some (.map none):=hB3.keeps.some_ (hkk.some_ (by rw[(Blk.new wr 108 #[.slice none 0 0,.string u.f,.int .i64 u.id,.map none,.int .u8 (u.h:Int),.int .u8 (u.q:Int),.bool u.ap,.bool u.nl,.bool false]).cell];rfl) (by simp)) hloc
   have hv4:y3.cell? ⟨wr.heap.size,4,none⟩=some (.int .u8 (u.h:Int)):=hB3.keeps.some_ (hkk.some_ (by rw[(Blk.new wr 108 #[.slice none 0 0,.string u.f,.int .i64 u.id,.map none,.int .u8 (u.h:Int),.int .u8 (u.q:Int),.bool u.ap,.bool u.nl,.bool false]).cell];rfl) (by simp)) hloc
   have hv5:y3.cell? ⟨wr.heap.size,5,none⟩=some (.int .u8 (u.q:Int)):=hB3.keeps.some_ (hkk.some_ (by rw[(Blk.new wr 108 #[.slice none 0 0,.string u.f,.int .i64 u.id,.map none,.int .u8 (u.h:Int),.int .u8 (u.q:Int),.bool u.ap,.bool u.nl,.bool false]).cell];rfl) (by simp)) hloc
   have hv6:y3.cell? ⟨wr.heap.size,6,none⟩=some (.bool u.ap):=hB3.keeps.some_ (hkk.some_ (by rw[(Blk.new wr 108 #[.slice none 0 0,.string u.f,.int .i64 u.id,.map none,.int .u8 (u.h:Int),.int .u8 (u.q:Int),.bool u.ap,.bool u.nl,.bool false]).cell];rfl) (by simp)) hloc
   have hv7:y3.cell? ⟨wr.heap.size,7,none⟩=some (.bool u.nl):=hB3.keeps.some_ (hkk.some_ (by rw[(Blk.new wr 108 #[.slice none 0 0,.string u.f,.int .i64 u.id,.map none,.int .u8 (u.h:Int),.int .u8 (u.q:Int),.bool u.ap,.bool u.nl,.bool false]).cell];rfl) (by simp)) hloc
   have hv8:y3.cell? ⟨wr.heap.size,8,none⟩=some (.bool false):=hB3.keeps.some_ (hkk.some_ (by rw[(Blk.new wr 108 #[.slice none 0 0,.string u.f,.int .i64 u.id,.map none,.int .u8 (u.h:Int),.int .u8 (u.q:Int),.bool u.ap,.bool u.nl,.bool false]).cell];rfl) (by simp)) hloc
   have hky:Keeps [] w3 y3:=(hK2.o.trans hc3.keeps (by simp))
   have hby:=hb3.post hky
   have y103:=gc HP hby.keeps 103
   clear hx0 hx1 hx2 hx3 hx4 hx5 hx6 hx7 hx8
   go_wp2_with fail
   refine(subEncode_c _ u.f u.id u.h u.q u.ap u.nl hu1 hu2).mono ?_
   rintro e y4 ⟨rfl,hk4⟩
   have hc4:=hc3.post hk4
   go_wp2_with fail
   refine(writeByte_c _ _ _ _ (optB u.q u.h u.nl u.ap) _ rfl hc4.buf (by simp[lp_length]<;>omega)).mono ?_
   rintro e y5 ⟨rfl,d5,hB5⟩
   have hc5:=hc4.trans hB5
   go_wp2_with fail
   go_roundg g'
   case measure=>omega
   case rel=>exact⟨k+1,d5,by go_num,by omega,by omega,by rw[htk.o,HX.o];simpa [encS5] using hc5⟩
  ·rw[List.take_of_length_le (by omega)] at hbr
   have hul:(us.flatMap encS5).length≤70000000:=by
    have h1:=flat_le us encS5 65540 (fun n hn=>by have:=HN.o n hn;simp[encS5,lp_length];omega)
    exact zC13
   clear hk hgk
   generalize hU:us.flatMap encS5=U at hbr hul
   have HU:=hH hU
   clear hU
   have g5_103:=gc HP hbx.keeps 103
   have hp6:=BufAt.refl (Buf.new wr)
   have hpk6:=Keeps.alloc wr (.cells #[.slice none 0 0] 111)
   have hn6:=(hbx.post hpk6).post (Keeps.drew _)
   have g7_93:=gd HP hn6.keeps 93
   have g8_99:=gd HP hn6.keeps 99
   have g9_100:=gd HP hn6.keeps 100
   have g10_101:=gd HP hn6.keeps 101
   have hcc6:=HP.o.cells37 (HKW.o.trans2 hn6.keeps) (by simp<;>omega) 50 (by omega)
   have hpa6:=HS.o.keep ((HKW.o.trans2 hn6.keeps).mono (S':=[]) (by simp))
   have hpb6:Buf (wr.alloc (.cells #[.slice none 0 0] 111)).drew wr.heap.size none []:=hp6.buf
   have hxn:=(hbr.post hpk6).post (Keeps.drew _)
   go_wp2_with fail
   refine wp_region_still_tail 18 (by kernel_rfl) (by kernel_rfl) ?_
   simp only[List.take_succ_cons,List.take_zero,List.drop_succ_cons,List.drop_zero]
   change wpStill _ _ (wr.alloc (.cells #[.slice none 0 0] 111)).drew _ _ _
   repeat still_step
   still_call (calls_flip (len_c _ _ _ _ hn6.buf))
   repeat still_step
   still_call (calls_flip (len_c _ _ _ _ hxn.buf))
   repeat still_step
   try refine wpStill_nil ?_
   change wpList _ _ _ _ _ (wr.alloc (.cells #[.slice none 0 0] 111)).drew
   go_wp2_with fail
   refine(propsEnc_all _ g 50 _ _ 8 _ _ hcc6 hpa6 hpb6).mono ?_
   rintro e v6 ⟨rfl,dp6,hQ6⟩
   have hkq6:Keeps [] wr v6:=((hpk6.trans (Keeps.drew _) (by simp)).trans hQ6.keeps (by simp))
   have hm6:=hbx.post hkq6
   go_wp2_with fail
   refine(bytes_c _ _ _ _ hQ6.buf).mono ?_
   rintro e w6 ⟨rfl,A6,c6,rfl,hr6,hA6⟩
   have hpl6:=pre_le s HS.o.hl 27
   have hvl6:=vlen_le (pre s 27).length (by omega)
   generalize hX6:vlen (pre s 27).length++pre s 27=X6 at hr6 ⊢
   have hxl6:X6.length≤110000000:=by rw[←hX6];simp only[List.length_append];omega
   have HX6:=hH hX6
   clear hX6
   go_wp2_with fail
   go_fit (write_c _ _ _ _ _ _ _ _ hm6.buf hr6 (by first|omega|(simp[lp_length,be2_length]<;>omega)))
   rintro e w11 ⟨rfl,d11,hB11⟩
   have hb11:=hm6.trans hB11
   have hxk:=pbKeep hb3 (Nat.le_refl _) (by rw[hZ2.o];omega) hbr (hbr.buf.keep hkq6 (by simp) (by simp)) hB11
   go_wp2_with fail
   refine(bytes_c _ _ _ _ hxk).mono ?_
   rintro e z1 ⟨rfl,Az,cz,rfl,hrz,hAz⟩
   go_wp2_with fail
   go_fit (write_c _ _ _ _ _ _ _ _ hb11.buf hrz (by simp[lp_length,be2_length]<;>omega))
   rintro e w12 ⟨rfl,d12,hB12⟩
   have hb12:=hb11.trans hB12
   go_wp2_with fail
   refine(len_c _ _ _ _ hb12.buf).mono ?_
   rintro e w13 ⟨rfl,rfl⟩
   generalize hY:((([]++be2 id)++X6)++U)=Y at hb12 ⊢
   have HY:=hH hY
   have hyl:Y.length<268435456:=by rw[←hY];simp[lp_length,be2_length]<;>omega
   clear hY
   have hkk:=HKW.o.trans2 hb12.keeps
   have k92:w12.cell? ⟨g,92,none⟩=some (pv 92):=HP.o.cell hkk (by simp<;>omega) 92 (by omega)
   have f92:w12.frozen? ⟨g,92,none⟩=false:=HP.o.frozen hkk (by simp<;>omega) 92
   obtain⟨t0,t1,t2,t3,t4⟩:=HP.o.tailCells hkk (by simp<;>omega) (Y.length:Int)
   have hBv:Buf (w12.setCell ⟨g,92,none⟩ (.int .i64 (Y.length:Int))) bb none []:=(hB.keep hkk (by simp<;>omega) (by simp)).keep (Keeps.setCell _ _ _) (by simp<;>omega) (by simp)
   go_wp2_with fail
   refine(header_c _ g 92 bb none [] 8 q Y.length dup ret HP.o.ht HP.o.hq hyl t0 t1 t2 t3 t4 hgb (by simp) hBv (by simp)).mono ?_
   exact zC4
theorem zC5 {p:Prop} (h:p:=by
 rintro e wh ⟨rfl,dh,hBh⟩
 have hnb:=nbKeep hb6 HKW.o hg hblt (by omega) (Keeps.setCell w6 ⟨g,92,none⟩ (.int .i64 (Y.length:Int))) hBh.keeps
 have hvl:=vlen_le Y.length hyl
 go_wp2_with fail
 refine(bytes_c _ _ _ _ hnb).mono ?_
 rintro e wb ⟨rfl,Ab,cb,rfl,hrb,hAb⟩
 go_wp2_with fail
 go_fit (write_c _ _ _ _ _ _ _ _ hBh.buf hrb (by simp<;>omega))
 rintro e we ⟨rfl,de,hBe⟩
 go_wp2_with fail
 go_ret
 refine⟨rfl,?_⟩
 have hfin:=encTo_of hkk (by omega) (Keeps.setCell w6 ⟨g,92,none⟩ (.int .i64 (Y.length:Int))) (hBh.trans hBe)
 have hy:BODY=Y:=by rw[←HBODY.o,HU.o,←HY.o];simp[pbytes]
 unfold whole
 rw[hy]
 simpa using hfin
 ):p:=h
theorem subscribeEncode4_c (w:World) (g bb:Nat) (cs:Array Value) (pv:Nat→Value) (q:Nat) (dup ret:Bool) (id:Nat) (us:List SubV) (A0:Option Addr) (c0:Nat) (P:PkEnc w g cs pv 8 q dup ret 4)
 (hid:id<65536) (hid0:0<id) (e102:pv 102=.int .u16 (id:Int)) (e89:pv 89=.slice A0 us.length c0) (r89:Rd w 9 A0 us.length (us.flatMap SubV.cells)) (a89:∀a,A0=some a→a.block<w.heap.size) (hus:∀u∈us,u.f.size<65536∧u.h<3∧u.q<3) (hlen:us.length≤1000) (hB:Buf w bb none []) (hgb:g≠bb):
 Calls prog 52 #[.pointer (some ⟨g,0,none⟩),.pointer (some ⟨bb,0,none⟩)] w fun e w'=>e=.returned .nilIface∧EncTo w g bb (whole 8 q dup ret (be2 id++us.flatMap encS4)) w':=by
 have hg:=P.blk.lt
 have hblt:=hB.lt
 obtain⟨e93,e94,e95,e96,e99,e100,e101,e103⟩:=P.es
 have HP:=hH P
 clear P
 have hb0:=BufAt.refl (Buf.new w)
 obtain⟨HKW,HWS⟩:=al0 w
 have HN:=hH hus
 clear hus
 have hidz:((id:Int)==0)=false:=by simp;omega
 have hcells:Hd (0<us.length→∃b0 o0,A0=some ⟨b0,o0,none⟩∧b0<w.heap.size∧∀k u,us[k]?=some u→∀j,j<9→w.cell? ⟨b0,o0+k*9+j,none⟩=some (u.cellAt j)):=by
  exact zC9
 clear r89 a89
 have g0_102:w.cell? ⟨g,102,none⟩=some (pv 102):=HP.o.cell (Keeps.refl [] w) (by simp) 102 (by omega)
 have g1_102:=gc HP hb0.keeps 102
 obtain⟨BODY,hBODY⟩:∃B,be2 id++us.flatMap encS4=B:=⟨_,rfl⟩
 rw[hBODY]
 have HBODY:=hH hBODY
 clear hBODY
 go_enter func52,ntmps52
 go_wp2_with fail
 refine(encodeUint16_c _ id hid).mono ?_
 rintro e w2 ⟨A2,c2,rfl,hr2,hk2,hA2⟩
 have hb2:=hb0.post hk2
 go_wp2_with fail
 refine(write_c _ _ _ _ _ _ _ _ hb2.buf hr2 (by simp[lp_length,be2_length]<;>omega)).mono ?_
 rintro e w3 ⟨rfl,d3,hB3⟩
 have hb3:=hb2.trans hB3
 have g4_89:=gc HP hb3.keeps 89
 obtain⟨W2,hW2⟩:∃W2,w3.alloc (.cells #[.slice none 0 0] 111)=W2:=⟨_,rfl⟩
 have hK2:Hd (Keeps [] w3 W2):=by rw[←hW2];exact Keeps.alloc _ _
 have hP2:Hd (Buf W2 w3.heap.size none []):=by rw[←hW2];exact Buf.new w3
 have hZ2:Hd (W2.heap.size=w3.heap.size+1):=by rw[←hW2];show _=_;simp
 have HW2:=hH hW2
 clear hW2
 have g89:(w3.alloc (.cells #[.slice none 0 0] 111)).cell? ⟨g,89,none⟩=some (pv 89):=(Keeps.alloc w3 _).some_ g4_89 (by simp)
 go_wp2_with fail
 go_loopg [31] (us.length+1) (fun gk i wr=>∃k d',i=.int .i64 ((k:Nat):Int)∧k≤us.length∧us.length<gk+k∧BufAt W2 w3.heap.size none d' ((us.take k).flatMap encS4) wr)
 case atStart=>exact⟨0,none,rfl,by omega,by omega,by rw[HW2.o];exact BufAt.refl hP2.o⟩
 case round=>
  obtain⟨k,d2,rfl,hk,hgk,hbr⟩:=hrel
  have hkr:Keeps [] w3 wr:=hK2.o.trans hbr.keeps (by simp)
  have hbx:=hb3.post hkr
  by_cases hlt:k<us.length
  ·obtain⟨g',rfl⟩:∃g',gk=g'+1:=⟨gk-1,by omega⟩
   have hltz:(k:Int)<(us.length:Int):=by omega
   obtain⟨u,hu⟩:∃u,us[k]=u:=⟨_,rfl⟩
   have huu:=HN.o u (by rw[←hu];exact List.getElem_mem _)
   obtain⟨hu0,hu1,hu2⟩:=huu
   obtain⟨b0,o0,rfl,hb0,hcl⟩:=hcells.o (by omega)
   have hcl':=hcl k u (by rw[List.getElem?_eq_getElem hlt,hu])
   have hKwr:Keeps [w.heap.size] w wr:=HKW.o.trans2 hbx.keeps
   have hx0:wr.cell? ⟨b0,o0+k*9,none⟩=some (u.cellAt 0):=hKwr.some_ (hcl' 0 (by omega)) (by simp;omega)
   have hx1:wr.cell? ⟨b0,o0+k*9+1,none⟩=some (u.cellAt 1):=hKwr.some_ (hcl' 1 (by omega)) (by simp;omega)
   have hx2:wr.cell? ⟨b0,o0+k*9+2,none⟩=some (u.cellAt 2):=hKwr.some_ (hcl' 2 (by omega)) (by simp;omega)
   have hx3:wr.cell? ⟨b0,o0+k*9+3,none⟩=some (u.cellAt 3):=hKwr.some_ (hcl' 3 (by omega)) (by simp;omega)
   have hx4:wr.cell? ⟨b0,o0+k*9+4,none⟩=some (u.cellAt 4):=hKwr.some_ (hcl' 4 (by omega)) (by simp;omega)
   have hx5:wr.cell? ⟨b0,o0+k*9+5,none⟩=some (u.cellAt 5):=hKwr.some_ (hcl' 5 (by omega)) (by simp;omega)
   have hx6:wr.cell? ⟨b0,o0+k*9+6,none⟩=some (u.cellAt 6):=hKwr.some_ (hcl' 6 (by omega)) (by simp;omega)
   have hx7:wr.cell? ⟨b0,o0+k*9+7,none⟩=some (u.cellAt 7):=hKwr.some_ (hcl' 7 (by omega)) (by simp;omega)
   have hx8:wr.cell? ⟨b0,o0+k*9+8,none⟩=some (u.cellAt 8):=hKwr.some_ (hcl' 8 (by omega)) (by simp;omega)
   clear hcl hcl'
   have htk:Hd ((us.take (k+1)).flatMap encS4=(us.take k).flatMap encS4++encS4 u):=by rw[List.take_succ_eq_append_getElem hlt,List.flatMap_append,hu];show _=_;simp
   have hxl:((us.take k).flatMap encS4).length≤70000000:=by
    have h1:=flat_le (us.take k) encS4 65540 (fun n hn=>by have:=HN.o n (List.mem_of_mem_take hn);simp[encS4,lp_length];omega)
    exact zC12
   clear hu
   generalize hX:(us.take k).flatMap encS4=X at hbr hxl
   have HX:=hH hX
   clear hX
   simp only[SubV.cellAt] at hx0 hx1 hx2 hx3 hx4 hx5 hx6 hx7 hx8
   have hA1:=hbr.post (Keeps.alloc wr (.cells #[.slice none 0 0,.string u.f,.int .i64 u.id,.map none,.int .u8 (u.h:Int),.int .u8 (u.q:Int),.bool u.ap,.bool u.nl,.bool false] 108))
   go_wp2_with fail
   refine(encodeString_c _ u.f hu0).mono ?_
   rintro e y2 ⟨A,c,rfl,hr,hkk,hA⟩
   have hc2:=hA1.post hkk
   go_wp2_with fail
   refine(write_c _ _ _ _ _ _ _ _ hc2.buf hr (by simp[lp_length]<;>omega)).mono ?_
   rintro e y3 ⟨rfl,d4,hB3⟩
   have hc3:=hc2.trans hB3
   have hloc:wr.heap.size∉w3.heap.size::d2.toList:=by
    exact zC14
   have hv0:y3.cell? ⟨wr.heap.size,0,none⟩=some (.slice none 0 0):=hB3.keeps.some_ (hkk.some_ (by rw[(Blk.new wr 108 #[.slice none 0 0,.string u.f,.int .i64 u.id,.map none,.int .u8 (u.h:Int),.int .u8 (u.q:Int),.bool u.ap,.bool u.nl,.bool false]).cell];rfl) (by simp)) hloc
   have hv1:y3.cell? ⟨wr.heap.size,1,none⟩=some (.string u.f):=hB3.keeps.some_ (hkk.some_ (by rw[(Blk.new wr 108 #[.slice none 0 0,.string u.f,.int .i64 u.id,.map none,.int .u8 (u.h:Int),.int .u8 (u.q:Int),.bool u.ap,.bool u.nl,.bool false]).cell];rfl) (by simp)) hloc
   have hv2:y3.cell? ⟨wr.heap.size,2,none⟩=some (.int .i64 u.id):=hB3.keeps.some_ (hkk.some_ (by rw[(Blk.new wr 108 #[.slice none 0 0,.string u.f,.int .i64 u.id,.map none,.int .u8 (u.h:Int),.int .u8 (u.q:Int),.bool u.ap,.bool u.nl,.bool false]).cell];rfl) (by simp)) hloc
   have hv3:y3.cell? ⟨wr.heap.size,3,none⟩=some (.map none):=hB3.keeps.some_ (hkk.some_ (by rw[(Blk.new wr 108 #[.slice none 0 0,.string u.f,.int .i64 u.id,.map none,.int .u8 (u.h:Int),.int .u8 (u.q:Int),.bool u.ap,.bool u.nl,.bool false]).cell];rfl) (by simp)) hloc
   have hv4:y3.cell? ⟨wr.heap.size,4,none⟩=some (.int .u8 (u.h:Int)):=hB3.keeps.some_ (hkk.some_ (by rw[(Blk.new wr 108 #[.slice none 0 0,.string u.f,.int .i64 u.id,.map none,.int .u8 (u.h:Int),.int .u8 (u.q:Int),.bool u.ap,.bool u.nl,.bool false]).cell];rfl) (by simp)) hloc
   have hv5:y3.cell? ⟨wr.heap.size,5,none⟩=some (.int .u8 (u.q:Int)):=hB3.keeps.some_ (hkk.some_ (by rw[(Blk.new wr 108 #[.slice none 0 0,.string u.f,.int .i64 u.id,.map none,.int .u8 (u.h:Int),.int .u8 (u.q:Int),.bool u.ap,.bool u.nl,.bool false]).cell];rfl) (by simp)) hloc
   have hv6:y3.cell? ⟨wr.heap.size,6,none⟩=some (.bool u.ap):=hB3.keeps.some_ (hkk.some_ (by rw[(Blk.new wr 108 #[.slice none 0 0,.string u.f,.int .i64 u.id,.map none,.int .u8 (u.h:Int),.int .u8 (u.q:Int),.bool u.ap,.bool u.nl,.bool false]).cell];rfl) (by simp)) hloc
   have hv7:y3.cell? ⟨wr.heap.size,7,none⟩=some (.bool u.nl):=hB3.keeps.some_ (hkk.some_ (by rw[(Blk.new wr 108 #[.slice none 0 0,.string u.f,.int .i64 u.id,.map none,.int .u8 (u.h:Int),.int .u8 (u.q:Int),.bool u.ap,.bool u.nl,.bool false]).cell];rfl) (by simp)) hloc
   have hv8:y3.cell? ⟨wr.heap.size,8,none⟩=some (.bool false):=hB3.keeps.some_ (hkk.some_ (by rw[(Blk.new wr 108 #[.slice none 0 0,.string u.f,.int .i64 u.id,.map none,.int .u8 (u.h:Int),.int .u8 (u.q:Int),.bool u.ap,.bool u.nl,.bool false]).cell];rfl) (by simp)) hloc
   have hky:Keeps [] w3 y3:=(hK2.o.trans hc3.keeps (by simp))
   have hby:=hb3.post hky
   have y103:=gc HP hby.keeps 103
   clear hx0 hx1 hx2 hx3 hx4 hx5 hx6 hx7 hx8
   go_wp2_with fail
   refine(writeByte_c _ _ _ _ (UInt8.ofNat u.q) _ (ofNat_lo (by omega)) hc3.buf (by simp[lp_length]<;>omega)).mono ?_
   rintro e y5 ⟨rfl,d5,hB5⟩
   have hc5:=hc3.trans hB5
   go_wp2_with fail
   go_roundg g'
   case measure=>omega
   case rel=>exact⟨k+1,d5,by go_num,by omega,by omega,by rw[htk.o,HX.o];simpa [encS4] using hc5⟩
  ·rw[List.take_of_length_le (by omega)] at hbr
   have hul:(us.flatMap encS4).length≤70000000:=by
    have h1:=flat_le us encS4 65540 (fun n hn=>by have:=HN.o n hn;simp[encS4,lp_length];omega)
    exact zC13
   clear hk hgk
   generalize hU:us.flatMap encS4=U at hbr hul
   have HU:=hH hU
   clear hU
   have g5_103:=gc HP hbx.keeps 103
   go_wp2_with fail
   refine(bytes_c _ _ _ _ hbr.buf).mono ?_
   rintro e z1 ⟨rfl,Az,cz,rfl,hrz,hAz⟩
   go_wp2_with fail
   go_fit (write_c _ _ _ _ _ _ _ _ hbx.buf hrz (by simp[lp_length,be2_length]<;>omega))
   rintro e w6 ⟨rfl,d6,hB6⟩
   have hb6:=hbx.trans hB6
   go_wp2_with fail
   refine(len_c _ _ _ _ hb6.buf).mono ?_
   rintro e w7 ⟨rfl,rfl⟩
   generalize hY:(([]++be2 id)++U)=Y at hb6 ⊢
   have HY:=hH hY
   have hyl:Y.length<268435456:=by rw[←hY];simp[lp_length,be2_length]<;>omega
   clear hY
   have hkk:=HKW.o.trans2 hb6.keeps
   have k92:w6.cell? ⟨g,92,none⟩=some (pv 92):=HP.o.cell hkk (by simp<;>omega) 92 (by omega)
   have f92:w6.frozen? ⟨g,92,none⟩=false:=HP.o.frozen hkk (by simp<;>omega) 92
   obtain⟨t0,t1,t2,t3,t4⟩:=HP.o.tailCells hkk (by simp<;>omega) (Y.length:Int)
   have hBv:Buf (w6.setCell ⟨g,92,none⟩ (.int .i64 (Y.length:Int))) bb none []:=(hB.keep hkk (by simp<;>omega) (by simp)).keep (Keeps.setCell _ _ _) (by simp<;>omega) (by simp)
   go_wp2_with fail
   refine(header_c _ g 92 bb none [] 8 q Y.length dup ret HP.o.ht HP.o.hq hyl t0 t1 t2 t3 t4 hgb (by simp) hBv (by simp)).mono ?_
   exact zC5
theorem zC1 {p:Prop} (h:p:=by
 obtain⟨g',rfl⟩:∃g',gk=g'+1:=⟨gk-1,by omega⟩
 have hltz:(k:Int)<(us.length:Int):=by omega
 obtain⟨u,hu⟩:∃u,us[k]=u:=⟨_,rfl⟩
 have huu:=HN.o u (by rw[←hu];exact List.getElem_mem _)
 obtain⟨hu0,hu1,hu2⟩:=huu
 obtain⟨b0,o0,rfl,hb0,hcl⟩:=hcells.o (by omega)
 have hcl':=hcl k u (by rw[List.getElem?_eq_getElem hlt,hu])
 have hKwr:Keeps [w.heap.size] w wr:=HKW.o.trans2 hbx.keeps
 have hx0:wr.cell? ⟨b0,o0+k*9,none⟩=some (u.cellAt 0):=hKwr.some_ (hcl' 0 (by omega)) (by simp;omega)
 have hx1:wr.cell? ⟨b0,o0+k*9+1,none⟩=some (u.cellAt 1):=hKwr.some_ (hcl' 1 (by omega)) (by simp;omega)
 have hx2:wr.cell? ⟨b0,o0+k*9+2,none⟩=some (u.cellAt 2):=hKwr.some_ (hcl' 2 (by omega)) (by simp;omega)
 have hx3:wr.cell? ⟨b0,o0+k*9+3,none⟩=some (u.cellAt 3):=hKwr.some_ (hcl' 3 (by omega)) (by simp;omega)
 have hx4:wr.cell? ⟨b0,o0+k*9+4,none⟩=some (u.cellAt 4):=hKwr.some_ (hcl' 4 (by omega)) (by simp;omega)
 have hx5:wr.cell? ⟨b0,o0+k*9+5,none⟩=some (u.cellAt 5):=hKwr.some_ (hcl' 5 (by omega)) (by simp;omega)
 have hx6:wr.cell? ⟨b0,o0+k*9+6,none⟩=some (u.cellAt 6):=hKwr.some_ (hcl' 6 (by omega)) (by simp;omega)
 have hx7:wr.cell? ⟨b0,o0+k*9+7,none⟩=some (u.cellAt 7):=hKwr.some_ (hcl' 7 (by omega)) (by simp;omega)
 have hx8:wr.cell? ⟨b0,o0+k*9+8,none⟩=some (u.cellAt 8):=hKwr.some_ (hcl' 8 (by omega)) (by simp;omega)
 clear hcl hcl'
 have htk:Hd ((us.take (k+1)).flatMap encF=(us.take k).flatMap encF++encF u):=by rw[List.take_succ_eq_append_getElem hlt,List.flatMap_append,hu];show _=_;simp
 have hxl:((us.take k).flatMap encF).length≤70000000:=by
  have h1:=flat_le (us.take k) encF 65540 (fun n hn=>by have:=HN.o n (List.mem_of_mem_take hn);simp[encF,lp_length];omega)
  exact zC12
 clear hu
 generalize hX:(us.take k).flatMap encF=X at hbr hxl
 have HX:=hH hX
 clear hX
 simp only[SubV.cellAt] at hx0 hx1 hx2 hx3 hx4 hx5 hx6 hx7 hx8
 have hA1:=hbr.post (Keeps.alloc wr (.cells #[.slice none 0 0,.string u.f,.int .i64 u.id,.map none,.int .u8 (u.h:Int),.int .u8 (u.q:Int),.bool u.ap,.bool u.nl,.bool false] 108))
 go_wp2_with fail
 refine(encodeString_c _ u.f hu0).mono ?_
 rintro e y2 ⟨A,c,rfl,hr,hkk,hA⟩
 have hc2:=hA1.post hkk
 go_wp2_with fail
 refine(write_c _ _ _ _ _ _ _ _ hc2.buf hr (by simp[lp_length]<;>omega)).mono ?_
 rintro e y3 ⟨rfl,d4,hB3⟩
 have hc3:=hc2.trans hB3
 go_wp2_with fail
 go_roundg g'
 case measure=>omega
 case rel=>exact⟨k+1,d4,by go_num,by omega,by omega,by rw[htk.o,HX.o];simpa [encF] using hc3⟩
 ):p:=h
theorem zC18 {p:Prop} (h:p:=by
 have h1:=flat_le us encF 65540 (fun n hn=>by have:=HN.o n hn;simp[encF,lp_length];omega)
 exact zC13
 ):p:=h
theorem unsubscribeEncode5_c (w:World) (g bb:Nat) (cs:Array Value) (pv:Nat→Value) (q:Nat) (dup ret:Bool) (id:Nat) (us:List SubV) (A0:Option Addr) (c0:Nat) (P:PkEnc w g cs pv 10 q dup ret 5)
 (hid:id<65536) (hid0:0<id) (e102:pv 102=.int .u16 (id:Int)) (e89:pv 89=.slice A0 us.length c0) (r89:Rd w 9 A0 us.length (us.flatMap SubV.cells)) (a89:∀a,A0=some a→a.block<w.heap.size) (hus:∀u∈us,u.f.size<65536∧u.h<3∧u.q<3) (hlen:us.length≤1000) (s:Nat→List UInt8) (hs:PAll w 10 (fun j=>pv (50+j)) s) (hB:Buf w bb none []) (hgb:g≠bb):
 Calls prog 54 #[.pointer (some ⟨g,0,none⟩),.pointer (some ⟨bb,0,none⟩)] w fun e w'=>e=.returned .nilIface∧EncTo w g bb (whole 10 q dup ret (be2 id++pbytes s++us.flatMap encF)) w':=by
 have hg:=P.blk.lt
 have hblt:=hB.lt
 obtain⟨e93,e94,e95,e96,e99,e100,e101,e103⟩:=P.es
 have HP:=hH P
 clear P
 have hb0:=BufAt.refl (Buf.new w)
 obtain⟨HKW,HWS⟩:=al0 w
 have HS:=hH hs
 clear hs
 have HN:=hH hus
 clear hus
 have hidz:((id:Int)==0)=false:=by simp;omega
 have hcells:Hd (0<us.length→∃b0 o0,A0=some ⟨b0,o0,none⟩∧b0<w.heap.size∧∀k u,us[k]?=some u→∀j,j<9→w.cell? ⟨b0,o0+k*9+j,none⟩=some (u.cellAt j)):=by
  exact zC9
 clear r89 a89
 have g0_102:w.cell? ⟨g,102,none⟩=some (pv 102):=HP.o.cell (Keeps.refl [] w) (by simp) 102 (by omega)
 have g1_102:=gc HP hb0.keeps 102
 obtain⟨BODY,hBODY⟩:∃B,be2 id++pbytes s++us.flatMap encF=B:=⟨_,rfl⟩
 rw[hBODY]
 have HBODY:=hH hBODY
 clear hBODY
 go_enter func54,ntmps54
 go_wp2_with fail
 refine(encodeUint16_c _ id hid).mono ?_
 rintro e w2 ⟨A2,c2,rfl,hr2,hk2,hA2⟩
 have hb2:=hb0.post hk2
 go_wp2_with fail
 refine(write_c _ _ _ _ _ _ _ _ hb2.buf hr2 (by simp[lp_length,be2_length]<;>omega)).mono ?_
 rintro e w3 ⟨rfl,d3,hB3⟩
 have hb3:=hb2.trans hB3
 have g4_89:=gc HP hb3.keeps 89
 obtain⟨W2,hW2⟩:∃W2,w3.alloc (.cells #[.slice none 0 0] 111)=W2:=⟨_,rfl⟩
 have hK2:Hd (Keeps [] w3 W2):=by rw[←hW2];exact Keeps.alloc _ _
 have hP2:Hd (Buf W2 w3.heap.size none []):=by rw[←hW2];exact Buf.new w3
 have hZ2:Hd (W2.heap.size=w3.heap.size+1):=by rw[←hW2];show _=_;simp
 have HW2:=hH hW2
 clear hW2
 have g89:(w3.alloc (.cells #[.slice none 0 0] 111)).cell? ⟨g,89,none⟩=some (pv 89):=(Keeps.alloc w3 _).some_ g4_89 (by simp)
 go_wp2_with fail
 go_loopg [31] (us.length+1) (fun gk i wr=>∃k d',i=.int .i64 ((k:Nat):Int)∧k≤us.length∧us.length<gk+k∧BufAt W2 w3.heap.size none d' ((us.take k).flatMap encF) wr)
 case atStart=>exact⟨0,none,rfl,by omega,by omega,by rw[HW2.o];exact BufAt.refl hP2.o⟩
 case round=>
  obtain⟨k,d2,rfl,hk,hgk,hbr⟩:=hrel
  have hkr:Keeps [] w3 wr:=hK2.o.trans hbr.keeps (by simp)
  have hbx:=hb3.post hkr
  by_cases hlt:k<us.length
  ·exact zC1
  ·rw[List.take_of_length_le (by omega)] at hbr
   have hul:(us.flatMap encF).length≤70000000:=by
    exact zC18
   clear hk hgk
   generalize hU:us.flatMap encF=U at hbr hul
   have HU:=hH hU
   clear hU
   have g5_103:=gc HP hbx.keeps 103
   have hp6:=BufAt.refl (Buf.new wr)
   have hpk6:=Keeps.alloc wr (.cells #[.slice none 0 0] 111)
   have hn6:=(hbx.post hpk6).post (Keeps.drew _)
   have g7_93:=gd HP hn6.keeps 93
   have g8_99:=gd HP hn6.keeps 99
   have g9_100:=gd HP hn6.keeps 100
   have g10_101:=gd HP hn6.keeps 101
   have hcc6:=HP.o.cells37 (HKW.o.trans2 hn6.keeps) (by simp<;>omega) 50 (by omega)
   have hpa6:=HS.o.keep ((HKW.o.trans2 hn6.keeps).mono (S':=[]) (by simp))
   have hpb6:Buf (wr.alloc (.cells #[.slice none 0 0] 111)).drew wr.heap.size none []:=hp6.buf
   have hxn:=(hbr.post hpk6).post (Keeps.drew _)
   go_wp2_with fail
   refine wp_region_still_tail 18 (by kernel_rfl) (by kernel_rfl) ?_
   simp only[List.take_succ_cons,List.take_zero,List.drop_succ_cons,List.drop_zero]
   change wpStill _ _ (wr.alloc (.cells #[.slice none 0 0] 111)).drew _ _ _
   repeat still_step
   still_call (calls_flip (len_c _ _ _ _ hn6.buf))
   repeat still_step
   still_call (calls_flip (len_c _ _ _ _ hxn.buf))
   repeat still_step
   try refine wpStill_nil ?_
   change wpList _ _ _ _ _ (wr.alloc (.cells #[.slice none 0 0] 111)).drew
   go_wp2_with fail
   refine(propsEnc_all _ g 50 _ _ 10 _ _ hcc6 hpa6 hpb6).mono ?_
   rintro e v6 ⟨rfl,dp6,hQ6⟩
   have hkq6:Keeps [] wr v6:=((hpk6.trans (Keeps.drew _) (by simp)).trans hQ6.keeps (by simp))
   have hm6:=hbx.post hkq6
   go_wp2_with fail
   refine(bytes_c _ _ _ _ hQ6.buf).mono ?_
   rintro e w6 ⟨rfl,A6,c6,rfl,hr6,hA6⟩
   have hpl6:=pre_le s HS.o.hl 27
   have hvl6:=vlen_le (pre s 27).length (by omega)
   generalize hX6:vlen (pre s 27).length++pre s 27=X6 at hr6 ⊢
   have hxl6:X6.length≤110000000:=by rw[←hX6];simp only[List.length_append];omega
   have HX6:=hH hX6
   clear hX6
   go_wp2_with fail
   go_fit (write_c _ _ _ _ _ _ _ _ hm6.buf hr6 (by first|omega|(simp[lp_length,be2_length]<;>omega)))
   rintro e w11 ⟨rfl,d11,hB11⟩
   have hb11:=hm6.trans hB11
   have hxk:=pbKeep hb3 (Nat.le_refl _) (by rw[hZ2.o];omega) hbr (hbr.buf.keep hkq6 (by simp) (by simp)) hB11
   go_wp2_with fail
   refine(bytes_c _ _ _ _ hxk).mono ?_
   rintro e z1 ⟨rfl,Az,cz,rfl,hrz,hAz⟩
   go_wp2_with fail
   go_fit (write_c _ _ _ _ _ _ _ _ hb11.buf hrz (by simp[lp_length,be2_length]<;>omega))
   rintro e w12 ⟨rfl,d12,hB12⟩
   have hb12:=hb11.trans hB12
   go_wp2_with fail
   refine(len_c _ _ _ _ hb12.buf).mono ?_
   rintro e w13 ⟨rfl,rfl⟩
   generalize hY:((([]++be2 id)++X6)++U)=Y at hb12 ⊢
   have HY:=hH hY
   have hyl:Y.length<268435456:=by rw[←hY];simp[lp_length,be2_length]<;>omega
   clear hY
   have hkk:=HKW.o.trans2 hb12.keeps
   have k92:w12.cell? ⟨g,92,none⟩=some (pv 92):=HP.o.cell hkk (by simp<;>omega) 92 (by omega)
   have f92:w12.frozen? ⟨g,92,none⟩=false:=HP.o.frozen hkk (by simp<;>omega) 92
   obtain⟨t0,t1,t2,t3,t4⟩:=HP.o.tailCells hkk (by simp<;>omega) (Y.length:Int)
   have hBv:Buf (w12.setCell ⟨g,92,none⟩ (.int .i64 (Y.length:Int))) bb none []:=(hB.keep hkk (by simp<;>omega) (by simp)).keep (Keeps.setCell _ _ _) (by simp<;>omega) (by simp)
   go_wp2_with fail
   refine(header_c _ g 92 bb none [] 10 q Y.length dup ret HP.o.ht HP.o.hq hyl t0 t1 t2 t3 t4 hgb (by simp) hBv (by simp)).mono ?_
   exact zC4
theorem unsubscribeEncode4_c (w:World) (g bb:Nat) (cs:Array Value) (pv:Nat→Value) (q:Nat) (dup ret:Bool) (id:Nat) (us:List SubV) (A0:Option Addr) (c0:Nat) (P:PkEnc w g cs pv 10 q dup ret 4)
 (hid:id<65536) (hid0:0<id) (e102:pv 102=.int .u16 (id:Int)) (e89:pv 89=.slice A0 us.length c0) (r89:Rd w 9 A0 us.length (us.flatMap SubV.cells)) (a89:∀a,A0=some a→a.block<w.heap.size) (hus:∀u∈us,u.f.size<65536∧u.h<3∧u.q<3) (hlen:us.length≤1000) (hB:Buf w bb none []) (hgb:g≠bb):
 Calls prog 54 #[.pointer (some ⟨g,0,none⟩),.pointer (some ⟨bb,0,none⟩)] w fun e w'=>e=.returned .nilIface∧EncTo w g bb (whole 10 q dup ret (be2 id++us.flatMap encF)) w':=by
 have hg:=P.blk.lt
 have hblt:=hB.lt
 obtain⟨e93,e94,e95,e96,e99,e100,e101,e103⟩:=P.es
 have HP:=hH P
 clear P
 have hb0:=BufAt.refl (Buf.new w)
 obtain⟨HKW,HWS⟩:=al0 w
 have HN:=hH hus
 clear hus
 have hidz:((id:Int)==0)=false:=by simp;omega
 have hcells:Hd (0<us.length→∃b0 o0,A0=some ⟨b0,o0,none⟩∧b0<w.heap.size∧∀k u,us[k]?=some u→∀j,j<9→w.cell? ⟨b0,o0+k*9+j,none⟩=some (u.cellAt j)):=by
  exact zC9
 clear r89 a89
 have g0_102:w.cell? ⟨g,102,none⟩=some (pv 102):=HP.o.cell (Keeps.refl [] w) (by simp) 102 (by omega)
 have g1_102:=gc HP hb0.keeps 102
 obtain⟨BODY,hBODY⟩:∃B,be2 id++us.flatMap encF=B:=⟨_,rfl⟩
 rw[hBODY]
 have HBODY:=hH hBODY
 clear hBODY
 go_enter func54,ntmps54
 go_wp2_with fail
 refine(encodeUint16_c _ id hid).mono ?_
 rintro e w2 ⟨A2,c2,rfl,hr2,hk2,hA2⟩
 have hb2:=hb0.post hk2
 go_wp2_with fail
 refine(write_c _ _ _ _ _ _ _ _ hb2.buf hr2 (by simp[lp_length,be2_length]<;>omega)).mono ?_
 rintro e w3 ⟨rfl,d3,hB3⟩
 have hb3:=hb2.trans hB3
 have g4_89:=gc HP hb3.keeps 89
 obtain⟨W2,hW2⟩:∃W2,w3.alloc (.cells #[.slice none 0 0] 111)=W2:=⟨_,rfl⟩
 have hK2:Hd (Keeps [] w3 W2):=by rw[←hW2];exact Keeps.alloc _ _
 have hP2:Hd (Buf W2 w3.heap.size none []):=by rw[←hW2];exact Buf.new w3
 have hZ2:Hd (W2.heap.size=w3.heap.size+1):=by rw[←hW2];show _=_;simp
 have HW2:=hH hW2
 clear hW2
 have g89:(w3.alloc (.cells #[.slice none 0 0] 111)).cell? ⟨g,89,none⟩=some (pv 89):=(Keeps.alloc w3 _).some_ g4_89 (by simp)
 go_wp2_with fail
 go_loopg [31] (us.length+1) (fun gk i wr=>∃k d',i=.int .i64 ((k:Nat):Int)∧k≤us.length∧us.length<gk+k∧BufAt W2 w3.heap.size none d' ((us.take k).flatMap encF) wr)
 case atStart=>exact⟨0,none,rfl,by omega,by omega,by rw[HW2.o];exact BufAt.refl hP2.o⟩
 case round=>
  obtain⟨k,d2,rfl,hk,hgk,hbr⟩:=hrel
  have hkr:Keeps [] w3 wr:=hK2.o.trans hbr.keeps (by simp)
  have hbx:=hb3.post hkr
  by_cases hlt:k<us.length
  ·exact zC1
  ·rw[List.take_of_length_le (by omega)] at hbr
   have hul:(us.flatMap encF).length≤70000000:=by
    exact zC18
   clear hk hgk
   generalize hU:us.flatMap encF=U at hbr hul
   have HU:=hH hU
   clear hU
   have g5_103:=gc HP hbx.keeps 103
   go_wp2_with fail
   refine(bytes_c _ _ _ _ hbr.buf).mono ?_
   rintro e z1 ⟨rfl,Az,cz,rfl,hrz,hAz⟩
   go_wp2_with fail
   go_fit (write_c _ _ _ _ _ _ _ _ hbx.buf hrz (by simp[lp_length,be2_length]<;>omega))
   rintro e w6 ⟨rfl,d6,hB6⟩
   have hb6:=hbx.trans hB6
   go_wp2_with fail
   refine(len_c _ _ _ _ hb6.buf).mono ?_
   rintro e w7 ⟨rfl,rfl⟩
   generalize hY:(([]++be2 id)++U)=Y at hb6 ⊢
   have HY:=hH hY
   have hyl:Y.length<268435456:=by rw[←hY];simp[lp_length,be2_length]<;>omega
   clear hY
   have hkk:=HKW.o.trans2 hb6.keeps
   have k92:w6.cell? ⟨g,92,none⟩=some (pv 92):=HP.o.cell hkk (by simp<;>omega) 92 (by omega)
   have f92:w6.frozen? ⟨g,92,none⟩=false:=HP.o.frozen hkk (by simp<;>omega) 92
   obtain⟨t0,t1,t2,t3,t4⟩:=HP.o.tailCells hkk (by simp<;>omega) (Y.length:Int)
   have hBv:Buf (w6.setCell ⟨g,92,none⟩ (.int .i64 (Y.length:Int))) bb none []:=(hB.keep hkk (by simp<;>omega) (by simp)).keep (Keeps.setCell _ _ _) (by simp<;>omega) (by simp)
   go_wp2_with fail
   refine(header_c _ g 92 bb none [] 10 q Y.length dup ret HP.o.ht HP.o.hq hyl t0 t1 t2 t3 t4 hgb (by simp) hBv (by simp)).mono ?_
   exact zC5
theorem connectEncode5_c (w:World) (g bb:Nat) (cs:Array Value) (pv:Nat→Value) (q:Nat) (dup ret:Bool) (pn un pw wp:List UInt8) (A39 A38 A37 A40:Option Addr) (c39 c38 c37 c40 ka wq:Nat) (cl wf wr pf uf:Bool) (cid wt:ByteArray) (P:PkEnc w g cs pv 1 q dup ret 5)
 (e39:pv 39=.slice A39 pn.length c39) (r39:Rd w 1 A39 pn.length (bvs pn)) (a39:∀a,A39=some a→a.block<w.heap.size) (l39:pn.length≤65535) (e38:pv 38=.slice A38 un.length c38) (r38:Rd w 1 A38 un.length (bvs un)) (a38:∀a,A38=some a→a.block<w.heap.size) (l38:un.length≤65535) (e37:pv 37=.slice A37 pw.length c37) (r37:Rd w 1 A37 pw.length (bvs pw)) (a37:∀a,A37=some a→a.block<w.heap.size) (l37:pw.length≤65535) (e40:pv 40=.slice A40 wp.length c40) (r40:Rd w 1 A40 wp.length (bvs wp)) (a40:∀a,A40=some a→a.block<w.heap.size) (l40:wp.length≤65535) (e41:pv 41=.string cid) (l41:cid.size<65536) (e42:pv 42=.string wt) (l42:wt.size<65536) (e43:pv 43=.int .u16 (ka:Int)) (l43:ka<65536) (e44:pv 44=.bool pf) (e45:pv 45=.bool uf) (e46:pv 46=.int .u8 (wq:Int)) (l46:wq<3) (e47:pv 47=.bool wf) (e48:pv 48=.bool wr) (e49:pv 49=.bool cl) (s:Nat→List UInt8) (hs:PAll w 1 (fun j=>pv (50+j)) s) (s2:Nat→List UInt8) (hs2:PAll w 99 (fun j=>pv (0+j)) s2) (hB:Buf w bb none []) (hgb:g≠bb):
 Calls prog 45 #[.pointer (some ⟨g,0,none⟩),.pointer (some ⟨bb,0,none⟩)] w fun e w'=>e=.returned .nilIface∧EncTo w g bb (whole 1 q dup ret (lp pn++[UInt8.ofNat 5]++[flagB cl wf wr pf uf wq]++be2 ka++pbytes s++lp cid.data.toList++willB5 wf s2 wt wp++optD uf un++optD pf pw)) w':=by
 have hg:=P.blk.lt
 have hblt:=hB.lt
 obtain⟨e93,e94,e95,e96,e99,e100,e101,e103⟩:=P.es
 have HP:=hH P
 clear P
 have hb0:=BufAt.refl (Buf.new w)
 obtain⟨HKW,HWS⟩:=al0 w
 have HS:=hH hs
 clear hs
 have HS2:=hH hs2
 clear hs2
 have R39:=hH r39
 clear r39
 have R38:=hH r38
 clear r38
 have R37:=hH r37
 clear r37
 have R40:=hH r40
 clear r40
 have htlcid:=tl_len cid
 have HTcid:=hH htlcid
 clear htlcid
 have htlwt:=tl_len wt
 have HTwt:=hH htlwt
 clear htlwt
 have g1_39:=gc HP hb0.keeps 39
 obtain⟨BODY,hBODY⟩:∃B,lp pn++[UInt8.ofNat 5]++[flagB cl wf wr pf uf wq]++be2 ka++pbytes s++lp cid.data.toList++willB5 wf s2 wt wp++optD uf un++optD pf pw=B:=⟨_,rfl⟩
 rw[hBODY]
 have HBODY:=hH hBODY
 clear hBODY
 go_enter func45,ntmps45
 go_wp2_with fail
 refine(encodeBytes_c _ A39 pn.length c39 pn (R39.o.keep (HKW.o.trans2 hb0.keeps) (fun a ha=>by have:=a39 a ha;simp<;>omega)) (fun a ha=>Nat.lt_of_lt_of_le (a39 a ha) (HKW.o.trans2 hb0.keeps).size) (by omega)).mono ?_
 rintro e w2 ⟨A2,c2,rfl,hr2,hk2,hA2⟩
 have hb2:=hb0.post hk2
 go_wp2_with fail
 refine(write_c _ _ _ _ _ _ _ _ hb2.buf hr2 (by simp only[List.length_append,lp_length,be2_length,List.length_nil,List.length_cons,HTcid.o,HTwt.o];omega)).mono ?_
 rintro e w3 ⟨rfl,d3,hB3⟩
 have hb3:=hb2.trans hB3
 have g4_103:=gc HP hb3.keeps 103
 go_wp2_with fail
 refine(writeByte_c _ _ _ _ (UInt8.ofNat 5) _ (ofNat_lo (by omega)) hb3.buf (by simp only[List.length_append,lp_length,be2_length,List.length_nil,List.length_cons];omega)).mono ?_
 rintro e w5 ⟨rfl,d5,hB5⟩
 have hb5:=hb3.trans hB5
 have g6_49:=gc HP hb5.keeps 49
 have g7_47:=gc HP hb5.keeps 47
 have g8_46:=gc HP hb5.keeps 46
 have g9_48:=gc HP hb5.keeps 48
 have g10_44:=gc HP hb5.keeps 44
 have g11_45:=gc HP hb5.keeps 45
 go_wp2_with fail
 refine wp_region_still_tail 48 (by kernel_rfl) (by kernel_rfl) ?_
 simp only[List.take_succ_cons,List.take_zero,List.drop_succ_cons,List.drop_zero]
 change wpStill _ _ w5.drew _ _ _
 repeat still_step
 still_call ((encodeBool_b _ cl).mono fun _ _ h=>⟨h.1,h.2.symm⟩)
 repeat still_step
 still_call ((encodeBool_b _ wf).mono fun _ _ h=>⟨h.1,h.2.symm⟩)
 repeat still_step
 still_call ((encodeBool_b _ wr).mono fun _ _ h=>⟨h.1,h.2.symm⟩)
 repeat still_step
 still_call ((encodeBool_b _ pf).mono fun _ _ h=>⟨h.1,h.2.symm⟩)
 repeat still_step
 still_call ((encodeBool_b _ uf).mono fun _ _ h=>⟨h.1,h.2.symm⟩)
 repeat still_step
 try refine wpStill_nil ?_
 change wpList _ _ _ _ _ w5.drew
 have hbd:=hb5.post (Keeps.drew _)
 go_wp2_with fail
 refine(writeByte_c _ _ _ _ (flagB cl wf wr pf uf wq) _ ((flag_eq cl wf wr pf uf wq l46).symm) hbd.buf (by simp only[List.length_append,lp_length,be2_length,List.length_nil,List.length_cons,HTcid.o,HTwt.o];omega)).mono ?_
 rintro e w12 ⟨rfl,d12,hB12⟩
 have hb12:=hbd.trans hB12
 have g13_43:=gc HP hb12.keeps 43
 go_wp2_with fail
 refine(encodeUint16_c _ ka l43).mono ?_
 rintro e w14 ⟨A14,c14,rfl,hr14,hk14,hA14⟩
 have hb14:=hb12.post hk14
 go_wp2_with fail
 refine(write_c _ _ _ _ _ _ _ _ hb14.buf hr14 (by simp only[List.length_append,lp_length,be2_length,List.length_nil,List.length_cons,HTcid.o,HTwt.o];omega)).mono ?_
 rintro e w15 ⟨rfl,d15,hB15⟩
 have hb15:=hb14.trans hB15
 have g16_103:=gc HP hb15.keeps 103
 have hp17:=BufAt.refl (Buf.new w15)
 have hpk17:=Keeps.alloc w15 (.cells #[.slice none 0 0] 111)
 have hn17:=(hb15.post hpk17).post (Keeps.drew _)
 have g18_93:=gd HP hn17.keeps 93
 have g19_99:=gd HP hn17.keeps 99
 have g20_100:=gd HP hn17.keeps 100
 have g21_101:=gd HP hn17.keeps 101
 have hcc17:=HP.o.cells37 (HKW.o.trans2 hn17.keeps) (by simp<;>omega) 50 (by omega)
 have hpa17:=HS.o.keep ((HKW.o.trans2 hn17.keeps).mono (S':=[]) (by simp))
 have hpb17:Buf (w15.alloc (.cells #[.slice none 0 0] 111)).drew w15.heap.size none []:=hp17.buf
 go_wp2_with fail
 refine wp_region_still_tail 13 (by kernel_rfl) (by kernel_rfl) ?_
 simp only[List.take_succ_cons,List.take_zero,List.drop_succ_cons,List.drop_zero]
 change wpStill _ _ (w15.alloc (.cells #[.slice none 0 0] 111)).drew _ _ _
 repeat still_step
 try refine wpStill_nil ?_
 change wpList _ _ _ _ _ (w15.alloc (.cells #[.slice none 0 0] 111)).drew
 go_wp2_with fail
 refine(propsEnc_all _ g 50 _ _ 1 _ _ hcc17 hpa17 hpb17).mono ?_
 rintro e v17 ⟨rfl,dp17,hQ17⟩
 have hkq17:Keeps [] w15 v17:=((hpk17.trans (Keeps.drew _) (by simp)).trans hQ17.keeps (by simp))
 have hm17:=hb15.post hkq17
 go_wp2_with fail
 refine(bytes_c _ _ _ _ hQ17.buf).mono ?_
 rintro e w17 ⟨rfl,A17,c17,rfl,hr17,hA17⟩
 have hpl17:=pre_le s HS.o.hl 27
 have hvl17:=vlen_le (pre s 27).length (by omega)
 generalize hX17:vlen (pre s 27).length++pre s 27=X17 at hr17 ⊢
 have hxl17:X17.length≤110000000:=by rw[←hX17];simp only[List.length_append];omega
 have HX17:=hH hX17
 clear hX17
 go_wp2_with fail
 go_fit (write_c _ _ _ _ _ _ _ _ hm17.buf hr17 (by first|omega|(simp[lp_length,be2_length]<;>omega)))
 rintro e w22 ⟨rfl,d22,hB22⟩
 have hb22:=hm17.trans hB22
 have g23_41:=gc HP hb22.keeps 41
 go_wp2_with fail
 refine(encodeString_c _ cid l41).mono ?_
 rintro e w24 ⟨A24,c24,rfl,hr24,hk24,hA24⟩
 have hb24:=hb22.post hk24
 go_wp2_with fail
 refine(write_c _ _ _ _ _ _ _ _ hb24.buf hr24 (by simp only[List.length_append,lp_length,be2_length,List.length_nil,List.length_cons,HTcid.o,HTwt.o];omega)).mono ?_
 rintro e w25 ⟨rfl,d25,hB25⟩
 have hb25:=hb24.trans hB25
 generalize hY1:(((((([]++lp pn)++[UInt8.ofNat 5])++[flagB cl wf wr pf uf wq])++be2 ka)++X17)++lp cid.data.toList)=Y1 at hb25
 have HY1:=hH hY1
 have lY1:Y1.length≤111000000:=by rw[←hY1];simp only[List.length_append,lp_length,be2_length,List.length_nil,List.length_cons,HTcid.o,HTwt.o];omega
 clear hY1
 have lo1:=optD_le uf un l38
 have lo2:=optD_le pf pw l37
 have hwl:=willB5_le wf s2 wt wp HS2.o.hl l42 l40
 have g26_47:=gc HP hb25.keeps 47
 go_upto_if 116 with(fail)
 go_cut [7] from 117 to 153 (fun s7 wc=>∃d,BufAt (w.alloc (.cells #[.slice none 0 0] 111)) w.heap.size none d (Y1++willB5 wf s2 wt wp) wc)
 case first=>
  cases wf with
  |false=>
   go_wp2_with fail
   go_meet
   case rel=>exact⟨_,by simpa [optD,willB4,willB5] using hb25⟩
  |true=>
   have g27_103:=gc HP hb25.keeps 103
   have hp28:=BufAt.refl (Buf.new w25)
   have hpk28:=Keeps.alloc w25 (.cells #[.slice none 0 0] 111)
   have hn28:=(hb25.post hpk28).post (Keeps.drew _)
   have g29_99:=gd HP hn28.keeps 99
   have g30_100:=gd HP hn28.keeps 100
   have g31_101:=gd HP hn28.keeps 101
   have hcc28:=HP.o.cells37 (HKW.o.trans2 hn28.keeps) (by simp<;>omega) 0 (by omega)
   have hpa28:=HS2.o.keep ((HKW.o.trans2 hn28.keeps).mono (S':=[]) (by simp))
   have hpb28:Buf (w25.alloc (.cells #[.slice none 0 0] 111)).drew w25.heap.size none []:=hp28.buf
   go_wp2_with fail
   refine wp_region_still_tail 10 (by kernel_rfl) (by kernel_rfl) ?_
   simp only[List.take_succ_cons,List.take_zero,List.drop_succ_cons,List.drop_zero]
   change wpStill _ _ (w25.alloc (.cells #[.slice none 0 0] 111)).drew _ _ _
   repeat still_step
   try refine wpStill_nil ?_
   change wpList _ _ _ _ _ (w25.alloc (.cells #[.slice none 0 0] 111)).drew
   go_wp2_with fail
   refine(propsEnc_all _ g 0 _ _ 99 _ _ hcc28 hpa28 hpb28).mono ?_
   rintro e v28 ⟨rfl,dp28,hQ28⟩
   have hkq28:Keeps [] w25 v28:=((hpk28.trans (Keeps.drew _) (by simp)).trans hQ28.keeps (by simp))
   have hm28:=hb25.post hkq28
   go_wp2_with fail
   refine(bytes_c _ _ _ _ hQ28.buf).mono ?_
   rintro e w28 ⟨rfl,A28,c28,rfl,hr28,hA28⟩
   have hpl28:=pre_le s2 HS2.o.hl 27
   have hvl28:=vlen_le (pre s2 27).length (by omega)
   generalize hX28:vlen (pre s2 27).length++pre s2 27=X28 at hr28 ⊢
   have hxl28:X28.length≤110000000:=by rw[←hX28];simp only[List.length_append];omega
   have HX28:=hH hX28
   clear hX28
   go_wp2_with fail
   go_fit (write_c _ _ _ _ _ _ _ _ hm28.buf hr28 (by first|omega|(simp[lp_length,be2_length]<;>omega)))
   rintro e w32 ⟨rfl,d32,hB32⟩
   have hb32:=hm28.trans hB32
   have g33_42:=gc HP hb32.keeps 42
   go_wp2_with fail
   refine(encodeString_c _ wt l42).mono ?_
   rintro e w34 ⟨A34,c34,rfl,hr34,hk34,hA34⟩
   have hb34:=hb32.post hk34
   go_wp2_with fail
   refine(write_c _ _ _ _ _ _ _ _ hb34.buf hr34 (by simp only[List.length_append,lp_length,be2_length,List.length_nil,List.length_cons,HTcid.o,HTwt.o];omega)).mono ?_
   rintro e w35 ⟨rfl,d35,hB35⟩
   have hb35:=hb34.trans hB35
   have g36_40:=gc HP hb35.keeps 40
   go_wp2_with fail
   refine(encodeBytes_c _ A40 wp.length c40 wp (R40.o.keep (HKW.o.trans2 hb35.keeps) (fun a ha=>by have:=a40 a ha;simp<;>omega)) (fun a ha=>Nat.lt_of_lt_of_le (a40 a ha) (HKW.o.trans2 hb35.keeps).size) (by omega)).mono ?_
   rintro e w37 ⟨A37,c37,rfl,hr37,hk37,hA37⟩
   have hb37:=hb35.post hk37
   go_wp2_with fail
   refine(write_c _ _ _ _ _ _ _ _ hb37.buf hr37 (by simp only[List.length_append,lp_length,be2_length,List.length_nil,List.length_cons,HTcid.o,HTwt.o];omega)).mono ?_
   rintro e w38 ⟨rfl,d38,hB38⟩
   have hb38:=hb37.trans hB38
   go_wp2_with fail
   go_meet
   case rel=>exact⟨_,by have hx:=HX28.o;subst hx;simpa [optD,willB4,willB5,pbytes] using hb38⟩
 case rest=>
 clear hb25
 obtain⟨d39,hb39⟩:=hcut
 generalize hY2:(Y1++willB5 wf s2 wt wp)=Y2 at hb39
 have HY2:=hH hY2
 have lY2:Y2.length≤222000000:=by rw[←hY2];simp only[List.length_append,lp_length,be2_length,List.length_nil,List.length_cons,HTcid.o,HTwt.o];omega
 clear hY2
 have g40_45:=gc HP hb39.keeps 45
 go_upto_if 158 with(fail)
 go_cut [] from 159 to 166 (fun wc=>∃d,BufAt (w.alloc (.cells #[.slice none 0 0] 111)) w.heap.size none d (Y2++optD uf un) wc)
 case first=>
  cases uf with
  |false=>
   go_wp2_with fail
   go_meet
   case rel=>exact⟨_,by simpa [optD,willB4,willB5] using hb39⟩
  |true=>
   have g41_38:=gc HP hb39.keeps 38
   go_wp2_with fail
   refine(encodeBytes_c _ A38 un.length c38 un (R38.o.keep (HKW.o.trans2 hb39.keeps) (fun a ha=>by have:=a38 a ha;simp<;>omega)) (fun a ha=>Nat.lt_of_lt_of_le (a38 a ha) (HKW.o.trans2 hb39.keeps).size) (by omega)).mono ?_
   rintro e w42 ⟨A42,c42,rfl,hr42,hk42,hA42⟩
   have hb42:=hb39.post hk42
   go_wp2_with fail
   refine(write_c _ _ _ _ _ _ _ _ hb42.buf hr42 (by simp only[List.length_append,lp_length,be2_length,List.length_nil,List.length_cons,HTcid.o,HTwt.o];omega)).mono ?_
   rintro e w43 ⟨rfl,d43,hB43⟩
   have hb43:=hb42.trans hB43
   go_wp2_with fail
   go_meet
   case rel=>exact⟨_,by simpa [optD,willB4,willB5,pbytes] using hb43⟩
 case rest=>
 clear hb39
 obtain⟨d44,hb44⟩:=hcut
 generalize hY3:(Y2++optD uf un)=Y3 at hb44
 have HY3:=hH hY3
 have lY3:Y3.length≤222100000:=by rw[←hY3];simp only[List.length_append,lp_length,be2_length,List.length_nil,List.length_cons,HTcid.o,HTwt.o];omega
 clear hY3
 have g45_44:=gc HP hb44.keeps 44
 go_upto_if 171 with(fail)
 go_cut [] from 172 to 179 (fun wc=>∃d,BufAt (w.alloc (.cells #[.slice none 0 0] 111)) w.heap.size none d (Y3++optD pf pw) wc)
 case first=>
  cases pf with
  |false=>
   go_wp2_with fail
   go_meet
   case rel=>exact⟨_,by simpa [optD,willB4,willB5] using hb44⟩
  |true=>
   have g46_37:=gc HP hb44.keeps 37
   go_wp2_with fail
   refine(encodeBytes_c _ A37 pw.length c37 pw (R37.o.keep (HKW.o.trans2 hb44.keeps) (fun a ha=>by have:=a37 a ha;simp<;>omega)) (fun a ha=>Nat.lt_of_lt_of_le (a37 a ha) (HKW.o.trans2 hb44.keeps).size) (by omega)).mono ?_
   rintro e w47 ⟨A47,c47,rfl,hr47,hk47,hA47⟩
   have hb47:=hb44.post hk47
   go_wp2_with fail
   refine(write_c _ _ _ _ _ _ _ _ hb47.buf hr47 (by simp only[List.length_append,lp_length,be2_length,List.length_nil,List.length_cons,HTcid.o,HTwt.o];omega)).mono ?_
   rintro e w48 ⟨rfl,d48,hB48⟩
   have hb48:=hb47.trans hB48
   go_wp2_with fail
   go_meet
   case rel=>exact⟨_,by simpa [optD,willB4,willB5,pbytes] using hb48⟩
 case rest=>
 clear hb44
 obtain⟨d49,hb49⟩:=hcut
 generalize hY4:(Y3++optD pf pw)=Y4 at hb49
 have HY4:=hH hY4
 have lY4:Y4.length≤222200000:=by rw[←hY4];simp only[List.length_append,lp_length,be2_length,List.length_nil,List.length_cons,HTcid.o,HTwt.o];omega
 clear hY4
 go_wp2_with fail
 refine(len_c _ _ _ _ hb49.buf).mono ?_
 rintro e w50 ⟨rfl,rfl⟩
 generalize hY:Y4=Y at hb49 ⊢
 have HY:=hH hY
 have hyl:Y.length<268435456:=by rw[←hY];omega
 clear hY
 have hkk:=HKW.o.trans2 hb49.keeps
 have k92:wc.cell? ⟨g,92,none⟩=some (pv 92):=HP.o.cell hkk (by simp<;>omega) 92 (by omega)
 have f92:wc.frozen? ⟨g,92,none⟩=false:=HP.o.frozen hkk (by simp<;>omega) 92
 obtain⟨t0,t1,t2,t3,t4⟩:=HP.o.tailCells hkk (by simp<;>omega) (Y.length:Int)
 have hBv:Buf (wc.setCell ⟨g,92,none⟩ (.int .i64 (Y.length:Int))) bb none []:=(hB.keep hkk (by simp<;>omega) (by simp)).keep (Keeps.setCell _ _ _) (by simp<;>omega) (by simp)
 go_wp2_with fail
 refine(header_c _ g 92 bb none [] 1 q Y.length dup ret HP.o.ht HP.o.hq hyl t0 t1 t2 t3 t4 hgb (by simp) hBv (by simp)).mono ?_
 rintro e wh ⟨rfl,dh,hBh⟩
 have hnb:=nbKeep hb49 HKW.o hg hblt (by omega) (Keeps.setCell wc ⟨g,92,none⟩ (.int .i64 (Y.length:Int))) hBh.keeps
 have hvl:=vlen_le Y.length hyl
 go_wp2_with fail
 refine(bytes_c _ _ _ _ hnb).mono ?_
 rintro e wb ⟨rfl,Ab,cb,rfl,hrb,hAb⟩
 go_wp2_with fail
 go_fit (write_c _ _ _ _ _ _ _ _ hBh.buf hrb (by simp<;>omega))
 rintro e we ⟨rfl,de,hBe⟩
 go_wp2_with fail
 go_ret
 refine⟨rfl,?_⟩
 have hfin:=encTo_of hkk (by omega) (Keeps.setCell wc ⟨g,92,none⟩ (.int .i64 (Y.length:Int))) (hBh.trans hBe)
 have hy:BODY=Y:=by rw[←HBODY.o,←HY.o,←HY4.o,←HY3.o,←HY2.o,←HY1.o,←HX17.o];simp[pbytes]
 unfold whole
 rw[hy]
 simpa using hfin
theorem connectEncode4_c (w:World) (g bb:Nat) (cs:Array Value) (pv:Nat→Value) (q:Nat) (dup ret:Bool) (pn un pw wp:List UInt8) (A39 A38 A37 A40:Option Addr) (c39 c38 c37 c40 ka wq:Nat) (cl wf wr pf uf:Bool) (cid wt:ByteArray) (P:PkEnc w g cs pv 1 q dup ret 4)
 (e39:pv 39=.slice A39 pn.length c39) (r39:Rd w 1 A39 pn.length (bvs pn)) (a39:∀a,A39=some a→a.block<w.heap.size) (l39:pn.length≤65535) (e38:pv 38=.slice A38 un.length c38) (r38:Rd w 1 A38 un.length (bvs un)) (a38:∀a,A38=some a→a.block<w.heap.size) (l38:un.length≤65535) (e37:pv 37=.slice A37 pw.length c37) (r37:Rd w 1 A37 pw.length (bvs pw)) (a37:∀a,A37=some a→a.block<w.heap.size) (l37:pw.length≤65535) (e40:pv 40=.slice A40 wp.length c40) (r40:Rd w 1 A40 wp.length (bvs wp)) (a40:∀a,A40=some a→a.block<w.heap.size) (l40:wp.length≤65535) (e41:pv 41=.string cid) (l41:cid.size<65536) (e42:pv 42=.string wt) (l42:wt.size<65536) (e43:pv 43=.int .u16 (ka:Int)) (l43:ka<65536) (e44:pv 44=.bool pf) (e45:pv 45=.bool uf) (e46:pv 46=.int .u8 (wq:Int)) (l46:wq<3) (e47:pv 47=.bool wf) (e48:pv 48=.bool wr) (e49:pv 49=.bool cl) (hB:Buf w bb none []) (hgb:g≠bb):
 Calls prog 45 #[.pointer (some ⟨g,0,none⟩),.pointer (some ⟨bb,0,none⟩)] w fun e w'=>e=.returned .nilIface∧EncTo w g bb (whole 1 q dup ret (lp pn++[UInt8.ofNat 4]++[flagB cl wf wr pf uf wq]++be2 ka++lp cid.data.toList++willB4 wf wt wp++optD uf un++optD pf pw)) w':=by
 have hg:=P.blk.lt
 have hblt:=hB.lt
 obtain⟨e93,e94,e95,e96,e99,e100,e101,e103⟩:=P.es
 have HP:=hH P
 clear P
 have hb0:=BufAt.refl (Buf.new w)
 obtain⟨HKW,HWS⟩:=al0 w
 have R39:=hH r39
 clear r39
 have R38:=hH r38
 clear r38
 have R37:=hH r37
 clear r37
 have R40:=hH r40
 clear r40
 have htlcid:=tl_len cid
 have HTcid:=hH htlcid
 clear htlcid
 have htlwt:=tl_len wt
 have HTwt:=hH htlwt
 clear htlwt
 have g1_39:=gc HP hb0.keeps 39
 obtain⟨BODY,hBODY⟩:∃B,lp pn++[UInt8.ofNat 4]++[flagB cl wf wr pf uf wq]++be2 ka++lp cid.data.toList++willB4 wf wt wp++optD uf un++optD pf pw=B:=⟨_,rfl⟩
 rw[hBODY]
 have HBODY:=hH hBODY
 clear hBODY
 go_enter func45,ntmps45
 go_wp2_with fail
 refine(encodeBytes_c _ A39 pn.length c39 pn (R39.o.keep (HKW.o.trans2 hb0.keeps) (fun a ha=>by have:=a39 a ha;simp<;>omega)) (fun a ha=>Nat.lt_of_lt_of_le (a39 a ha) (HKW.o.trans2 hb0.keeps).size) (by omega)).mono ?_
 rintro e w2 ⟨A2,c2,rfl,hr2,hk2,hA2⟩
 have hb2:=hb0.post hk2
 go_wp2_with fail
 refine(write_c _ _ _ _ _ _ _ _ hb2.buf hr2 (by simp only[List.length_append,lp_length,be2_length,List.length_nil,List.length_cons,HTcid.o,HTwt.o];omega)).mono ?_
 rintro e w3 ⟨rfl,d3,hB3⟩
 have hb3:=hb2.trans hB3
 have g4_103:=gc HP hb3.keeps 103
 go_wp2_with fail
 refine(writeByte_c _ _ _ _ (UInt8.ofNat 4) _ (ofNat_lo (by omega)) hb3.buf (by simp only[List.length_append,lp_length,be2_length,List.length_nil,List.length_cons];omega)).mono ?_
 rintro e w5 ⟨rfl,d5,hB5⟩
 have hb5:=hb3.trans hB5
 have g6_49:=gc HP hb5.keeps 49
 have g7_47:=gc HP hb5.keeps 47
 have g8_46:=gc HP hb5.keeps 46
 have g9_48:=gc HP hb5.keeps 48
 have g10_44:=gc HP hb5.keeps 44
 have g11_45:=gc HP hb5.keeps 45
 go_wp2_with fail
 refine wp_region_still_tail 48 (by kernel_rfl) (by kernel_rfl) ?_
 simp only[List.take_succ_cons,List.take_zero,List.drop_succ_cons,List.drop_zero]
 change wpStill _ _ w5.drew _ _ _
 repeat still_step
 still_call ((encodeBool_b _ cl).mono fun _ _ h=>⟨h.1,h.2.symm⟩)
 repeat still_step
 still_call ((encodeBool_b _ wf).mono fun _ _ h=>⟨h.1,h.2.symm⟩)
 repeat still_step
 still_call ((encodeBool_b _ wr).mono fun _ _ h=>⟨h.1,h.2.symm⟩)
 repeat still_step
 still_call ((encodeBool_b _ pf).mono fun _ _ h=>⟨h.1,h.2.symm⟩)
 repeat still_step
 still_call ((encodeBool_b _ uf).mono fun _ _ h=>⟨h.1,h.2.symm⟩)
 repeat still_step
 try refine wpStill_nil ?_
 change wpList _ _ _ _ _ w5.drew
 have hbd:=hb5.post (Keeps.drew _)
 go_wp2_with fail
 refine(writeByte_c _ _ _ _ (flagB cl wf wr pf uf wq) _ ((flag_eq cl wf wr pf uf wq l46).symm) hbd.buf (by simp only[List.length_append,lp_length,be2_length,List.length_nil,List.length_cons,HTcid.o,HTwt.o];omega)).mono ?_
 rintro e w12 ⟨rfl,d12,hB12⟩
 have hb12:=hbd.trans hB12
 have g13_43:=gc HP hb12.keeps 43
 go_wp2_with fail
 refine(encodeUint16_c _ ka l43).mono ?_
 rintro e w14 ⟨A14,c14,rfl,hr14,hk14,hA14⟩
 have hb14:=hb12.post hk14
 go_wp2_with fail
 refine(write_c _ _ _ _ _ _ _ _ hb14.buf hr14 (by simp only[List.length_append,lp_length,be2_length,List.length_nil,List.length_cons,HTcid.o,HTwt.o];omega)).mono ?_
 rintro e w15 ⟨rfl,d15,hB15⟩
 have hb15:=hb14.trans hB15
 have g16_103:=gc HP hb15.keeps 103
 have g17_41:=gc HP hb15.keeps 41
 go_wp2_with fail
 refine(encodeString_c _ cid l41).mono ?_
 rintro e w18 ⟨A18,c18,rfl,hr18,hk18,hA18⟩
 have hb18:=hb15.post hk18
 go_wp2_with fail
 refine(write_c _ _ _ _ _ _ _ _ hb18.buf hr18 (by simp only[List.length_append,lp_length,be2_length,List.length_nil,List.length_cons,HTcid.o,HTwt.o];omega)).mono ?_
 rintro e w19 ⟨rfl,d19,hB19⟩
 have hb19:=hb18.trans hB19
 generalize hY1:((((([]++lp pn)++[UInt8.ofNat 4])++[flagB cl wf wr pf uf wq])++be2 ka)++lp cid.data.toList)=Y1 at hb19
 have HY1:=hH hY1
 have lY1:Y1.length≤111000000:=by rw[←hY1];simp only[List.length_append,lp_length,be2_length,List.length_nil,List.length_cons,HTcid.o,HTwt.o];omega
 clear hY1
 have lo1:=optD_le uf un l38
 have lo2:=optD_le pf pw l37
 have hwl:=willB4_le wf wt wp l42 l40
 have g20_47:=gc HP hb19.keeps 47
 go_upto_if 116 with(fail)
 go_cut [7] from 117 to 153 (fun s7 wc=>∃d,BufAt (w.alloc (.cells #[.slice none 0 0] 111)) w.heap.size none d (Y1++willB4 wf wt wp) wc)
 case first=>
  cases wf with
  |false=>
   go_wp2_with fail
   go_meet
   case rel=>exact⟨_,by simpa [optD,willB4,willB5] using hb19⟩
  |true=>
   have g21_103:=gc HP hb19.keeps 103
   have g22_42:=gc HP hb19.keeps 42
   go_wp2_with fail
   refine(encodeString_c _ wt l42).mono ?_
   rintro e w23 ⟨A23,c23,rfl,hr23,hk23,hA23⟩
   have hb23:=hb19.post hk23
   go_wp2_with fail
   refine(write_c _ _ _ _ _ _ _ _ hb23.buf hr23 (by simp only[List.length_append,lp_length,be2_length,List.length_nil,List.length_cons,HTcid.o,HTwt.o];omega)).mono ?_
   rintro e w24 ⟨rfl,d24,hB24⟩
   have hb24:=hb23.trans hB24
   have g25_40:=gc HP hb24.keeps 40
   go_wp2_with fail
   refine(encodeBytes_c _ A40 wp.length c40 wp (R40.o.keep (HKW.o.trans2 hb24.keeps) (fun a ha=>by have:=a40 a ha;simp<;>omega)) (fun a ha=>Nat.lt_of_lt_of_le (a40 a ha) (HKW.o.trans2 hb24.keeps).size) (by omega)).mono ?_
   rintro e w26 ⟨A26,c26,rfl,hr26,hk26,hA26⟩
   have hb26:=hb24.post hk26
   go_wp2_with fail
   refine(write_c _ _ _ _ _ _ _ _ hb26.buf hr26 (by simp only[List.length_append,lp_length,be2_length,List.length_nil,List.length_cons,HTcid.o,HTwt.o];omega)).mono ?_
   rintro e w27 ⟨rfl,d27,hB27⟩
   have hb27:=hb26.trans hB27
   go_wp2_with fail
   go_meet
   case rel=>exact⟨_,by simpa [optD,willB4,willB5,pbytes] using hb27⟩
 case rest=>
 clear hb19
 obtain⟨d28,hb28⟩:=hcut
 generalize hY2:(Y1++willB4 wf wt wp)=Y2 at hb28
 have HY2:=hH hY2
 have lY2:Y2.length≤222000000:=by rw[←hY2];simp only[List.length_append,lp_length,be2_length,List.length_nil,List.length_cons,HTcid.o,HTwt.o];omega
 clear hY2
 have g29_45:=gc HP hb28.keeps 45
 go_upto_if 158 with(fail)
 go_cut [] from 159 to 166 (fun wc=>∃d,BufAt (w.alloc (.cells #[.slice none 0 0] 111)) w.heap.size none d (Y2++optD uf un) wc)
 case first=>
  cases uf with
  |false=>
   go_wp2_with fail
   go_meet
   case rel=>exact⟨_,by simpa [optD,willB4,willB5] using hb28⟩
  |true=>
   have g30_38:=gc HP hb28.keeps 38
   go_wp2_with fail
   refine(encodeBytes_c _ A38 un.length c38 un (R38.o.keep (HKW.o.trans2 hb28.keeps) (fun a ha=>by have:=a38 a ha;simp<;>omega)) (fun a ha=>Nat.lt_of_lt_of_le (a38 a ha) (HKW.o.trans2 hb28.keeps).size) (by omega)).mono ?_
   rintro e w31 ⟨A31,c31,rfl,hr31,hk31,hA31⟩
   have hb31:=hb28.post hk31
   go_wp2_with fail
   refine(write_c _ _ _ _ _ _ _ _ hb31.buf hr31 (by simp only[List.length_append,lp_length,be2_length,List.length_nil,List.length_cons,HTcid.o,HTwt.o];omega)).mono ?_
   rintro e w32 ⟨rfl,d32,hB32⟩
   have hb32:=hb31.trans hB32
   go_wp2_with fail
   go_meet
   case rel=>exact⟨_,by simpa [optD,willB4,willB5,pbytes] using hb32⟩
 case rest=>
 clear hb28
 obtain⟨d33,hb33⟩:=hcut
 generalize hY3:(Y2++optD uf un)=Y3 at hb33
 have HY3:=hH hY3
 have lY3:Y3.length≤222100000:=by rw[←hY3];simp only[List.length_append,lp_length,be2_length,List.length_nil,List.length_cons,HTcid.o,HTwt.o];omega
 clear hY3
 have g34_44:=gc HP hb33.keeps 44
 go_upto_if 171 with(fail)
 go_cut [] from 172 to 179 (fun wc=>∃d,BufAt (w.alloc (.cells #[.slice none 0 0] 111)) w.heap.size none d (Y3++optD pf pw) wc)
 case first=>
  cases pf with
  |false=>
   go_wp2_with fail
   go_meet
   case rel=>exact⟨_,by simpa [optD,willB4,willB5] using hb33⟩
  |true=>
   have g35_37:=gc HP hb33.keeps 37
   go_wp2_with fail
   refine(encodeBytes_c _ A37 pw.length c37 pw (R37.o.keep (HKW.o.trans2 hb33.keeps) (fun a ha=>by have:=a37 a ha;simp<;>omega)) (fun a ha=>Nat.lt_of_lt_of_le (a37 a ha) (HKW.o.trans2 hb33.keeps).size) (by omega)).mono ?_
   rintro e w36 ⟨A36,c36,rfl,hr36,hk36,hA36⟩
   have hb36:=hb33.post hk36
   go_wp2_with fail
   refine(write_c _ _ _ _ _ _ _ _ hb36.buf hr36 (by simp only[List.length_append,lp_length,be2_length,List.length_nil,List.length_cons,HTcid.o,HTwt.o];omega)).mono ?_
   rintro e w37 ⟨rfl,d37,hB37⟩
   have hb37:=hb36.trans hB37
   go_wp2_with fail
   go_meet
   case rel=>exact⟨_,by simpa [optD,willB4,willB5,pbytes] using hb37⟩
 case rest=>
 clear hb33
 obtain⟨d38,hb38⟩:=hcut
 generalize hY4:(Y3++optD pf pw)=Y4 at hb38
 have HY4:=hH hY4
 have lY4:Y4.length≤222200000:=by rw[←hY4];simp only[List.length_append,lp_length,be2_length,List.length_nil,List.length_cons,HTcid.o,HTwt.o];omega
 clear hY4
 go_wp2_with fail
 refine(len_c _ _ _ _ hb38.buf).mono ?_
 rintro e w39 ⟨rfl,rfl⟩
 generalize hY:Y4=Y at hb38 ⊢
 have HY:=hH hY
 have hyl:Y.length<268435456:=by rw[←hY];omega
 clear hY
 have hkk:=HKW.o.trans2 hb38.keeps
 have k92:wc.cell? ⟨g,92,none⟩=some (pv 92):=HP.o.cell hkk (by simp<;>omega) 92 (by omega)
 have f92:wc.frozen? ⟨g,92,none⟩=false:=HP.o.frozen hkk (by simp<;>omega) 92
 obtain⟨t0,t1,t2,t3,t4⟩:=HP.o.tailCells hkk (by simp<;>omega) (Y.length:Int)
 have hBv:Buf (wc.setCell ⟨g,92,none⟩ (.int .i64 (Y.length:Int))) bb none []:=(hB.keep hkk (by simp<;>omega) (by simp)).keep (Keeps.setCell _ _ _) (by simp<;>omega) (by simp)
 go_wp2_with fail
 refine(header_c _ g 92 bb none [] 1 q Y.length dup ret HP.o.ht HP.o.hq hyl t0 t1 t2 t3 t4 hgb (by simp) hBv (by simp)).mono ?_
 rintro e wh ⟨rfl,dh,hBh⟩
 have hnb:=nbKeep hb38 HKW.o hg hblt (by omega) (Keeps.setCell wc ⟨g,92,none⟩ (.int .i64 (Y.length:Int))) hBh.keeps
 have hvl:=vlen_le Y.length hyl
 go_wp2_with fail
 refine(bytes_c _ _ _ _ hnb).mono ?_
 rintro e wb ⟨rfl,Ab,cb,rfl,hrb,hAb⟩
 go_wp2_with fail
 go_fit (write_c _ _ _ _ _ _ _ _ hBh.buf hrb (by simp<;>omega))
 rintro e we ⟨rfl,de,hBe⟩
 go_wp2_with fail
 go_ret
 refine⟨rfl,?_⟩
 have hfin:=encTo_of hkk (by omega) (Keeps.setCell wc ⟨g,92,none⟩ (.int .i64 (Y.length:Int))) (hBh.trans hBe)
 have hy:BODY=Y:=by rw[←HBODY.o,←HY.o,←HY4.o,←HY3.o,←HY2.o,←HY1.o];simp[pbytes]
 unfold whole
 rw[hy]
 simpa using hfin
theorem zC15 {p:Prop} (h:p:=by
 rintro e wh ⟨rfl,dh,hBh⟩
 go_wp2_with fail
 go_ret
 exact⟨rfl,dh,by simpa [whole] using hBh.buf,hBh.keeps.mono (by simp)⟩
 ):p:=h
theorem pingreqEncode_c (w:World) (g bb:Nat) (cs:Array Value) (pv:Nat→Value) (q:Nat) (dup ret:Bool) (ver:Nat) (P:PkEnc w g cs pv 12 q dup ret ver)
 (e92:pv 92=.int .i64 0) (hB:Buf w bb none []) (hgb:g≠bb):
 Calls prog 56 #[.pointer (some ⟨g,0,none⟩),.pointer (some ⟨bb,0,none⟩)] w fun e w'=>e=.returned .nilIface∧EncTo w g bb (whole 12 q dup ret ([])) w':=by
 have hg:=P.blk.lt
 have hc:=fun j hj=>P.cell (Keeps.refl [] w) (by simp) j hj
 have t0:=hc 92 (by omega)
 have t1:=hc 93 (by omega)
 have t2:=hc 94 (by omega)
 have t3:=hc 95 (by omega)
 have t4:=hc 96 (by omega)
 rw[e92] at t0
 rw[P.e93] at t1
 rw[P.e94] at t2
 rw[P.e95] at t3
 rw[P.e96] at t4
 have ht:=P.ht
 have hq:=P.hq
 clear hc P e92
 go_enter func56,ntmps56
 go_wp2_with fail
 refine(header_c w g 92 bb none [] 12 q 0 dup ret ht hq (by omega) t0 t1 t2 t3 t4 hgb (by simp) hB (by simp)).mono ?_
 exact zC15
theorem pingrespEncode_c (w:World) (g bb:Nat) (cs:Array Value) (pv:Nat→Value) (q:Nat) (dup ret:Bool) (ver:Nat) (P:PkEnc w g cs pv 13 q dup ret ver)
 (e92:pv 92=.int .i64 0) (hB:Buf w bb none []) (hgb:g≠bb):
 Calls prog 57 #[.pointer (some ⟨g,0,none⟩),.pointer (some ⟨bb,0,none⟩)] w fun e w'=>e=.returned .nilIface∧EncTo w g bb (whole 13 q dup ret ([])) w':=by
 have hg:=P.blk.lt
 have hc:=fun j hj=>P.cell (Keeps.refl [] w) (by simp) j hj
 have t0:=hc 92 (by omega)
 have t1:=hc 93 (by omega)
 have t2:=hc 94 (by omega)
 have t3:=hc 95 (by omega)
 have t4:=hc 96 (by omega)
 rw[e92] at t0
 rw[P.e93] at t1
 rw[P.e94] at t2
 rw[P.e95] at t3
 rw[P.e96] at t4
 have ht:=P.ht
 have hq:=P.hq
 clear hc P e92
 go_enter func57,ntmps57
 go_wp2_with fail
 refine(header_c w g 92 bb none [] 13 q 0 dup ret ht hq (by omega) t0 t1 t2 t3 t4 hgb (by simp) hB (by simp)).mono ?_
 exact zC15
def ZZOut (w:World) (g:Nat) (bytes:List UInt8) (e:Ending) (w':World):Prop:=
 ∃A c,e=.returned (.tuple #[.slice A bytes.length c,.nilIface,.bool true])∧Rd w' 1 A bytes.length (bvs bytes)∧Keeps [g] w w'∧∀a,A=some a→a.block<w'.heap.size
theorem zC0 {p:Prop} (h:p:=by
 clear h
 go_enter func27,ntmps27
 go_wp2_with fail
 refine h0.o.mono ?_
 rintro e w1 ⟨rfl,d,hB,hK⟩
 go_wp2_with fail
 have hd:=hB.dlt
 go_fit (bytes_c _ _ _ _ hB)
 rintro e w2 ⟨rfl,A,c,rfl,hr,hA⟩
 go_wp2_with fail
 go_ret3
 refine⟨A,c,rfl,hr,((Keeps.alloc w _).mono (by simp)).trans hK (by simp),fun a ha=>?_⟩
 subst ha
 exact hd a.block hA.symm
 ):p:=h
theorem zz1_c (w:World) (g:Nat) (bytes:List UInt8) (h93:w.cell? ⟨g,93,none⟩=some (.int .u8 1))
 (h:Calls prog 45 #[.pointer (some ⟨g,0,none⟩),.pointer (some ⟨w.heap.size,0,none⟩)] (w.alloc (.cells #[.slice none 0 0] 111)) fun e w'=>e=.returned .nilIface∧EncTo (w.alloc (.cells #[.slice none 0 0] 111)) g w.heap.size bytes w'):
 Calls prog 27 #[.pointer (some ⟨g,0,none⟩)] w (ZZOut w g bytes):=by
 have h0:=hH h
 have g93:(w.alloc (.cells #[.slice none 0 0] 111)).cell? ⟨g,93,none⟩=some (.int .u8 1):=(Keeps.alloc w _).some_ h93 (by simp)
 exact zC0
theorem zz2_c (w:World) (g:Nat) (bytes:List UInt8) (h93:w.cell? ⟨g,93,none⟩=some (.int .u8 2))
 (h:Calls prog 46 #[.pointer (some ⟨g,0,none⟩),.pointer (some ⟨w.heap.size,0,none⟩)] (w.alloc (.cells #[.slice none 0 0] 111)) fun e w'=>e=.returned .nilIface∧EncTo (w.alloc (.cells #[.slice none 0 0] 111)) g w.heap.size bytes w'):
 Calls prog 27 #[.pointer (some ⟨g,0,none⟩)] w (ZZOut w g bytes):=by
 have h0:=hH h
 have g93:(w.alloc (.cells #[.slice none 0 0] 111)).cell? ⟨g,93,none⟩=some (.int .u8 2):=(Keeps.alloc w _).some_ h93 (by simp)
 exact zC0
theorem zz3_c (w:World) (g:Nat) (bytes:List UInt8) (h93:w.cell? ⟨g,93,none⟩=some (.int .u8 3))
 (h:Calls prog 47 #[.pointer (some ⟨g,0,none⟩),.pointer (some ⟨w.heap.size,0,none⟩)] (w.alloc (.cells #[.slice none 0 0] 111)) fun e w'=>e=.returned .nilIface∧EncTo (w.alloc (.cells #[.slice none 0 0] 111)) g w.heap.size bytes w'):
 Calls prog 27 #[.pointer (some ⟨g,0,none⟩)] w (ZZOut w g bytes):=by
 have h0:=hH h
 have g93:(w.alloc (.cells #[.slice none 0 0] 111)).cell? ⟨g,93,none⟩=some (.int .u8 3):=(Keeps.alloc w _).some_ h93 (by simp)
 exact zC0
theorem zz4_c (w:World) (g:Nat) (bytes:List UInt8) (h93:w.cell? ⟨g,93,none⟩=some (.int .u8 4))
 (h:Calls prog 48 #[.pointer (some ⟨g,0,none⟩),.pointer (some ⟨w.heap.size,0,none⟩)] (w.alloc (.cells #[.slice none 0 0] 111)) fun e w'=>e=.returned .nilIface∧EncTo (w.alloc (.cells #[.slice none 0 0] 111)) g w.heap.size bytes w'):
 Calls prog 27 #[.pointer (some ⟨g,0,none⟩)] w (ZZOut w g bytes):=by
 have h0:=hH h
 have g93:(w.alloc (.cells #[.slice none 0 0] 111)).cell? ⟨g,93,none⟩=some (.int .u8 4):=(Keeps.alloc w _).some_ h93 (by simp)
 exact zC0
theorem zz5_c (w:World) (g:Nat) (bytes:List UInt8) (h93:w.cell? ⟨g,93,none⟩=some (.int .u8 5))
 (h:Calls prog 49 #[.pointer (some ⟨g,0,none⟩),.pointer (some ⟨w.heap.size,0,none⟩)] (w.alloc (.cells #[.slice none 0 0] 111)) fun e w'=>e=.returned .nilIface∧EncTo (w.alloc (.cells #[.slice none 0 0] 111)) g w.heap.size bytes w'):
 Calls prog 27 #[.pointer (some ⟨g,0,none⟩)] w (ZZOut w g bytes):=by
 have h0:=hH h
 have g93:(w.alloc (.cells #[.slice none 0 0] 111)).cell? ⟨g,93,none⟩=some (.int .u8 5):=(Keeps.alloc w _).some_ h93 (by simp)
 exact zC0
theorem zz6_c (w:World) (g:Nat) (bytes:List UInt8) (h93:w.cell? ⟨g,93,none⟩=some (.int .u8 6))
 (h:Calls prog 50 #[.pointer (some ⟨g,0,none⟩),.pointer (some ⟨w.heap.size,0,none⟩)] (w.alloc (.cells #[.slice none 0 0] 111)) fun e w'=>e=.returned .nilIface∧EncTo (w.alloc (.cells #[.slice none 0 0] 111)) g w.heap.size bytes w'):
 Calls prog 27 #[.pointer (some ⟨g,0,none⟩)] w (ZZOut w g bytes):=by
 have h0:=hH h
 have g93:(w.alloc (.cells #[.slice none 0 0] 111)).cell? ⟨g,93,none⟩=some (.int .u8 6):=(Keeps.alloc w _).some_ h93 (by simp)
 exact zC0
theorem zz7_c (w:World) (g:Nat) (bytes:List UInt8) (h93:w.cell? ⟨g,93,none⟩=some (.int .u8 7))
 (h:Calls prog 51 #[.pointer (some ⟨g,0,none⟩),.pointer (some ⟨w.heap.size,0,none⟩)] (w.alloc (.cells #[.slice none 0 0] 111)) fun e w'=>e=.returned .nilIface∧EncTo (w.alloc (.cells #[.slice none 0 0] 111)) g w.heap.size bytes w'):
 Calls prog 27 #[.pointer (some ⟨g,0,none⟩)] w (ZZOut w g bytes):=by
 have h0:=hH h
 have g93:(w.alloc (.cells #[.slice none 0 0] 111)).cell? ⟨g,93,none⟩=some (.int .u8 7):=(Keeps.alloc w _).some_ h93 (by simp)
 exact zC0
theorem zz8_c (w:World) (g:Nat) (bytes:List UInt8) (h93:w.cell? ⟨g,93,none⟩=some (.int .u8 8))
 (h:Calls prog 52 #[.pointer (some ⟨g,0,none⟩),.pointer (some ⟨w.heap.size,0,none⟩)] (w.alloc (.cells #[.slice none 0 0] 111)) fun e w'=>e=.returned .nilIface∧EncTo (w.alloc (.cells #[.slice none 0 0] 111)) g w.heap.size bytes w'):
 Calls prog 27 #[.pointer (some ⟨g,0,none⟩)] w (ZZOut w g bytes):=by
 have h0:=hH h
 have g93:(w.alloc (.cells #[.slice none 0 0] 111)).cell? ⟨g,93,none⟩=some (.int .u8 8):=(Keeps.alloc w _).some_ h93 (by simp)
 exact zC0
theorem zz9_c (w:World) (g:Nat) (bytes:List UInt8) (h93:w.cell? ⟨g,93,none⟩=some (.int .u8 9))
 (h:Calls prog 53 #[.pointer (some ⟨g,0,none⟩),.pointer (some ⟨w.heap.size,0,none⟩)] (w.alloc (.cells #[.slice none 0 0] 111)) fun e w'=>e=.returned .nilIface∧EncTo (w.alloc (.cells #[.slice none 0 0] 111)) g w.heap.size bytes w'):
 Calls prog 27 #[.pointer (some ⟨g,0,none⟩)] w (ZZOut w g bytes):=by
 have h0:=hH h
 have g93:(w.alloc (.cells #[.slice none 0 0] 111)).cell? ⟨g,93,none⟩=some (.int .u8 9):=(Keeps.alloc w _).some_ h93 (by simp)
 exact zC0
theorem zz10_c (w:World) (g:Nat) (bytes:List UInt8) (h93:w.cell? ⟨g,93,none⟩=some (.int .u8 10))
 (h:Calls prog 54 #[.pointer (some ⟨g,0,none⟩),.pointer (some ⟨w.heap.size,0,none⟩)] (w.alloc (.cells #[.slice none 0 0] 111)) fun e w'=>e=.returned .nilIface∧EncTo (w.alloc (.cells #[.slice none 0 0] 111)) g w.heap.size bytes w'):
 Calls prog 27 #[.pointer (some ⟨g,0,none⟩)] w (ZZOut w g bytes):=by
 have h0:=hH h
 have g93:(w.alloc (.cells #[.slice none 0 0] 111)).cell? ⟨g,93,none⟩=some (.int .u8 10):=(Keeps.alloc w _).some_ h93 (by simp)
 exact zC0
theorem zz11_c (w:World) (g:Nat) (bytes:List UInt8) (h93:w.cell? ⟨g,93,none⟩=some (.int .u8 11))
 (h:Calls prog 55 #[.pointer (some ⟨g,0,none⟩),.pointer (some ⟨w.heap.size,0,none⟩)] (w.alloc (.cells #[.slice none 0 0] 111)) fun e w'=>e=.returned .nilIface∧EncTo (w.alloc (.cells #[.slice none 0 0] 111)) g w.heap.size bytes w'):
 Calls prog 27 #[.pointer (some ⟨g,0,none⟩)] w (ZZOut w g bytes):=by
 have h0:=hH h
 have g93:(w.alloc (.cells #[.slice none 0 0] 111)).cell? ⟨g,93,none⟩=some (.int .u8 11):=(Keeps.alloc w _).some_ h93 (by simp)
 exact zC0
theorem zz12_c (w:World) (g:Nat) (bytes:List UInt8) (h93:w.cell? ⟨g,93,none⟩=some (.int .u8 12))
 (h:Calls prog 56 #[.pointer (some ⟨g,0,none⟩),.pointer (some ⟨w.heap.size,0,none⟩)] (w.alloc (.cells #[.slice none 0 0] 111)) fun e w'=>e=.returned .nilIface∧EncTo (w.alloc (.cells #[.slice none 0 0] 111)) g w.heap.size bytes w'):
 Calls prog 27 #[.pointer (some ⟨g,0,none⟩)] w (ZZOut w g bytes):=by
 have h0:=hH h
 have g93:(w.alloc (.cells #[.slice none 0 0] 111)).cell? ⟨g,93,none⟩=some (.int .u8 12):=(Keeps.alloc w _).some_ h93 (by simp)
 exact zC0
theorem zz13_c (w:World) (g:Nat) (bytes:List UInt8) (h93:w.cell? ⟨g,93,none⟩=some (.int .u8 13))
 (h:Calls prog 57 #[.pointer (some ⟨g,0,none⟩),.pointer (some ⟨w.heap.size,0,none⟩)] (w.alloc (.cells #[.slice none 0 0] 111)) fun e w'=>e=.returned .nilIface∧EncTo (w.alloc (.cells #[.slice none 0 0] 111)) g w.heap.size bytes w'):
 Calls prog 27 #[.pointer (some ⟨g,0,none⟩)] w (ZZOut w g bytes):=by
 have h0:=hH h
 have g93:(w.alloc (.cells #[.slice none 0 0] 111)).cell? ⟨g,93,none⟩=some (.int .u8 13):=(Keeps.alloc w _).some_ h93 (by simp)
 exact zC0
theorem zz14_c (w:World) (g:Nat) (bytes:List UInt8) (h93:w.cell? ⟨g,93,none⟩=some (.int .u8 14))
 (h:Calls prog 58 #[.pointer (some ⟨g,0,none⟩),.pointer (some ⟨w.heap.size,0,none⟩)] (w.alloc (.cells #[.slice none 0 0] 111)) fun e w'=>e=.returned .nilIface∧EncTo (w.alloc (.cells #[.slice none 0 0] 111)) g w.heap.size bytes w'):
 Calls prog 27 #[.pointer (some ⟨g,0,none⟩)] w (ZZOut w g bytes):=by
 have h0:=hH h
 have g93:(w.alloc (.cells #[.slice none 0 0] 111)).cell? ⟨g,93,none⟩=some (.int .u8 14):=(Keeps.alloc w _).some_ h93 (by simp)
 exact zC0
theorem zz15_c (w:World) (g:Nat) (bytes:List UInt8) (h93:w.cell? ⟨g,93,none⟩=some (.int .u8 15))
 (h:Calls prog 59 #[.pointer (some ⟨g,0,none⟩),.pointer (some ⟨w.heap.size,0,none⟩)] (w.alloc (.cells #[.slice none 0 0] 111)) fun e w'=>e=.returned .nilIface∧EncTo (w.alloc (.cells #[.slice none 0 0] 111)) g w.heap.size bytes w'):
 Calls prog 27 #[.pointer (some ⟨g,0,none⟩)] w (ZZOut w g bytes):=by
 have h0:=hH h
 have g93:(w.alloc (.cells #[.slice none 0 0] 111)).cell? ⟨g,93,none⟩=some (.int .u8 15):=(Keeps.alloc w _).some_ h93 (by simp)
 exact zC0
end Go.Proofs.YtkglmacaecmhdaaGreatDoor
