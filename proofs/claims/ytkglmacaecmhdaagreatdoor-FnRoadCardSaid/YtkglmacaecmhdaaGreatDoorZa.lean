/-
  A packet that is written (impl.Encode) and read again (impl.Decode) is the same: the statement FnRoad, by its tied card. It holds of every input that the statement's own guards let in; no condition of ours.
-/
/- FnRoad, part Za: the walks of L8, N1, N2, O0, O1, O2, N3, N4. -/
import Derived.Test.YtkglmacaecmhdaaGreatDoorRows
import Derived.Lib.LaidU8T
import Derived.MakeChecks
import Derived.Deep.Slices
import Derived.ChangeArms
import Derived.ProofKit
import Derived.Lay
import Derived.LaidOnce
import Derived.ReadAgain
import Derived.ChangeBook
import Derived.Deep.Frames
import Derived.Deep.Onto
import Derived.Test.YtkglmacaecmhdaaGreatDoorCards
import Derived.Test.YtkglmacaecmhdaaGreatDoorTie
import Derived.SevenTiedAt
import Derived.Test.YtkglmacaecmhdaaGreatDoorOa
import Derived.Test.YtkglmacaecmhdaaGreatDoorP
import Derived.Test.YtkglmacaecmhdaaGreatDoorQ
import Derived.Test.YtkglmacaecmhdaaGreatDoorQa
import Derived.Test.YtkglmacaecmhdaaGreatDoorR
import Derived.Test.YtkglmacaecmhdaaGreatDoorRa
import Derived.Test.YtkglmacaecmhdaaGreatDoorT
import Derived.Test.YtkglmacaecmhdaaGreatDoorZ
set_option linter.unusedVariables false
set_option linter.unusedSimpArgs false
set_option maxHeartbeats 16000000
set_option maxRecDepth 100000
namespace Go.Proofs.YtkglmacaecmhdaaGreatDoor
open Go Go.RowKit Go.Proofs.Tryz
theorem properPk_c (N:Nat→Prop) (w:World) (p:PkV) (v:Nat→Value) (hm:PkMem N w p v) (hl:PkLim p):
 Calls prog 6 #[.agg (p.sells v)] w (Yes w (PkOK p)):=by
 have h:((p.kind=1)∨(p.kind=2)∨(p.kind=3)∨(p.kind=12∨p.kind=13)∨¬(1≤p.kind∧p.kind≤15))∨((p.kind=4∨p.kind=5∨p.kind=6∨p.kind=7)∨(p.kind=14∨p.kind=15))∨(p.kind=8)∨(p.kind=10)∨(p.kind=9)∨(p.kind=11):=by omega
 rcases h with h|h|h|h|h|h
 ·exact Ka.at_ N w p v hm hl (hH h)
 ·exact Kb.at_ N w p v hm hl (hH h)
 ·exact Kc.at_ N w p v hm hl (hH h)
 ·exact Kc.at2 N w p v hm hl (hH h)
 ·exact Kd.at_ N w p v hm hl (hH h)
 ·exact Kd.at2 N w p v hm hl (hH h)
theorem load29 {S:World→Prop} {d:Tmp} {ty:TypeId} {pos:String} {af:Array Edge} {gd:Option (Nat×Bool)} {a:Act} {g:Nat} {cs:Array Value} {x:Operand} {ds:TypeDesc} (hx:a.eval x=.pointer (some ⟨g,0,none⟩))
 (hS:∀w,S w→w.rangeAt g 0 cs.toList) (hd:ds.isRow=true) (hu:prog.underlying 29=some ds) (hi:(prog.info? 29).map (·.size)=some cs.size):∀w,S w→(execOp a.eval ⟨some d,.load 29 x,ty,pos,af,gd⟩).run prog w=.ok (.value (.agg cs)) w:=fun w hw=>by
 have h:=run_loadVar_mid (P:=prog) w g 0 29 cs.toList ds (hS w hw) hu hd (by simpa using hi)
 rw[Array.toArray_toList] at h
 unfold execOp
 simp only[hx,Instr.loadAt,Instr.sureAddr,Sem.run_bind,Sem.run_pure,Result.andThen_ok,h]
theorem wpList_load_rw {ops:Array Oper} {rest:List Oper} {o:Oper} {a:Act} {w:World} {Q:Exit→Act→World→Prop} (hwt:Region.wanted o (yielded ops a.tmps)=true) (x:Operand) (ho:o.op=.load 29 x)
 (g:Nat) (hx:a.eval x=.pointer (some ⟨g,0,none⟩)) (t:TypeId) (cs:Array Value) (hg:Blk w g t cs) (hi:(prog.info? 29).map (·.size)=some cs.size)
 (h:wpList prog ops Q rest (a.put o.dst (.agg cs)) w):wpList prog ops Q (o::rest) a w:=
 wpList_step fun K hK=>by rw[if_pos hwt];exact wp_load_row 29 x ho g hx t cs (0,0) _ hg underlying29 rfl hi (hK _ _ h)
theorem blk_range {w:World} {g:Nat} {t:TypeId} {cs:Array Value} (h:Blk w g t cs):w.rangeAt g 0 cs.toList:=fun j u hu=>by
 rw[Nat.zero_add,h.cell];simpa using hu
theorem zZa0 {p:Prop} (h:p:=by
 simp only[List.all_toArray,List.all_cons,List.all_nil,hs.1,hs.2.1,hs.2.2.1,hs.2.2.2.1,hs.2.2.2.2.1,hs.2.2.2.2.2.1,hs.2.2.2.2.2.2];rfl
 ):p:=h
theorem cells_one {N:Nat→Prop} {w:World} {p:PkV} {v:Nat→Value} (hm:PkMem N w p v):(p.cells v).all (·.oneCell')=true:=by
 have hs:=hm.sl
 rw[PkV.cells]
 exact zZa0
theorem sells_one {N:Nat→Prop} {w:World} {p:PkV} {v:Nat→Value} (hm:PkMem N w p v):(p.sells v).all (·.oneCell')=true:=by
 have hs:=hm.sl
 rw[PkV.sells]
 exact zZa0
theorem fnRoad_c (w:World) (p:PkV) (v:Nat→Value) (hm:PkMem AllB w p v) (hn:∀x∈p.props,x.n<4294967296) (hw:∀u∈p.will,∀x∈u.props,x.n<4294967296) (hT:Lib.Utf8Tabs 28 29 w) (h21:w.cell? ⟨21,1,none⟩=some (.int .u8 128)) (h29:29<w.heap.size):
 Calls prog 3 #[.agg (p.cells v)] w fun e w'=>e=.returned (.bool true)∧Keeps [] w w':=by
 obtain⟨W,hW⟩:∃W,w.alloc (.cells (p.cells v) 29)=W:=⟨_,rfl⟩
 have HP:Hd (Blk W w.heap.size 29 (p.cells v)):=by rw[←hW];exact Blk.new _ _ _
 have HKW:Hd (Keeps [] w W):=by rw[←hW];exact Keeps.alloc _ _
 have HW:=hH hW
 have FI:=hH (fits_c AllB W p v (hm.keep HKW.o (by simp)))
 have HM:=hH hm
 have HN:=hH hn
 have HWN:=hH hw
 have HT:=hH hT
 have H21:=hH h21
 have H29:=hH h29
 have HV:Hd (∀w':World,Keeps [] W w'→w'.cell? ⟨w.heap.size,1,none⟩=some (.int .i64 p.version)):=fun w' k=>by rw[(HP.o.keep k (by simp)).cell];rfl
 have hi29:(prog.info? 29).map (·.size)=some (p.cells v).size:=by show _=some 21;kernel_rfl
 have HI29:=hH hi29
 clear hW hm hn hw hT h21 h29 hi29
 obtain⟨cs0,hcs0⟩:∃cs0,p.cells v=cs0:=⟨_,rfl⟩
 rw[hcs0] at HP HW FI HI29
 rw[hcs0]
 have HCS:=hH hcs0
 clear hcs0
 go_enter func3,ntmps3
 go_upto_region 1 with fail
 rw[HW.o]
 clear HW
 go_wp2_with (refine wpList_load_row rfl 29 (.tmp 1) rfl w.heap.size rfl 29 cs0 (0,0) _ HP.o underlying29 rfl HI29.o ?_)
 go_fit (FI.o)
 rintro e w1 ⟨b,rfl,hb,hk1⟩
 cases b
 ·clear hb
  have HK1:=hH hk1
  clear hk1
  go_wp2_with fail
  go_ret
  exact⟨rfl,HKW.o.trans HK1.o (by simp)⟩
 have hf:=hb rfl
 clear hb
 have PK:=hH (packet_c AllB w1 p v (HM.o.keep (HKW.o.trans hk1 (by simp)) (by simp)) hf)
 rw[HCS.o] at PK
 have HP1:=hH (HP.o.keep hk1 (by simp))
 have HK1:=hH hk1
 have HF:=hH hf
 clear hk1 hf FI
 go_wp2_with (refine wpList_load_row rfl 29 (.tmp 1) rfl w.heap.size rfl 29 cs0 (0,0) _ HP1.o underlying29 rfl HI29.o ?_)
 go_fit (PK.o)
 rintro e w2 ⟨v2,rfl,hm2,hk2⟩
 obtain⟨tg,htg⟩:∃tg,p.sells v2=tg:=⟨_,rfl⟩
 have hts:tg.size=19:=by rw[←htg];rfl
 have h1:=sells_one hm2
 rw[htg] at h1
 rw[htg]
 have hi35:(prog.info? 35).map (·.size)=some tg.size:=by rw[hts];kernel_rfl
 have HM2:=hH hm2
 have HK2:=hH hk2
 have HTG:=hH htg
 have HTS:=hH hts
 have H1:=hH h1
 have HI35:=hH hi35
 clear hm2 hk2 htg hts h1 hi35 PK
 go_upto_region 4 with(refine wpList_store_row rfl 35 (.tmp 3) (.tmp 13) rfl w2.heap.size tg rfl rfl 35 (zero35 0 0 (.slice none 0 0)) (Blk.new w2 35 (zero35 0 0 (.slice none 0 0))) HI35.o HTS.o.symm H1.o ?_)
 try simp only[Act.put]
 have hk3:Keeps [] w2 ((w2.alloc (.cells #[.int .i64 0,.int .i64 0,.bool false,.bool false,.int .i64 0,.int .i64 0,.string ⟨#[]⟩,.slice none 0 0,.string ⟨#[]⟩,.bool false,.int .i64 0,.slice none 0 0,.slice none 0 0,.slice none 0 0,.bool false,.int .i64 0,.slice none 0 0,.slice none 0 0,.slice none 0 0] 35)).setRow w2.heap.size tg):=(Keeps.alloc w2 (.cells (zero35 0 0 (.slice none 0 0)) 35)).trans (keeps_setRow _ w2.heap.size tg) (by simp)
 have hb3:Blk ((w2.alloc (.cells #[.int .i64 0,.int .i64 0,.bool false,.bool false,.int .i64 0,.int .i64 0,.string ⟨#[]⟩,.slice none 0 0,.string ⟨#[]⟩,.bool false,.int .i64 0,.slice none 0 0,.slice none 0 0,.slice none 0 0,.bool false,.int .i64 0,.slice none 0 0,.slice none 0 0,.slice none 0 0] 35)).setRow w2.heap.size tg) w2.heap.size 35 tg:=blk_setRow (Blk.new w2 35 (zero35 0 0 (.slice none 0 0))) tg
 generalize (w2.alloc (.cells #[.int .i64 0,.int .i64 0,.bool false,.bool false,.int .i64 0,.int .i64 0,.string ⟨#[]⟩,.slice none 0 0,.string ⟨#[]⟩,.bool false,.int .i64 0,.slice none 0 0,.slice none 0 0,.slice none 0 0,.bool false,.int .i64 0,.slice none 0 0,.slice none 0 0,.slice none 0 0] 35)).setRow w2.heap.size tg=W3 at*
 have hk13:=(HK1.o.trans HK2.o (by simp)).trans hk3 (by simp)
 have HK3:=hH hk13
 have HX:=hH hb3
 have HM3:=hH (HM2.o.keep hk3 (by simp))
 clear hk3 hb3 hk13 HM2 HK1 HK2 HP1
 generalize w2.heap.size=x3 at*
 have PP:=hH (properPk_c AllB W3 p v2 HM3.o (HF.o.lim HN.o HWN.o))
 rw[HTG.o] at PP
 have HP3:=hH (HP.o.keep HK3.o (by simp))
 go_wp2_with (first|refine wpList_load_rw (by rfl) (.tmp 1) rfl w.heap.size rfl 29 cs0 HP3.o HI29.o ?_|refine wpList_load_row rfl 35 (.tmp 3) rfl x3 rfl 35 tg (0,0) _ HX.o underlying35 rfl HI35.o ?_)
 go_fit (PP.o)
 rintro e w4 ⟨b,rfl,hb,hk4⟩
 have HK4:=hH (HK3.o.trans hk4 (by simp))
 have HP4:=hH (HP.o.keep HK4.o (by simp))
 have HX4:=hH (HX.o.keep hk4 (by simp))
 have HM4:=hH (HM3.o.keep hk4 (by simp))
 clear hk4 PP HP3
 cases b
 ·clear hb
  go_wp2_with fail
  go_fit (works_c w4)
  rintro e w5 ⟨rfl,hk5⟩
  have HK5:=hH hk5
  clear hk5
  go_wp2_with fail
  go_ret
  exact⟨rfl,HKW.o.trans (HK4.o.trans HK5.o (by simp)) (by simp)⟩
 have HOK:=hH (hb rfl)
 clear hb
 have TO:=hH (told_c w4 p v)
 rw[HCS.o] at TO
 go_wp2_with (first|refine wpList_load_rw (by rfl) (.tmp 1) rfl w.heap.size rfl 29 cs0 HP4.o HI29.o ?_|refine wpList_load_row rfl 35 (.tmp 3) rfl x3 rfl 35 tg (0,0) _ HX4.o underlying35 rfl HI35.o ?_)
 go_fit (TO.o)
 rintro e w5 ⟨b,rfl,hb,hk5⟩
 have HK5:=hH (HK4.o.trans hk5 (by simp))
 have HP5:=hH (HP.o.keep HK5.o (by simp))
 have HX5:=hH (HX4.o.keep hk5 (by simp))
 have HM5:=hH (HM4.o.keep hk5 (by simp))
 clear hk5 TO
 cases b
 ·clear hb
  go_wp2_with fail
  go_fit (works_c w5)
  rintro e w6 ⟨rfl,hk6⟩
  have HK6:=hH hk6
  clear hk6
  go_wp2_with fail
  go_ret
  exact⟨rfl,HKW.o.trans (HK5.o.trans HK6.o (by simp)) (by simp)⟩
 have HTO:=hH (hb rfl)
 clear hb
 have HMP:=hH (HM.o.keep (HKW.o.trans HK5.o (by simp)) (by simp))
 have NM:=hH (named_c AllB w5 p v HMP.o)
 rw[HCS.o] at NM
 go_wp2_with (first|refine wpList_load_rw (by rfl) (.tmp 1) rfl w.heap.size rfl 29 cs0 HP5.o HI29.o ?_|refine wpList_load_row rfl 35 (.tmp 3) rfl x3 rfl 35 tg (0,0) _ HX5.o underlying35 rfl HI35.o ?_)
 go_fit (NM.o)
 rintro e w6 ⟨rfl,hk6⟩
 have HK6:=hH (HK5.o.trans hk6 (by simp))
 have HP6:=hH (HP.o.keep HK6.o (by simp))
 have HX6:=hH (HX5.o.keep hk6 (by simp))
 have HM6:=hH (HM5.o.keep hk6 (by simp))
 obtain⟨t,q,dup,ret,body,hhd,hbl,hER,hRD⟩:=road_all HOK.o HTO.o
 have hvl:=vlen_le body.length (by omega)
 obtain⟨n,hnn⟩:∃n,(whole t q dup ret body).length=n:=⟨_,rfl⟩
 have hn1:1+((vlen body.length).length+body.length)=n:=by rw[←hnn];simp[whole];omega
 have EN:=hH (encode_c w6 (namedP p) v (whole t q dup ret body) (mem_named (HMP.o.keep hk6 (by simp))) (nums_named HOK.o HTO.o) (by omega) (fun w0 w1 bp G v F k g=>hER w0 w1 bp G v F (((HKW.o.trans HK6.o (by simp)).trans k (by simp)).some_ H21.o (by simp)) g))
 have HHD:=hH hhd
 have HRD:=hH hRD
 have HN1:=hH hn1
 have HNN:=hH hnn
 clear hk6 hhd hER hRD hn1 NM hvl
 go_wp2_with fail
 go_fit (EN.o)
 rintro e w7 ⟨A,c,rfl,hr,hc,ha,hk7⟩
 rw[HNN.o] at hc
 have h0:0<(whole t q dup ret body).length:=by rw[HNN.o];have:=HN1.o;omega
 obtain⟨db,ob,rfl,_⟩:=hr.2 h0
 have hdb:=(ha _ rfl).2
 have HK7:=hH (HK6.o.trans hk7 (by simp))
 have HX7:=hH (HX6.o.keep hk7 (by simp))
 have HM7:=hH (HM6.o.keep hk7 (by simp))
 have x1:=HV.o w7 HK7.o
 have DE:=hH (decode_c w7 db ob c n t q dup ret p.version body (namedP p) HHD.o (by have:=HOK.o.ver;omega) (pl_named HOK.o HTO.o) (rd_rb hr) HN1.o hc hdb (by omega) (tabs_keep HT.o (HKW.o.trans HK7.o (by simp)) (by simp) (by simp)) (Nat.lt_of_lt_of_le H29.o (HKW.o.trans HK7.o (by simp)).size) (fun w1 g h1 h2=>HRD.o w1 g h1 h2))
 rw[HNN.o]
 clear hr hc ha hk7 h0 hdb EN hbl HP6
 go_wp2_with fail
 go_fit (DE.o)
 rintro e w8 ⟨v3,rfl,hm8,hk8⟩
 obtain⟨tq,htq⟩:∃tq,(namedP p).cells v3=tq:=⟨_,rfl⟩
 have hqs:tq.size=21:=by rw[←htq];rfl
 have h1q:=cells_one hm8
 rw[htq] at h1q
 rw[htq]
 have hiq:(prog.info? 29).map (·.size)=some tq.size:=by rw[hqs];kernel_rfl
 have HM8:=hH hm8
 have HK8:=hH (HK7.o.trans hk8 (by simp))
 have HX8:=hH (HX7.o.keep hk8 (by simp))
 have HMx:=hH (HM7.o.keep hk8 (by simp))
 have HTQ:=hH htq
 have HQS:=hH hqs
 have H1Q:=hH h1q
 have HIQ:=hH hiq
 clear hm8 hk8 htq hqs h1q hiq x1 DE
 go_upto_region 8 with(refine wpList_store_row rfl 29 (.tmp 6) (.tmp 34) rfl w8.heap.size tq rfl rfl 29 z29 (Blk.new w8 29 z29) HIQ.o HQS.o.symm H1Q.o ?_)
 try simp only[Act.put]
 have hk9:Keeps [] w8 ((w8.alloc (.cells #[.int .i64 0,.int .i64 0,.bool false,.bool false,.int .i64 0,.int .i64 0,.string ⟨#[]⟩,.slice none 0 0,.string ⟨#[]⟩,.int .i64 0,.string ⟨#[]⟩,.bool false,.int .i64 0,.slice none 0 0,.slice none 0 0,.slice none 0 0,.bool false,.int .i64 0,.slice none 0 0,.slice none 0 0,.slice none 0 0] 29)).setRow w8.heap.size tq):=(Keeps.alloc w8 (.cells z29 29)).trans (keeps_setRow _ w8.heap.size tq) (by simp)
 have hb9:Blk ((w8.alloc (.cells #[.int .i64 0,.int .i64 0,.bool false,.bool false,.int .i64 0,.int .i64 0,.string ⟨#[]⟩,.slice none 0 0,.string ⟨#[]⟩,.int .i64 0,.string ⟨#[]⟩,.bool false,.int .i64 0,.slice none 0 0,.slice none 0 0,.slice none 0 0,.bool false,.int .i64 0,.slice none 0 0,.slice none 0 0,.slice none 0 0] 29)).setRow w8.heap.size tq) w8.heap.size 29 tq:=blk_setRow (Blk.new w8 29 z29) tq
 generalize (w8.alloc (.cells #[.int .i64 0,.int .i64 0,.bool false,.bool false,.int .i64 0,.int .i64 0,.string ⟨#[]⟩,.slice none 0 0,.string ⟨#[]⟩,.int .i64 0,.string ⟨#[]⟩,.bool false,.int .i64 0,.slice none 0 0,.slice none 0 0,.slice none 0 0,.bool false,.int .i64 0,.slice none 0 0,.slice none 0 0,.slice none 0 0] 29)).setRow w8.heap.size tq=W9 at*
 have HK9:=hH (HK8.o.trans hk9 (by simp))
 have HQ9:=hH hb9
 have HX9:=hH (HX8.o.keep hk9 (by simp))
 have HM9:=hH (HM8.o.keep hk9 (by simp))
 have HMy:=hH (HMx.o.keep hk9 (by simp))
 clear hk9 hb9
 generalize w8.heap.size=x6 at*
 have hS:∀w',Keeps [] W9 w'→(w'.rangeAt x6 0 tq.toList∧w'.rangeAt x3 0 tg.toList):=fun w' k=>⟨blk_range (HQ9.o.keep k (by simp)),blk_range (HX9.o.keep k (by simp))⟩
 refine tkSt hS (Keeps.drew W9) (by kernel_rfl) fun hHeld=>?_
 simp only[s4,s5,Nat.reduceAdd,s6,s7]
 repeat((first|refine tkx ?_|refine tku ?_);simp only[setN,Act.put,s1,s2,s3])
 skip
 refine wpAnyH_take (i:=9) (oi:=⟨(some 46),_,_,_,_,_⟩) (v:=.agg tq) rfl (by kernel_rfl) (by kernel_rfl) (by kernel_rfl) (fun _ _ _ h=>h) (Or.inl ⟨by rfl,load29 rfl (fun w' h=>h.1) rfl underlying29 HIQ.o⟩) (by assumption) ?_
 simp only[setN,Act.put,s1,s2,s3]
 refine wpAnyH_take (i:=11) (oi:=⟨(some 48),_,_,_,_,_⟩) (v:=.agg tg) rfl (by kernel_rfl) (by kernel_rfl) (by kernel_rfl) (fun _ _ _ h=>h) (Or.inl ⟨by rfl,load35 rfl (fun w' h=>h.2) rfl underlying35 HI35.o⟩) (by assumption) ?_
 simp only[setN,Act.put,s1,s2,s3]
 have PK2:=hH (fun (w':World) (k:Keeps [] W9 w')=>packet_c AllB w' (namedP p) v3 (HM9.o.keep k (by simp)) (fits_named HF.o))
 skip
 refine tkc fun K hK=>?_
 go_simp
 rw[←HTQ.o]
 refine(PK2.o _ (Keeps.drew W9)).mono ?_
 rintro e w10 ⟨v4,rfl,hm10,hk10⟩
 have hka:=(Keeps.drew W9).trans hk10 (by simp)
 clear hHeld
 refine hK.out _ _ (hS _ hka) (fun hHeld=>?_)
 clear hK K
 simp only[setN,Act.put,s1,s2,s3]
 repeat((first|refine tkx ?_|refine tku ?_);simp only[setN,Act.put,s1,s2,s3])
 have hsm:=same_is AllB w10 (namedP p) p v4 v2 hm10 (HMy.o.keep hka (by simp)) (lens_named (HF.o.lim HN.o HWN.o).lens) (HF.o.lim HN.o HWN.o).lens true ⟨fun _=>same_named p,fun _=>rfl⟩
 rw[HTG.o] at hsm
 refine tkc fun K hK=>?_
 go_simp
 refine hsm.mono ?_
 rintro e w11 ⟨rfl,hk11⟩
 have hkb:=hka.trans hk11 (by simp)
 clear hHeld hsm
 refine hK.out _ _ (hS _ hkb) (fun hHeld=>?_)
 clear hK K
 simp only[setN,Act.put,s1,s2,s3]
 repeat((first|refine tkx ?_|refine tku ?_);simp only[setN,Act.put,s1,s2,s3])
 refine tkc fun K hK=>?_
 go_simp
 refine(works_c w11).mono ?_
 rintro e w12 ⟨rfl,hk12⟩
 have hkc:=hkb.trans hk12 (by simp)
 clear hHeld
 refine hK.out _ _ (hS _ hkc) (fun hHeld=>?_)
 clear hK K
 simp only[setN,Act.put,s1,s2,s3]
 repeat((first|refine tkx ?_|refine tku ?_);simp only[setN,Act.put,s1,s2,s3])
 refine tkDone (by kernel_rfl) ?_
 have HFIN:=hH (HKW.o.trans (HK9.o.trans hkc (by simp)) (by simp))
 clear hHeld hka hkb hkc hm10 hk10 hk11 hk12
 go_wp2_with fail
 go_ret
 exact⟨rfl,HFIN.o⟩
end Go.Proofs.YtkglmacaecmhdaaGreatDoor
namespace Go.Proofs.YtkglmacaecmhdaaGreatDoor
open Go Go.RowKit Go.Shelf Go.Lib Go.Proofs.Tryz
def ren0:Ren:=⟨fun x=>x,fun x=>if x=119 then 166 else if x=138 then 168 else if x=139 then 169 else x,fun x=>if x=3 then 28 else if x=4 then 29 else x⟩
theorem u8t:U8Types prog ren0:=⟨by kernel_rfl,by kernel_rfl,by kernel_rfl,by kernel_rfl⟩
theorem u8x:U8Extra prog ren0:=⟨by kernel_rfl,by kernel_rfl,by kernel_rfl,by kernel_rfl,by kernel_rfl,by kernel_rfl,by kernel_rfl⟩
theorem first_eq:Rows.laid_unicode_utf8_first=firstData:=by kernel_rfl
theorem accept_eq:(Rows.laid_unicode_utf8_acceptRanges:DataW Unit)=acceptData:=by kernel_rfl
theorem code_cell {W:World} (h:VarReads prog W "mochimqtt/pub/mochipackets.ErrUnspecifiedError" Rows.laid_mochimqtt_pub_mochipackets_ErrUnspecifiedError):W.cell? ⟨21,1,none⟩=some (.int .u8 128):=by
 obtain⟨g,t,cs,fuel,p,hg,hty,hvar,hd⟩:=h
 obtain rfl:=Option.some.inj ((show prog.globalNamed "mochimqtt/pub/mochipackets.ErrUnspecifiedError" =some 21 by kernel_rfl).symm.trans hg)
 obtain rfl:=Option.some.inj ((show(prog.globals[21]?).map (·.type)=some 117 by kernel_rfl).symm.trans hty)
 obtain⟨xs,n,_,hx,hl,hlen,hf⟩:=DataW.trod_struct underlying117 hd
 have h1:=hf 1 _ rfl
 have hi:1<xs.length:=by rw[hlen];decide
 rw[List.getElem?_eq_getElem hi] at h1
 obtain⟨k,h2,h3,_⟩:=DataW.trod_int underlying5 h1
 have hxs:xs.map (·.1)=[.lit (.string [117,110,115,112,101,99,105,102,105,101,100,32,101,114,114,111,114]),.lit (.int .u8 128)]:=by
  have:=congrArg Prod.fst hx
  simpa [Rows.laid_mochimqtt_pub_mochipackets_ErrUnspecifiedError] using this.symm
 have h4:(xs.map (·.1))[1]?=some (DataW.lit (.int .u8 k)):=by rw[List.getElem?_map,List.getElem?_eq_getElem hi,h3];rfl
 rw[hxs] at h4
 have hk:k=128:=by simpa using h4.symm
 subst hk
 have e1:=congrArg (·[0]?) h2
 simp only[List.getElem?_take,List.getElem?_drop] at e1
 rw[World.var?_cell hg hvar 1,←Array.getElem?_toList]
 have e2:0<prog.cellsOf 5∧cs[1]?=some (Value.int IntKind.u8 128):=by simpa using e1
 simpa using e2.2
theorem of_laid {W:World} (h:laidMetH prog Rows.fnRoadRow.laid W):Lib.Utf8Tabs 28 29 W∧W.cell? ⟨21,1,none⟩=some (.int .u8 128)∧29<W.heap.size:=by
 rw[MakeChecks.laidMetH_plain _ _ _ (by kernel_rfl)] at h
 have hT:Lib.Utf8Tabs 28 29 W:=utf8Tabs_of_readsT u8t u8x (first_eq▸laidMet.reads h (by simp[Rows.fnRoadRow])) (accept_eq▸laidMet.reads h (by simp[Rows.fnRoadRow]))
 refine⟨hT,code_cell (laidMet.reads h (by simp[Rows.fnRoadRow])),?_⟩
 exact World.block_lt_of_cell? W _ (hT.2 0 (by decide)).1
end Go.Proofs.YtkglmacaecmhdaaGreatDoor
namespace Go.Proofs.YtkglmacaecmhdaaGreatDoor
open Go Go.RowKit Go.Deep Go.Proofs.Tryz
theorem flatr (R:Nat→List Value) (size:Nat) (h0:0<size):∀n,(∀i,i<n→(R i).length=size)→((List.range n).flatMap R).length=n*size∧∀j,j<n*size→((List.range n).flatMap R)[j]?=(R (j / size))[j % size]?
 |0,_=>⟨by simp,fun j hj=>by simp at hj⟩
 |n+1,hR=>by
  obtain⟨h1,h2⟩:=flatr R size h0 n (fun i hi=>hR i (by omega))
  have hn:=hR n (by omega)
  have e:(List.range (n+1)).flatMap R=(List.range n).flatMap R++R n:=by rw[List.range_succ,List.flatMap_append];simp
  rw[e]
  refine⟨by rw[List.length_append,h1,hn,Nat.succ_mul],fun j hj=>?_⟩
  rcases Nat.lt_or_ge j (n*size) with hl|hl
  ·rw[List.getElem?_append_left (by rw[h1];exact hl)];exact h2 j hl
  ·rw[List.getElem?_append_right (by rw[h1];exact hl),h1]
   have hlt:j-n*size<size:=by rw[Nat.succ_mul] at hj;omega
   have hd:j=size*n+(j-n*size):=by rw[Nat.mul_comm size n];omega
   have e1:j / size=n:=by rw[hd,Nat.mul_add_div h0,Nat.div_eq_of_lt hlt];rfl
   have e2:j % size=j-n*size:=by conv=>lhs;rw[hd,Nat.mul_add_mod,Nat.mod_eq_of_lt hlt]
   rw[e1,e2]
section
variable {H:Type} {enc:TypeId×Value→H} {w:World} {fuel:Nat}
theorem open_sl {t e:TypeId} {size:Nat} {x:DataW H×List MemPlace} {cs:List Value} (ht:prog.underlying t=some (.slice e)) (hc:prog.cellsOf e=size) (h0:0<size) (h:DataW.trod enc prog w 0 (fun _=>true) true fuel t cs=some x):
 ∃(A:Option Addr) (n c:Nat) (R:Nat→List Value),cs=[.slice A n c]∧n≤c∧n≤maxLen∧Rd w size A n ((List.range n).flatMap R)∧∀i,i<n→(R i).length=size∧∃m y,DataW.trod enc prog w 0 (fun _=>true) true m e (R i)=some y:=by
 rcases open_slice ht h with⟨rfl,_⟩|⟨a,len,cap,m,n',D,Pl,rfl,hb,hl,hm,hmm,rfl,hx⟩
 ·exact⟨none,0,0,fun _=>[],rfl,Nat.le_refl _,Nat.zero_le _,Rd.none_ _ _,fun i hi=>by omega⟩
 rw[if_pos rfl] at hmm
 subst hmm
 rw[hc] at hx
 obtain⟨R,hR⟩:=choose_lt (α:=List Value) (p:=fun i v=>w.cells? 0 (a.add (i*size)) size=some v∧DataW.trod enc prog w 0 (fun _=>true) true n' e v=some (D i,Pl i)) (fun i hi=>hx i hi)
 have hlen:∀i,i<m→(R i).length=size:=fun i hi=>(World.cells?_some (hR i hi).1).2.1
 obtain⟨f1,f2⟩:=flatr R size h0 len (fun i hi=>hlen i (by omega))
 refine⟨some a,len,m,R,rfl,hl,by omega,⟨f1,fun hp=>?_⟩,fun i hi=>⟨hlen i (by omega),_,_,(hR i (by omega)).2⟩⟩
 have hcell:∀i j,i<m→j<size→w.cell? ((a.add (i*size)).add j)=(R i)[j]?:=fun i j hi hj=>(World.cells?_some (hR i hi).1).2.2 j hj
 obtain⟨b,o,sp⟩:=a
 have g0:=hcell 0 0 (by omega) h0
 rw[List.getElem?_eq_getElem (by rw[hlen 0 (by omega)];exact h0)] at g0
 have hsp:sp=none:=by simpa [Addr.add] using World.cell?_spot g0
 subst hsp
 refine⟨b,o,rfl,fun j u hu=>?_⟩
 have hj:j<len*size:=by rw[←f1];exact(List.getElem?_eq_some_iff.1 hu).1
 rw[f2 j hj] at hu
 have hj1:j / size<len:=by rw[Nat.div_lt_iff_lt_mul h0];exact hj
 have hj2:=Nat.mod_lt j h0
 have e3:o+j / size*size+j % size=o+j:=by have:=Nat.div_add_mod j size;rw[Nat.mul_comm] at this;omega
 have:=hcell (j / size) (j % size) (by omega) hj2
 rw[hu,add_lit,add_lit,e3] at this
 exact this
end
theorem rows_of {α:Type} [Inhabited α] (F:α→List Value) (Q:α→Prop) {R:Nat→List Value} {n:Nat} (h:∀i,i<n→∃a,R i=F a∧Q a):∃l:List α,l.length=n∧(List.range n).flatMap R=l.flatMap F∧(∀a∈l,Q a)∧∀(i:Nat) a,l[i]?=some a→R i=F a:=by
 obtain⟨f,hf⟩:=choose_lt (p:=fun i a=>R i=F a∧Q a) h
 refine⟨(List.range n).map f,by simp,?_,fun a ha=>?_,fun i a hi=>?_⟩
 ·rw[List.flatMap_map]
  have:∀m,m≤n→(List.range m).flatMap R=(List.range m).flatMap fun i=>F (f i):=by
   intro m
   induction m with
   |zero=>intro _;rfl
   |succ m ih=>intro hm;rw[List.range_succ,List.flatMap_append,List.flatMap_append,ih (by omega)];simp[(hf m (by omega)).1]
  exact this n (Nat.le_refl _)
 ·obtain⟨i,hi,rfl⟩:=List.mem_map.1 ha
  exact(hf i (List.mem_range.1 hi)).2
 ·rw[List.getElem?_map] at hi
  rcases Nat.lt_or_ge i n with h1|h1
  ·rw[List.getElem?_range h1] at hi;simp at hi;subst hi;exact(hf i h1).1
  ·rw[List.getElem?_eq_none (by simpa using h1)] at hi;simp at hi
theorem slAt_of {w:World} {A:Option Addr} {n c size:Nat} {xs:List Value} (h0:0<size) (hr:Rd w size A n xs) (hc:n≤c):SlAt AllB w (.slice A n c) size n xs:=by
 refine⟨A,c,rfl,hr,hc,fun a ha hn=>⟨?_,trivial⟩⟩
 obtain⟨b,o,e,hcl⟩:=hr.2 hn
 rw[e] at ha
 injection ha with ha
 subst ha
 exact World.block_lt_of_cell? w _ (hcl 0 _ (List.getElem?_eq_getElem (by rw[hr.1];exact Nat.mul_pos hn h0)))
section
variable {H:Type} {enc:TypeId×Value→H} {w:World} {fuel:Nat}
theorem fld1 {ts:TypeId} {fs:Array Field} {x:DataW H×List MemPlace} {cs:List Value} (ht:prog.underlying ts=some (.struct fs)) (h:DataW.trod enc prog w 0 (fun _=>true) true fuel ts cs=some x) (i:Nat) (f:Field) (hf:fs[i]?=some f) (hc:prog.cellsOf f.type=1) (c:Value) (hcs:cs[f.offset]?=some c):
 ∃m y,DataW.trod enc prog w 0 (fun _=>true) true m f.type [c]=some y:=by
 obtain⟨xs,n,_,_,hl,hlen,hfs⟩:=DataW.trod_struct ht h
 have h1:=hfs i f hf
 have hi:i<xs.length:=by rw[hlen];exact(Array.getElem?_eq_some_iff.1 hf).1
 rw[List.getElem?_eq_getElem hi,hc] at h1
 obtain⟨hlt,he⟩:=List.getElem?_eq_some_iff.1 hcs
 rw[List.drop_eq_getElem_cons hlt,he] at h1
 exact⟨n,_,by simpa using h1⟩
theorem four {α:Type} {l:List α} (h:l.length=4):∃a b c d,l=[a,b,c,d]:=by
 match l,h with
 |[a,b,c,d],_=>exact⟨a,b,c,d,rfl⟩
theorem five {α:Type} {l:List α} (h:l.length=5):∃a b c d e,l=[a,b,c,d,e]:=by
 match l,h with
 |[a,b,c,d,e],_=>exact⟨a,b,c,d,e,rfl⟩
theorem one_ {α:Type} {l:List α} (h:l.length=1):∃a,l=[a]:=by
 match l,h with
 |[a],_=>exact⟨a,rfl⟩
theorem open_i64 {x:DataW H×List MemPlace} {c:Value} (h:DataW.trod enc prog w 0 (fun _=>true) true fuel 3 [c]=some x):∃n,c=.int .i64 n:=by
 obtain⟨n,h1,_⟩:=DataW.trod_int underlying3 h
 exact⟨n,by simpa using h1⟩
theorem open_b {x:DataW H×List MemPlace} {c:Value} (h:DataW.trod enc prog w 0 (fun _=>true) true fuel 4 [c]=some x):∃n,c=.bool n:=by
 obtain⟨n,h1,_⟩:=DataW.trod_bool underlying4 h
 exact⟨n,by simpa using h1⟩
theorem open_s {x:DataW H×List MemPlace} {c:Value} (h:DataW.trod enc prog w 0 (fun _=>true) true fuel 9 [c]=some x):∃n,c=.string n:=by
 obtain⟨n,h1,_⟩:=DataW.trod_string underlying9 h
 exact⟨n,by simpa using h1⟩
instance:Inhabited PropV:=⟨⟨0,0,⟨#[]⟩,⟨#[]⟩⟩⟩
instance:Inhabited SubP:=⟨⟨⟨#[]⟩,0,false,false,0⟩⟩
theorem open_bytes {x:DataW H×List MemPlace} {c:Value} (h:DataW.trod enc prog w 0 (fun _=>true) true fuel 22 [c]=some x):∃ys,BytesAt AllB w c ys:=by
 obtain⟨A,n,cc,R,h1,hnc,hnm,hr,hR⟩:=open_sl underlying22 (show prog.cellsOf 5=1 by kernel_rfl) (by omega) h
 obtain⟨l,hl,hf,_,_⟩:=rows_of (fun u:UInt8=>[bv u]) (fun _=>True) (R:=R) (n:=n) (fun i hi=>by
  obtain⟨h2,m,y,h3⟩:=hR i hi
  obtain⟨u,hu⟩:=one_ h2
  rw[hu] at h3
  obtain⟨k,h4,_,hw⟩:=DataW.trod_int underlying5 h3
  have h4:u=.int .u8 k:=by simpa using h4
  refine⟨UInt8.ofNat k.toNat,?_,trivial⟩
  have hk:0≤k∧k≤255:=by simpa [Lit.wf,IntKind.min,IntKind.max,IntKind.signed,IntKind.bits] using hw
  rw[hu,h4]
  simp only[bv,UInt8.toNat_ofNat']
  congr 2
  omega)
 injection h1 with h1 _
 subst h1
 subst hl
 refine⟨l,?_⟩
 have e:bvs l=(List.range l.length).flatMap R:=by rw[hf];exact List.map_eq_flatMap
 unfold BytesAt
 rw[e]
 exact slAt_of (by omega) hr hnc
theorem open_props {x:DataW H×List MemPlace} {c:Value} (h:DataW.trod enc prog w 0 (fun _=>true) true fuel 27 [c]=some x):∃l,PropsAt AllB w c l∧∀x∈l,x.n<4294967296:=by
 obtain⟨A,n,cc,R,h1,hnc,hnm,hr,hR⟩:=open_sl underlying27 (show prog.cellsOf 98=4 by kernel_rfl) (by omega) h
 obtain⟨l,hl,hf,hq,_⟩:=rows_of PropV.cells (fun x=>x.n<4294967296) (R:=R) (n:=n) (fun i hi=>by
  obtain⟨h2,m,y,h3⟩:=hR i hi
  obtain⟨a,b,c,d,hu⟩:=four h2
  rw[hu] at h3
  obtain⟨m0,y0,g0⟩:=fld1 underlying98 h3 0 _ rfl (by kernel_rfl) a rfl
  obtain⟨m1,y1,g1⟩:=fld1 underlying98 h3 1 _ rfl (by kernel_rfl) b rfl
  obtain⟨m2,y2,g2⟩:=fld1 underlying98 h3 2 _ rfl (by kernel_rfl) c rfl
  obtain⟨m3,y3,g3⟩:=fld1 underlying98 h3 3 _ rfl (by kernel_rfl) d rfl
  obtain⟨k0,rfl⟩:=open_i64 g0
  obtain⟨k1,e1,_,hw⟩:=DataW.trod_int (k:=.u32) (by kernel_rfl) g1
  have e1:b=.int .u32 k1:=by simpa using e1
  obtain⟨k2,rfl⟩:=open_s g2
  obtain⟨k3,rfl⟩:=open_s g3
  have hk:0≤k1∧k1≤4294967295:=by simpa [Lit.wf,IntKind.min,IntKind.max,IntKind.signed,IntKind.bits] using hw
  refine⟨⟨k0,k1.toNat,k2,k3⟩,?_,by show k1.toNat<_;omega⟩
  rw[hu,e1]
  simp only[PropV.cells,Int.toNat_of_nonneg hk.1])
 injection h1 with h1 _
 subst h1
 subst hl
 refine⟨l,?_,hq⟩
 unfold PropsAt
 rw[←hf]
 exact slAt_of (by omega) hr hnc
end
section
variable {H:Type} {enc:TypeId×Value→H} {w:World} {fuel:Nat}
theorem open_ints_ {x:DataW H×List MemPlace} {c:Value} (h:DataW.trod enc prog w 0 (fun _=>true) true fuel 25 [c]=some x):∃l,NumsAt AllB w c l:=by
 obtain⟨A,n,cc,R,h1,hnc,hnm,hr,hR⟩:=open_sl underlying25 (show prog.cellsOf 3=1 by kernel_rfl) (by omega) h
 obtain⟨l,hl,hf,_,_⟩:=rows_of (fun u:Int=>[.int .i64 u]) (fun _=>True) (R:=R) (n:=n) (fun i hi=>by
  obtain⟨h2,m,y,h3⟩:=hR i hi
  obtain⟨u,hu⟩:=one_ h2
  rw[hu] at h3
  obtain⟨k,rfl⟩:=open_i64 h3
  exact⟨k,hu,trivial⟩)
 injection h1 with h1 _
 subst h1
 subst hl
 refine⟨l,?_⟩
 have e:nvs l=(List.range l.length).flatMap R:=by rw[hf];exact List.map_eq_flatMap
 unfold NumsAt
 rw[e]
 exact slAt_of (by omega) hr hnc
theorem open_subs {x:DataW H×List MemPlace} {c:Value} (h:DataW.trod enc prog w 0 (fun _=>true) true fuel 26 [c]=some x):∃l,SubsAt AllB w c l:=by
 obtain⟨A,n,cc,R,h1,hnc,hnm,hr,hR⟩:=open_sl underlying26 (show prog.cellsOf 55=5 by kernel_rfl) (by omega) h
 obtain⟨l,hl,hf,_,_⟩:=rows_of SubP.cells (fun _=>True) (R:=R) (n:=n) (fun i hi=>by
  obtain⟨h2,m,y,h3⟩:=hR i hi
  obtain⟨a,b,c,d,e,hu⟩:=five h2
  rw[hu] at h3
  obtain⟨m0,y0,g0⟩:=fld1 underlying55 h3 0 _ rfl (by kernel_rfl) a rfl
  obtain⟨m1,y1,g1⟩:=fld1 underlying55 h3 1 _ rfl (by kernel_rfl) b rfl
  obtain⟨m2,y2,g2⟩:=fld1 underlying55 h3 2 _ rfl (by kernel_rfl) c rfl
  obtain⟨m3,y3,g3⟩:=fld1 underlying55 h3 3 _ rfl (by kernel_rfl) d rfl
  obtain⟨m4,y4,g4⟩:=fld1 underlying55 h3 4 _ rfl (by kernel_rfl) e rfl
  obtain⟨k0,rfl⟩:=open_s g0
  obtain⟨k1,rfl⟩:=open_i64 g1
  obtain⟨k2,rfl⟩:=open_b g2
  obtain⟨k3,rfl⟩:=open_b g3
  obtain⟨k4,rfl⟩:=open_i64 g4
  exact⟨⟨k0,k1,k2,k3,k4⟩,hu,trivial⟩)
 injection h1 with h1 _
 subst h1
 subst hl
 refine⟨l,?_⟩
 unfold SubsAt
 rw[←hf]
 exact slAt_of (by omega) hr hnc
theorem open_bytess {x:DataW H×List MemPlace} {c:Value} (h:DataW.trod enc prog w 0 (fun _=>true) true fuel 24 [c]=some x):∃l,BytessAt AllB w c l:=by
 obtain⟨A,n,cc,R,h1,hnc,hnm,hr,hR⟩:=open_sl underlying24 (show prog.cellsOf 22=1 by kernel_rfl) (by omega) h
 obtain⟨f,hf⟩:=choose_lt (α:=List UInt8) (p:=fun i ys=>∃u,R i=[u]∧BytesAt AllB w u ys) (n:=n) (fun i hi=>by
  obtain⟨h2,m,y,h3⟩:=hR i hi
  obtain⟨u,hu⟩:=one_ h2
  rw[hu] at h3
  obtain⟨ys,hy⟩:=open_bytes h3
  exact⟨ys,u,hu,hy⟩)
 obtain⟨f1,f2⟩:=flatr R 1 (by omega) n (fun i hi=>(hR i hi).1)
 injection h1 with h1 _
 subst h1
 refine⟨(List.range n).map f,(List.range n).flatMap R,?_,fun i ys hi=>?_⟩
 ·rw[List.length_map,List.length_range];exact slAt_of (by omega) hr hnc
 ·rw[List.getElem?_map] at hi
  rcases Nat.lt_or_ge i n with h2|h2
  ·rw[List.getElem?_range h2] at hi
   simp at hi
   subst hi
   obtain⟨u,hu,hy⟩:=hf i h2
   refine⟨u,?_,hy⟩
   rw[f2 i (by omega),Nat.div_one,Nat.mod_one,hu]
   rfl
  ·rw[List.getElem?_eq_none (by simpa using h2)] at hi;simp at hi
instance:Inhabited WillV:=⟨⟨⟨#[]⟩,[],0,false,[]⟩⟩
theorem open_wills {x:DataW H×List MemPlace} {c:Value} (h:DataW.trod enc prog w 0 (fun _=>true) true fuel 23 [c]=some x):∃l,WillsAt AllB w c l∧∀u∈l,∀x∈u.props,x.n<4294967296:=by
 obtain⟨A,n,cc,R,h1,hnc,hnm,hr,hR⟩:=open_sl underlying23 (show prog.cellsOf 51=5 by kernel_rfl) (by omega) h
 obtain⟨f,hf⟩:=choose_lt (α:=WillV) (p:=fun i u=>WillAt AllB w (fun j=>(R i)[j]?) u∧∀x∈u.props,x.n<4294967296) (n:=n) (fun i hi=>by
  obtain⟨h2,m,y,h3⟩:=hR i hi
  obtain⟨a,b,c,d,e,hu⟩:=five h2
  rw[hu] at h3
  obtain⟨m0,y0,g0⟩:=fld1 underlying51 h3 0 _ rfl (by kernel_rfl) a rfl
  obtain⟨m1,y1,g1⟩:=fld1 underlying51 h3 1 _ rfl (by kernel_rfl) b rfl
  obtain⟨m2,y2,g2⟩:=fld1 underlying51 h3 2 _ rfl (by kernel_rfl) c rfl
  obtain⟨m3,y3,g3⟩:=fld1 underlying51 h3 3 _ rfl (by kernel_rfl) d rfl
  obtain⟨m4,y4,g4⟩:=fld1 underlying51 h3 4 _ rfl (by kernel_rfl) e rfl
  obtain⟨k0,rfl⟩:=open_s g0
  obtain⟨ys,hy⟩:=open_bytes g1
  obtain⟨k2,rfl⟩:=open_i64 g2
  obtain⟨k3,rfl⟩:=open_b g3
  obtain⟨l,hl,hq⟩:=open_props g4
  refine⟨⟨k0,ys,k2,k3,l⟩,?_,hq⟩
  rw[hu]
  exact⟨rfl,⟨b,rfl,hy⟩,rfl,rfl,e,rfl,hl⟩)
 obtain⟨f1,f2⟩:=flatr R 5 (by omega) n (fun i hi=>(hR i hi).1)
 injection h1 with h1 _
 subst h1
 refine⟨(List.range n).map f,⟨(List.range n).flatMap R,?_,fun i u hi=>?_⟩,fun u hu=>?_⟩
 ·rw[List.length_map,List.length_range];exact slAt_of (by omega) hr hnc
 ·rw[List.getElem?_map] at hi
  rcases Nat.lt_or_ge i n with h2|h2
  ·rw[List.getElem?_range h2] at hi
   simp at hi
   subst hi
   have g:∀j,j<5→((List.range n).flatMap R)[i*5+j]?=(R i)[j]?:=fun j hj=>by
    rw[f2 _ (by omega),show(i*5+j) / 5=i by omega,show(i*5+j) % 5=j by omega]
   obtain⟨w0,⟨v1,w1,w1'⟩,w2,w3,v4,w4,w4'⟩:=(hf i h2).1
   exact⟨(g 0 (by omega)).trans w0,⟨v1,(g 1 (by omega)).trans w1,w1'⟩,(g 2 (by omega)).trans w2,(g 3 (by omega)).trans w3,v4,(g 4 (by omega)).trans w4,w4'⟩
  ·rw[List.getElem?_eq_none (by simpa using h2)] at hi;simp at hi
 ·obtain⟨i,hi,rfl⟩:=List.mem_map.1 hu
  exact(hf i (List.mem_range.1 hi)).2
theorem open_packet {x:DataW H×List MemPlace} {cs:Array Value} (h:DataW.trod enc prog w 0 (fun _=>true) true fuel 29 cs.toList=some x):
 ∃(p:PkV) (v:Nat→Value),cs=p.cells v∧PkMem AllB w p v∧(∀x∈p.props,x.n<4294967296)∧∀u∈p.will,∀x∈u.props,x.n<4294967296:=by
 have hl:cs.size=21:=by
  obtain⟨xs,n,_,_,hl,_⟩:=DataW.trod_struct underlying29 h
  have:prog.cellsOf 29=21:=by kernel_rfl
  rw[this] at hl
  simpa using hl
 have at_:∀j (hj:j<21),cs.toList[j]?=some (cs[j]'(by omega)):=fun j hj=>by rw[Array.getElem?_toList,Array.getElem?_eq_getElem (by omega)]
 obtain⟨m0,y0,g0⟩:=fld1 underlying29 h 0 _ rfl (by kernel_rfl) _ (at_ 0 (by omega))
 obtain⟨m1,y1,g1⟩:=fld1 underlying29 h 1 _ rfl (by kernel_rfl) _ (at_ 1 (by omega))
 obtain⟨m2,y2,g2⟩:=fld1 underlying29 h 2 _ rfl (by kernel_rfl) _ (at_ 2 (by omega))
 obtain⟨m3,y3,g3⟩:=fld1 underlying29 h 3 _ rfl (by kernel_rfl) _ (at_ 3 (by omega))
 obtain⟨m4,y4,g4⟩:=fld1 underlying29 h 4 _ rfl (by kernel_rfl) _ (at_ 4 (by omega))
 obtain⟨m5,y5,g5⟩:=fld1 underlying29 h 5 _ rfl (by kernel_rfl) _ (at_ 5 (by omega))
 obtain⟨m6,y6,g6⟩:=fld1 underlying29 h 6 _ rfl (by kernel_rfl) _ (at_ 6 (by omega))
 obtain⟨m7,y7,g7⟩:=fld1 underlying29 h 7 _ rfl (by kernel_rfl) _ (at_ 7 (by omega))
 obtain⟨m8,y8,g8⟩:=fld1 underlying29 h 8 _ rfl (by kernel_rfl) _ (at_ 8 (by omega))
 obtain⟨m9,y9,g9⟩:=fld1 underlying29 h 9 _ rfl (by kernel_rfl) _ (at_ 9 (by omega))
 obtain⟨m10,y10,g10⟩:=fld1 underlying29 h 10 _ rfl (by kernel_rfl) _ (at_ 10 (by omega))
 obtain⟨m11,y11,g11⟩:=fld1 underlying29 h 11 _ rfl (by kernel_rfl) _ (at_ 11 (by omega))
 obtain⟨m12,y12,g12⟩:=fld1 underlying29 h 12 _ rfl (by kernel_rfl) _ (at_ 12 (by omega))
 obtain⟨m13,y13,g13⟩:=fld1 underlying29 h 13 _ rfl (by kernel_rfl) _ (at_ 13 (by omega))
 obtain⟨m14,y14,g14⟩:=fld1 underlying29 h 14 _ rfl (by kernel_rfl) _ (at_ 14 (by omega))
 obtain⟨m15,y15,g15⟩:=fld1 underlying29 h 15 _ rfl (by kernel_rfl) _ (at_ 15 (by omega))
 obtain⟨m16,y16,g16⟩:=fld1 underlying29 h 16 _ rfl (by kernel_rfl) _ (at_ 16 (by omega))
 obtain⟨m17,y17,g17⟩:=fld1 underlying29 h 17 _ rfl (by kernel_rfl) _ (at_ 17 (by omega))
 obtain⟨m18,y18,g18⟩:=fld1 underlying29 h 18 _ rfl (by kernel_rfl) _ (at_ 18 (by omega))
 obtain⟨m19,y19,g19⟩:=fld1 underlying29 h 19 _ rfl (by kernel_rfl) _ (at_ 19 (by omega))
 obtain⟨m20,y20,g20⟩:=fld1 underlying29 h 20 _ rfl (by kernel_rfl) _ (at_ 20 (by omega))
 obtain⟨k0,e0⟩:=open_i64 g0
 obtain⟨k1,e1⟩:=open_i64 g1
 obtain⟨k2,e2⟩:=open_b g2
 obtain⟨k3,e3⟩:=open_b g3
 obtain⟨k4,e4⟩:=open_i64 g4
 obtain⟨k5,e5⟩:=open_i64 g5
 obtain⟨k6,e6⟩:=open_s g6
 obtain⟨k7,e7⟩:=open_bytes g7
 obtain⟨k8,e8⟩:=open_s g8
 obtain⟨k9,e9⟩:=open_i64 g9
 obtain⟨k10,e10⟩:=open_s g10
 obtain⟨k11,e11⟩:=open_b g11
 obtain⟨k12,e12⟩:=open_i64 g12
 obtain⟨k13,e13,q13⟩:=open_wills g13
 obtain⟨k14,e14⟩:=open_bytess g14
 obtain⟨k15,e15⟩:=open_bytess g15
 obtain⟨k16,e16⟩:=open_b g16
 obtain⟨k17,e17⟩:=open_i64 g17
 obtain⟨k18,e18⟩:=open_ints_ g18
 obtain⟨k19,e19⟩:=open_subs g19
 obtain⟨k20,e20,q20⟩:=open_props g20
 refine⟨⟨k0,k1,k2,k3,k4,k5,k6,k7,k8,k9,k10,k11,k12,k13,k14,k15,k16,k17,k18,k19,k20⟩,fun j=>cs.getD j undef,?_,?_,q20,q13⟩
 ·apply Array.ext_getElem?
  intro j
  rcases Nat.lt_or_ge j 21 with hj|hj
  ·have hg:∀j (hj:j<21),cs[j]?=some (cs.getD j undef):=fun j hj=>by rw[Array.getElem?_eq_getElem (by omega)];simp[Array.getD,hl,hj]
   have hv:∀j (hj:j<21),cs.getD j undef=cs[j]'(by omega):=fun j hj=>by simp[Array.getD,hl,hj]
   rw[hg j hj]
   obtain rfl|rfl|rfl|rfl|rfl|rfl|rfl|rfl|rfl|rfl|rfl|rfl|rfl|rfl|rfl|rfl|rfl|rfl|rfl|rfl|rfl:j=0∨j=1∨j=2∨j=3∨j=4∨j=5∨j=6∨j=7∨j=8∨j=9∨j=10∨j=11∨j=12∨j=13∨j=14∨j=15∨j=16∨j=17∨j=18∨j=19∨j=20:=by omega
   ·rw[hv 0 (by omega),e0];rfl
   ·rw[hv 1 (by omega),e1];rfl
   ·rw[hv 2 (by omega),e2];rfl
   ·rw[hv 3 (by omega),e3];rfl
   ·rw[hv 4 (by omega),e4];rfl
   ·rw[hv 5 (by omega),e5];rfl
   ·rw[hv 6 (by omega),e6];rfl
   ·rfl
   ·rw[hv 8 (by omega),e8];rfl
   ·rw[hv 9 (by omega),e9];rfl
   ·rw[hv 10 (by omega),e10];rfl
   ·rw[hv 11 (by omega),e11];rfl
   ·rw[hv 12 (by omega),e12];rfl
   ·rfl
   ·rfl
   ·rfl
   ·rw[hv 16 (by omega),e16];rfl
   ·rw[hv 17 (by omega),e17];rfl
   ·rfl
   ·rfl
   ·rfl
  ·rw[Array.getElem?_eq_none (by omega),Array.getElem?_eq_none (by show 21≤j;omega)]
 ·have hv:∀j (hj:j<21),cs.getD j undef=cs[j]'(by omega):=fun j hj=>by simp[Array.getD,hl,hj]
  exact⟨by show _;rw[hv 7 (by omega)];exact e7,by show _;rw[hv 13 (by omega)];exact e13,by show _;rw[hv 14 (by omega)];exact e14,by show _;rw[hv 15 (by omega)];exact e15,by show _;rw[hv 18 (by omega)];exact e18,by show _;rw[hv 19 (by omega)];exact e19,by show _;rw[hv 20 (by omega)];exact e20⟩
end
end Go.Proofs.YtkglmacaecmhdaaGreatDoor
namespace Go.Proofs.YtkglmacaecmhdaaGreatDoor
open Go Go.ChangeShapes Go.WideShapes Go.ChangeAt Go.RowKit Go.Proofs.Tryz
theorem own:ownKnob prog.godebug=none:=by kernel_rfl
theorem keeps_but {w w':World} (k:Keeps [] w w') (may:MemPlace→Prop):w.keptBut w' may:=
 (World.keptBut_refl w may).congr k.os k.output (fun i hi=>k.block i hi (by simp))
theorem keeps_same {w w':World} (k:Keeps [] w w') {p:MemPlace} (hp:p.block<w.heap.size):w.sameAt w' p:=by
 have h:=k.block p.block hp (by simp)
 cases p with
 |cell b o=>exact k.cell (p:=⟨b,o,none⟩) hp (by simp)
 |map b=>exact h
theorem lifted (os:Os) (started:os.Started) (H:Type) (enc:TypeId×Value→H):
 ReturnsInHanded {} Tryz.checked os 3 .any (fun w args=>(Rows.fnRoadSpec.pre enc prog Tryz.f3 [] false w args∧laidMetH prog Rows.fnRoadRow.laid w)∧sizedMet enc prog Tryz.f3 (OpenSpec.ofChange Rows.fnRoadSpec) false w args)
  (Rows.fnRoadSpec.post enc prog Tryz.f3 false true false false):=by
 refine returnsInHanded_of_change_and (C:=Tryz.checked) (X:=fun w _=>laidMetH prog Rows.fnRoadRow.laid w) (fun _ _ _ hh h=>h.of_heap hh) own started (by kernel_rfl) func3
  (ChangeSpec.witness_shaped (enc:=enc) (C:=Tryz.checked) (os:=os) (X:=fun w _=>laidMetH prog Rows.fnRoadRow.laid w) false (World.laidAll prog os Rows.fnRoadRow.laid)
   #[.agg #[.int .i64 0,.int .i64 0,.bool false,.bool false,.int .i64 0,.int .i64 0,.string ⟨#[]⟩,.slice none 0 0,.string ⟨#[]⟩,.int .i64 0,.string ⟨#[]⟩,.bool false,.int .i64 0,.slice none 0 0,.slice none 0 0,.slice none 0 0,.bool false,.int .i64 0,.slice none 0 0,.slice none 0 0,.slice none 0 0]] 8 (World.laidAll_os _ _ _)
   (World.shaped_of_ZipB (by kernel_rfl) (by kernel_rfl)) (by kernel_rfl) (by kernel_rfl) (by kernel_rfl)
   (by rw[MakeChecks.laidMetH_plain _ _ _ (by kernel_rfl)];exact laidMet_laidAll _ (by kernel_rfl) (by kernel_rfl))) ?_
 intro W base args ds gs before hval0 hW _ _ hL _
 have hval:∀(j:Nat) t v,Tryz.f3.params[j]?=some t→args[j]?=some v→Value.okWide prog W .any base t v:=hval0
 have hW':=hW
 obtain⟨p,q,hA0,hV,rfl,_,_⟩:=hW
 have hA:DataW.TrodAll enc prog W 0 (fun _=>true) true Tryz.f3.params.toList args.toList ds p:=hA0
 rw[Tryz.params3] at hA hval
 obtain⟨v0,d0,rfl,rfl,h0⟩:=trodAll_one hA
 obtain⟨rfl,rfl⟩:=trodVars_none hV
 have hv:=hval 0 29 v0 rfl rfl
 rw[Value.okWide,underlying29] at hv
 obtain⟨cs,rfl,_,_⟩:=hv
 obtain⟨fuel,hfu⟩:=h0
 obtain⟨pk,v,hcs,hm,hn,hw⟩:=open_packet (cs:=cs) hfu
 obtain⟨hT,h21,h29⟩:=of_laid hL
 simp only[List.append_nil] at hW'
 have F:=fnRoad_c W pk v hm hn hw hT h21 h29
 rw[←hcs] at F
 refine F.mono fun e W' ⟨he,hk⟩=>?_
 subst he
 have hlt:∀x∈p,x.block<W.heap.size:=DataW.trod_lt _ _ _ _ hfu
 have hin:∀x∈p,(fun b=>decide (b<W.heap.size)) x.block=true:=fun x hx=>by simpa using hlt x hx
 have hres:DataW.trod enc prog W 0 (fun b=>decide (b<W.heap.size)) true fuel 29 cs.toList=some (d0,p):=
  DataW.trod_respare (kids_book (P:=prog) (t0:=29) (by kernel_rfl) (by kernel_rfl)) (fun t e ht hu=>book_sized (t0:=29) (by kernel_rfl) ht hu) fuel 29 _ _ ⟨of_decide_eq_true (by kernel_rfl),book_self 29⟩ hfu hin
 have hcar:=DataW.trod_carry fuel 29 _ _ hres (fun x hx=>keeps_same hk (hlt x hx))
 exact⟨_,rfl,_,_,_,[],p,[],hW',trodAll_mk1 (shut_bool underlying4 _),trodAll_mk1 ⟨fuel,hcar⟩,rfl,keeps_but hk _,fun h=>by cases h⟩
theorem fnRoad_holds:Rows.FnRoadSaid:=
 OpenClaim.holds_of_wide 3 Tryz.f3 rfl rfl rfl rfl rfl rfl rfl ⟨rfl,rfl,rfl,rfl,rfl⟩ rfl rfl rfl rfl rfl (by kernel_rfl) func3 (by kernel_rfl)
  (of_decide_eq_true (by kernel_rfl)) (by unfold Func.isWrapper;first|(rw[if_pos (by decide+kernel)];kernel_rfl)|(rw[if_neg (by decide+kernel)];exact⟨rfl,rfl⟩))
  (fun os started H enc _=>lifted os started H enc)
end Go.Proofs.YtkglmacaecmhdaaGreatDoor
namespace Go.Proofs.YtkglmacaecmhdaaGreatDoor
open Go Go.Proofs.Tryz
theorem fnRoadCard_holds:Rows.FnRoadCardSaid:=
 Claim7.holds_tied_plain_at .later [] Rows.fnRoadCard.laidKinds true (true,"7fe4350cada4dc4c5e6e38ba5d4e11f7133b6097e46dbe90cba00fdf6f8bb9da") false
  fnRoad_holds (fun _ h=>by cases h) (by kernel_rfl) (fun _ h=>by cases h) fnRoad_row_tie rfl ⟨rfl,rfl⟩ (by kernel_rfl) rfl
  (fun f fn hf hfn=>by
   obtain rfl:f=3:=Option.some.inj ((show prog.funcNamed "mochimqtt/laws.FnRoad" =some 3 by kernel_rfl).symm.trans hf)|>.symm
   obtain rfl:fn=Tryz.f3:=(Option.some.inj (func3.symm.trans hfn)).symm
   exact⟨by kernel_rfl,fun j t ht=>by
    rw[Tryz.params3] at ht
    have hm:t∈[29]:=by simpa using Array.mem_of_getElem? ht
    have hall:([29].all fun u=> !prog.wantsStandIn u)=true:=by kernel_rfl
    exact(show prog.wantsStandIn t=false by simpa using List.all_eq_true.1 hall t hm)⟩)
  (by kernel_rfl)
end Go.Proofs.YtkglmacaecmhdaaGreatDoor
