/- FnRoad, part M: the walks of L4. -/
import Derived.Laws.Rows
import Derived.Deep.WholeRow
import Derived.Test.YtkglmacaecmhdaaGreatDoorK
set_option linter.unusedVariables false
set_option linter.unusedSimpArgs false
set_option maxHeartbeats 8000000
set_option maxRecDepth 100000
namespace Go.Proofs.YtkglmacaecmhdaaGreatDoor
open Go Go.RowKit Tryz
def zeroP (k v:Int) (l:List PropV):PkV:=⟨k,v,false,false,0,0,⟨#[]⟩,[],⟨#[]⟩,0,⟨#[]⟩,false,0,[],[],[],false,0,[],[],l⟩
def kept (p:PkV):PkV:=
 if p.kind=1 then {zeroP p.kind p.version p.props with client:=p.client,clean:=p.clean,keep:=p.keep,will:=p.will,user:=p.user,pass:=p.pass}
 else if p.kind=2 then {zeroP p.kind p.version p.props with present:=p.present,code:=p.code}
 else if p.kind=3 then {zeroP p.kind p.version p.props with dup:=p.dup,retain:=p.retain,qos:=p.qos,id:=p.id,topic:=p.topic,payload:=p.payload}
 else if p.kind=4∨p.kind=5∨p.kind=6∨p.kind=7 then {zeroP p.kind p.version p.props with id:=p.id,code:=p.code}
 else if p.kind=8∨p.kind=10 then {zeroP p.kind p.version p.props with id:=p.id,subs:=p.subs}
 else if p.kind=9∨p.kind=11 then {zeroP p.kind p.version p.props with id:=p.id,codes:=p.codes}
 else if p.kind=14∨p.kind=15 then {zeroP p.kind p.version p.props with code:=p.code}
 else zeroP p.kind p.version p.props
def PkOut (w:World) (N:Nat→Prop) (p:PkV) (e:Ending) (w':World):Prop:=∃v,e=.returned (.agg (p.sells v))∧PkMem N w' p v∧Keeps [] w w'
def zero35 (k v:Int) (pv:Value):Array Value:=#[.int .i64 k,.int .i64 v,.bool false,.bool false,.int .i64 0,.int .i64 0,.string ⟨#[]⟩,.slice none 0 0,.string ⟨#[]⟩,.bool false,.int .i64 0,.slice none 0 0,.slice none 0 0,.slice none 0 0,.bool false,.int .i64 0,.slice none 0 0,.slice none 0 0,pv]
theorem eqk {a b c:Int} (h:a=b):(a==c)=(b==c):=by rw[h]
theorem one19 (cs:Array Value) (h:cs.all (·.oneCell')=true):cs.all (·.oneCell')=true:=h
theorem blk_setRow {w:World} {g:Nat} {t:TypeId} {cs:Array Value} (h:Blk w g t cs) (cs':Array Value):Blk (w.setRow g cs') g t cs':=by
 unfold Blk at h ⊢
 simp[World.setRow,Array.getElem?_modify,h]
theorem keeps_setRow (w:World) (g:Nat) (cs:Array Value):Keeps [g] w (w.setRow g cs):=by
 refine⟨rfl,rfl,rfl,by simp[World.setRow],fun k hk hn=>?_⟩
 simp only[List.mem_singleton] at hn
 simp only[World.setRow,Array.getElem?_modify]
 rw[if_neg (fun e=>hn e.symm)]
theorem PkMem.sl {N:Nat→Prop} {w:World} {p:PkV} {v:Nat→Value} (h:PkMem N w p v):
 (v 7).oneCell'=true∧(v 13).oneCell'=true∧(v 14).oneCell'=true∧(v 15).oneCell'=true∧(v 18).oneCell'=true∧(v 19).oneCell'=true∧(v 20).oneCell'=true:=by
 have hs:∀{u:Value} {s n:Nat} {xs:List Value},SlAt N w u s n xs→u.oneCell'=true:=fun h=>by
  obtain⟨A,c,rfl,_⟩:=h;rfl
 obtain⟨_,h13,_⟩:=h.m13
 obtain⟨_,h14,_⟩:=h.m14
 obtain⟨_,h15,_⟩:=h.m15
 exact⟨hs h.m7,hs h13,hs h14,hs h15,hs h.m18,hs h.m19,hs h.m20⟩
theorem far19 {js:List Nat} (z t:Array Value) (hz:z.size=19) (ht:t.size=19) (h:∀i,i<19→i∉js→z[i]?=t[i]?) (j:Nat) (hj:j∉js):z[j]?=t[j]?:=by
 by_cases hl:j<19
 ·exact h j hl hj
 ·rw[Array.getElem?_eq_none (by omega),Array.getElem?_eq_none (by omega)]
def zz (p:PkV) (c:Nat) (A:Option Addr):Array Value:=zero35 p.kind p.version (.slice A p.props.length c)
theorem zz_one (p:PkV) (c:Nat) (A:Option Addr):(zz p c A).all (·.oneCell')=true:=by
 unfold zz zero35
 simp only[List.all_toArray,List.all_cons,List.all_nil];rfl
@[simp] theorem zz_size (p:PkV) (c:Nat) (A:Option Addr):(zz p c A).size=19:=rfl
theorem eqs {a b:Int} (h:a=b):(a==1)=(b==1)∧(a==2)=(b==2)∧(a==3)=(b==3)∧(a==4)=(b==4)∧(a==5)=(b==5)∧(a==6)=(b==6)∧(a==7)=(b==7)∧(a==8)=(b==8)∧(a==10)=(b==10)∧(a==9)=(b==9)∧(a==11)=(b==11)∧(a==14)=(b==14)∧(a==15)=(b==15):=by subst h;simp only[and_self]
theorem zM1 {p:Prop} (h:p:=by
 exact results_cell_row rfl _ _ (w.heap.size+1) 35 tg (0,0) _ rfl (blk_setRow HRF.o tg) underlying35 rfl HI.o
 ):p:=h
theorem zM2 {p:Prop} (h:p:=by
 show _=Ending.returned (Value.agg #[Value.int IntKind.i64 p.kind,_,_,_,_,_,_,_,_,_,_,_,_,_,_,_,_,_,_])
 rw[←E20.o];rfl
 ):p:=h
theorem kept1_c (N:Nat→Prop) (w:World) (p:PkV) (v:Nat→Value) (hm:PkMem N w p v) (hk:p.kind=1):
 Calls prog 19 #[.agg (p.sells v)] w (PkOut w N (kept p)):=by
 obtain⟨W1,hW1⟩:∃W1,(w.alloc (.cells (p.sells v) 35)).alloc (.cells (zero35 0 0 (.slice none 0 0)) 35)=W1:=⟨_,rfl⟩
 have HK1:Hd (Keeps [] w W1):=by rw[←hW1];exact(Keeps.alloc _ _).trans (Keeps.alloc _ _) (by simp)
 have HBP:Hd (Blk W1 w.heap.size 35 (p.sells v)):=by rw[←hW1];exact(Blk.new _ _ _).alloc _
 have HBR:Hd (Blk W1 (w.heap.size+1) 35 (zero35 0 0 (.slice none 0 0))):=by rw[←hW1];have h:=Blk.new (w.alloc (.cells (p.sells v) 35)) 35 (zero35 0 0 (.slice none 0 0));rwa [World.size_alloc] at h
 have HS1:Hd (W1.heap.size=w.heap.size+2):=by rw[←hW1];show _=_;simp
 have HW1:=hH hW1
 have HSL:=hH (PkMem.sl hm)
 obtain⟨A20,c20,e20,_⟩:=hm.m20
 have E20:=hH e20
 clear e20
 clear hW1
 have c0:W1.cell? ⟨w.heap.size,0,none⟩=some (.int .i64 p.kind):=by rw[HBP.o.cell];rfl
 have c1:W1.cell? ⟨w.heap.size,1,none⟩=some (.int .i64 p.version):=by rw[HBP.o.cell];rfl
 have c18:W1.cell? ⟨w.heap.size,18,none⟩=some (.slice A20 p.props.length c20):=by rw[HBP.o.cell,←E20.o];rfl
 have HM:=hH hm
 have HKI:=hH hk
 obtain⟨h1,h2,h3,h4,h5,h6,h7,h8,h10,h9,h11,h14,h15⟩:=eqs hk
 clear hm hk
 go_enter func19,ntmps19
 go_upto_region 1 with fail
 have hw1:=HW1.o
 unfold zero35 at hw1
 rw[hw1]
 clear hw1
 have hi:(prog.info? 35).map (·.size)=some 19:=by kernel_rfl
 refine wp_region_lit ?_
 iterate 24 go_step
 refine wpList_store_row rfl 35 (.tmp 3) (.tmp 10) rfl W1.heap.size (zz p c20 A20) (by rfl) (by rfl) 35 _ (Blk.new _ _ _) hi rfl (zz_one p c20 A20) ?_
 rw[World.setRow_alloc_new]
 have HB3:=hH (Blk.new W1 35 (zz p c20 A20))
 have HP2:=hH (HBP.o.alloc (.cells (zz p c20 A20) 35))
 have HR2:=hH (HBR.o.alloc (.cells (zz p c20 A20) 35))
 have HK2:=hH (HK1.o.trans (Keeps.alloc W1 (.cells (zz p c20 A20) 35)) (by simp))
 have hz2:(W1.alloc (.cells (zz p c20 A20) 35)).heap.size=w.heap.size+3:=by rw[World.size_alloc,HS1.o]
 have hg3:=HS1.o
 generalize W1.alloc (.cells (zz p c20 A20) 35)=W2 at*
 generalize W1.heap.size=g3 at*
 clear c0 c1 c18 HBP HBR HW1 HK1 HS1 hi
 have HG3:=hH hg3
 have HZ2:=hH hz2
 clear hg3 hz2
 have c0:W2.cell? ⟨w.heap.size,0,none⟩=some (.int .i64 p.kind):=by rw[HP2.o.cell];rfl
 have c1:W2.cell? ⟨w.heap.size,1,none⟩=some (.int .i64 p.version):=by rw[HP2.o.cell];rfl
 have c8:W2.cell? ⟨w.heap.size,8,none⟩=some (.string p.client):=by rw[HP2.o.cell];rfl
 have c9:W2.cell? ⟨w.heap.size,9,none⟩=some (.bool p.clean):=by rw[HP2.o.cell];rfl
 have c10:W2.cell? ⟨w.heap.size,10,none⟩=some (.int .i64 p.keep):=by rw[HP2.o.cell];rfl
 have c11:W2.cell? ⟨w.heap.size,11,none⟩=some (v 13):=by rw[HP2.o.cell];rfl
 have c12:W2.cell? ⟨w.heap.size,12,none⟩=some (v 14):=by rw[HP2.o.cell];rfl
 have c13:W2.cell? ⟨w.heap.size,13,none⟩=some (v 15):=by rw[HP2.o.cell];rfl
 have c18:W2.cell? ⟨w.heap.size,18,none⟩=some (.slice A20 p.props.length c20):=by rw[HP2.o.cell];rw[←E20.o];rfl
 obtain⟨tg,htg⟩:∃tg:Array Value,tg=#[.int .i64 p.kind,.int .i64 p.version,.bool false,.bool false,.int .i64 0,.int .i64 0,.string ⟨#[]⟩,.slice none 0 0,.string p.client,.bool p.clean,.int .i64 p.keep,v 13,v 14,v 15,.bool false,.int .i64 0,.slice none 0 0,.slice none 0 0,.slice A20 p.props.length c20]:=⟨_,rfl⟩
 have HTG:=hH htg
 have HTZ:Hd (tg.size=19):=by show _=_;rw[htg];rfl
 clear htg
 refine wpList_nil ?_
 simp only[Act.put,s1,s2,s3]
 go_upto_region 4 with fail
 have hS:∀w',Keeps [g3] W2 w'→(w'.cell? ⟨w.heap.size,8,none⟩=some (.string p.client)∧w'.cell? ⟨w.heap.size,9,none⟩=some (.bool p.clean)∧w'.cell? ⟨w.heap.size,10,none⟩=some (.int .i64 p.keep)∧w'.cell? ⟨w.heap.size,11,none⟩=some (v 13)∧w'.cell? ⟨w.heap.size,12,none⟩=some (v 14)∧w'.cell? ⟨w.heap.size,13,none⟩=some (v 15)):=fun w' k=>⟨(HP2.o.keep k (by simp;have:=HG3.o;omega)).cell 8,(HP2.o.keep k (by simp;have:=HG3.o;omega)).cell 9,(HP2.o.keep k (by simp;have:=HG3.o;omega)).cell 10,(HP2.o.keep k (by simp;have:=HG3.o;omega)).cell 11,(HP2.o.keep k (by simp;have:=HG3.o;omega)).cell 12,(HP2.o.keep k (by simp;have:=HG3.o;omega)).cell 13⟩
 refine tkSt hS ((Keeps.drew W2).mono (by simp)) (by kernel_rfl) fun hHeld=>?_
 simp only[s4,s5,Nat.reduceAdd,s6,s7]
 repeat((first|refine tkx ?_|refine tku ?_);simp only[setN,Act.put,s1,s2,s3])
 refine tkc fun K hK=>?_
 refine wp_one (gg:=g3) (off:=8) (v:=.string p.client) (HB3.o.drew) (by simp) 9 (.tmp 27) (.tmp 16) rfl rfl rfl (by kernel_rfl) (rfl) ?_
 refine hK.out _ _ (hS _ (((Keeps.drew W2).mono (by simp)).trans (Keeps.setCell _ ⟨g3,8,none⟩ (.string p.client)) (by simp))) (fun hHeld=>?_)
 clear hK K
 simp only[setN,Act.put,s1,s2,s3]
 repeat((first|refine tkx ?_|refine tku ?_);simp only[setN,Act.put,s1,s2,s3])
 refine tkc fun K hK=>?_
 refine wp_one (gg:=g3) (off:=9) (v:=.bool p.clean) ((HB3.o.drew).set_ 8 (.string p.client)) (by simp) 4 (.tmp 28) (.tmp 18) rfl rfl rfl (by kernel_rfl) (rfl) ?_
 refine hK.out _ _ (hS _ ((((Keeps.drew W2).mono (by simp)).trans (Keeps.setCell _ ⟨g3,8,none⟩ (.string p.client)) (by simp)).trans (Keeps.setCell _ ⟨g3,9,none⟩ (.bool p.clean)) (by simp))) (fun hHeld=>?_)
 clear hK K
 simp only[setN,Act.put,s1,s2,s3]
 repeat((first|refine tkx ?_|refine tku ?_);simp only[setN,Act.put,s1,s2,s3])
 refine tkc fun K hK=>?_
 refine wp_one (gg:=g3) (off:=10) (v:=.int .i64 p.keep) (((HB3.o.drew).set_ 8 (.string p.client)).set_ 9 (.bool p.clean)) (by simp) 3 (.tmp 29) (.tmp 20) rfl rfl rfl (by kernel_rfl) (rfl) ?_
 refine hK.out _ _ (hS _ (((((Keeps.drew W2).mono (by simp)).trans (Keeps.setCell _ ⟨g3,8,none⟩ (.string p.client)) (by simp)).trans (Keeps.setCell _ ⟨g3,9,none⟩ (.bool p.clean)) (by simp)).trans (Keeps.setCell _ ⟨g3,10,none⟩ (.int .i64 p.keep)) (by simp))) (fun hHeld=>?_)
 clear hK K
 simp only[setN,Act.put,s1,s2,s3]
 repeat((first|refine tkx ?_|refine tku ?_);simp only[setN,Act.put,s1,s2,s3])
 refine tkc fun K hK=>?_
 refine wp_one (gg:=g3) (off:=11) (v:=v 13) ((((HB3.o.drew).set_ 8 (.string p.client)).set_ 9 (.bool p.clean)).set_ 10 (.int .i64 p.keep)) (by simp) 31 (.tmp 30) (.tmp 22) rfl rfl rfl (by kernel_rfl) (HSL.o.2.1) ?_
 refine hK.out _ _ (hS _ ((((((Keeps.drew W2).mono (by simp)).trans (Keeps.setCell _ ⟨g3,8,none⟩ (.string p.client)) (by simp)).trans (Keeps.setCell _ ⟨g3,9,none⟩ (.bool p.clean)) (by simp)).trans (Keeps.setCell _ ⟨g3,10,none⟩ (.int .i64 p.keep)) (by simp)).trans (Keeps.setCell _ ⟨g3,11,none⟩ (v 13)) (by simp))) (fun hHeld=>?_)
 clear hK K
 simp only[setN,Act.put,s1,s2,s3]
 repeat((first|refine tkx ?_|refine tku ?_);simp only[setN,Act.put,s1,s2,s3])
 refine tkc fun K hK=>?_
 refine wp_one (gg:=g3) (off:=12) (v:=v 14) (((((HB3.o.drew).set_ 8 (.string p.client)).set_ 9 (.bool p.clean)).set_ 10 (.int .i64 p.keep)).set_ 11 (v 13)) (by simp) 24 (.tmp 31) (.tmp 24) rfl rfl rfl (by kernel_rfl) (HSL.o.2.2.1) ?_
 refine hK.out _ _ (hS _ (((((((Keeps.drew W2).mono (by simp)).trans (Keeps.setCell _ ⟨g3,8,none⟩ (.string p.client)) (by simp)).trans (Keeps.setCell _ ⟨g3,9,none⟩ (.bool p.clean)) (by simp)).trans (Keeps.setCell _ ⟨g3,10,none⟩ (.int .i64 p.keep)) (by simp)).trans (Keeps.setCell _ ⟨g3,11,none⟩ (v 13)) (by simp)).trans (Keeps.setCell _ ⟨g3,12,none⟩ (v 14)) (by simp))) (fun hHeld=>?_)
 clear hK K
 simp only[setN,Act.put,s1,s2,s3]
 repeat((first|refine tkx ?_|refine tku ?_);simp only[setN,Act.put,s1,s2,s3])
 refine tkc fun K hK=>?_
 refine wp_one (gg:=g3) (off:=13) (v:=v 15) ((((((HB3.o.drew).set_ 8 (.string p.client)).set_ 9 (.bool p.clean)).set_ 10 (.int .i64 p.keep)).set_ 11 (v 13)).set_ 12 (v 14)) (by simp) 24 (.tmp 32) (.tmp 26) rfl rfl rfl (by kernel_rfl) (HSL.o.2.2.2.1) ?_
 refine hK.out _ _ (hS _ ((((((((Keeps.drew W2).mono (by simp)).trans (Keeps.setCell _ ⟨g3,8,none⟩ (.string p.client)) (by simp)).trans (Keeps.setCell _ ⟨g3,9,none⟩ (.bool p.clean)) (by simp)).trans (Keeps.setCell _ ⟨g3,10,none⟩ (.int .i64 p.keep)) (by simp)).trans (Keeps.setCell _ ⟨g3,11,none⟩ (v 13)) (by simp)).trans (Keeps.setCell _ ⟨g3,12,none⟩ (v 14)) (by simp)).trans (Keeps.setCell _ ⟨g3,13,none⟩ (v 15)) (by simp))) (fun hHeld=>?_)
 clear hK K
 simp only[setN,Act.put,s1,s2,s3]
 refine tkDone (by kernel_rfl) ?_
 have hKf:Keeps [g3] W2 ((((((W2.drew.setCell ⟨g3,8,none⟩ (.string p.client)).setCell ⟨g3,9,none⟩ (.bool p.clean)).setCell ⟨g3,10,none⟩ (.int .i64 p.keep)).setCell ⟨g3,11,none⟩ (v 13)).setCell ⟨g3,12,none⟩ (v 14)).setCell ⟨g3,13,none⟩ (v 15)):=((((((((Keeps.drew W2).mono (by simp)).trans (Keeps.setCell _ ⟨g3,8,none⟩ (.string p.client)) (by simp)).trans (Keeps.setCell _ ⟨g3,9,none⟩ (.bool p.clean)) (by simp)).trans (Keeps.setCell _ ⟨g3,10,none⟩ (.int .i64 p.keep)) (by simp)).trans (Keeps.setCell _ ⟨g3,11,none⟩ (v 13)) (by simp)).trans (Keeps.setCell _ ⟨g3,12,none⟩ (v 14)) (by simp)).trans (Keeps.setCell _ ⟨g3,13,none⟩ (v 15)) (by simp))
 have hBf:Blk ((((((W2.drew.setCell ⟨g3,8,none⟩ (.string p.client)).setCell ⟨g3,9,none⟩ (.bool p.clean)).setCell ⟨g3,10,none⟩ (.int .i64 p.keep)).setCell ⟨g3,11,none⟩ (v 13)).setCell ⟨g3,12,none⟩ (v 14)).setCell ⟨g3,13,none⟩ (v 15)) g3 35 tg:=by rw[HTG.o];exact((((((HB3.o.drew).set_ 8 (.string p.client)).set_ 9 (.bool p.clean)).set_ 10 (.int .i64 p.keep)).set_ 11 (v 13)).set_ 12 (v 14)).set_ 13 (v 15)
 have hRf:Blk ((((((W2.drew.setCell ⟨g3,8,none⟩ (.string p.client)).setCell ⟨g3,9,none⟩ (.bool p.clean)).setCell ⟨g3,10,none⟩ (.int .i64 p.keep)).setCell ⟨g3,11,none⟩ (v 13)).setCell ⟨g3,12,none⟩ (v 14)).setCell ⟨g3,13,none⟩ (v 15)) (w.heap.size+1) 35 (zero35 0 0 (.slice none 0 0)):=HR2.o.keep hKf (by simp;have:=HG3.o;omega)
 generalize ((((((W2.drew.setCell ⟨g3,8,none⟩ (.string p.client)).setCell ⟨g3,9,none⟩ (.bool p.clean)).setCell ⟨g3,10,none⟩ (.int .i64 p.keep)).setCell ⟨g3,11,none⟩ (v 13)).setCell ⟨g3,12,none⟩ (v 14)).setCell ⟨g3,13,none⟩ (v 15))=Wf at*
 clear hS
 have hi:(prog.info? 35).map (·.size)=some tg.size:=by rw[HTZ.o];kernel_rfl
 have HF:=hH hBf
 have HKF:=hH hKf
 have HRF:=hH (hRf)
 clear hBf hKf hRf
 have HI:=hH hi
 clear hi
 go_wp2_with (first|refine wpList_load_row rfl 35 (.tmp 3) rfl g3 rfl 35 tg (0,0) _ HF.o underlying35 rfl HI.o ?_|refine wpList_store_row rfl 35 (.tmp 2) (.tmp 96) rfl (w.heap.size+1) tg rfl rfl 35 (zero35 0 0 (.slice none 0 0)) HRF.o HI.o HTZ.o.symm (by rw[HTG.o];exact one19 _ (by have h:=HSL.o;simp only[zz,zero35,List.all_toArray,List.all_cons,List.all_nil,h];rfl)) ?_)
 (try simp only[Exit.inBlock,Exit.then])
 refine bodyPost_ret (v:=.agg tg) ?_ rfl ?_
 ·exact zM1
 ·have hkept:kept p={zeroP p.kind p.version p.props with client:=p.client,clean:=p.clean,keep:=p.keep,will:=p.will,user:=p.user,pass:=p.pass}:=by unfold kept;simp only[HKI.o];rfl
  have hkk:Keeps [] w (Wf.setRow (w.heap.size+1) tg):=(HK2.o.trans HKF.o (by simp;have:=HG3.o;omega)).trans (keeps_setRow _ _ _) (by simp)
  rw[hkept]
  refine⟨fun j=>if j=13∨j=14∨j=15∨j=20 then v j else .slice none 0 0,?_,?_,hkk⟩
  ·rw[HTG.o]
   exact zM2
  ·have h:=HM.o.keep hkk (by simp)
   exact⟨SlAt.none_ _ _ _,h.m13,h.m14,h.m15,SlAt.none_ _ _ _,SlAt.none_ _ _ _,h.m20⟩
theorem zM3 {p:Prop} (h:p:=by
 have h:=HM.o.keep hkk (by simp)
 exact⟨SlAt.none_ _ _ _,⟨[],SlAt.none_ _ _ _,by simp[zeroP]⟩,⟨[],SlAt.none_ _ _ _,by simp[zeroP]⟩,⟨[],SlAt.none_ _ _ _,by simp[zeroP]⟩,SlAt.none_ _ _ _,SlAt.none_ _ _ _,h.m20⟩
 ):p:=h
theorem zM0 {p:Prop} (h:p:=by
 have hkk:Keeps [] w (Wf.setRow (w.heap.size+1) tg):=(HK2.o.trans HKF.o (by simp;have:=HG3.o;omega)).trans (keeps_setRow _ _ _) (by simp)
 rw[hkept]
 refine⟨fun j=>if j=20 then v j else .slice none 0 0,?_,?_,hkk⟩
 ·rw[HTG.o]
  exact zM2
 ·exact zM3
 ):p:=h
theorem kept2_c (N:Nat→Prop) (w:World) (p:PkV) (v:Nat→Value) (hm:PkMem N w p v) (hk:p.kind=2):
 Calls prog 19 #[.agg (p.sells v)] w (PkOut w N (kept p)):=by
 obtain⟨W1,hW1⟩:∃W1,(w.alloc (.cells (p.sells v) 35)).alloc (.cells (zero35 0 0 (.slice none 0 0)) 35)=W1:=⟨_,rfl⟩
 have HK1:Hd (Keeps [] w W1):=by rw[←hW1];exact(Keeps.alloc _ _).trans (Keeps.alloc _ _) (by simp)
 have HBP:Hd (Blk W1 w.heap.size 35 (p.sells v)):=by rw[←hW1];exact(Blk.new _ _ _).alloc _
 have HBR:Hd (Blk W1 (w.heap.size+1) 35 (zero35 0 0 (.slice none 0 0))):=by rw[←hW1];have h:=Blk.new (w.alloc (.cells (p.sells v) 35)) 35 (zero35 0 0 (.slice none 0 0));rwa [World.size_alloc] at h
 have HS1:Hd (W1.heap.size=w.heap.size+2):=by rw[←hW1];show _=_;simp
 have HW1:=hH hW1
 have HSL:=hH (PkMem.sl hm)
 obtain⟨A20,c20,e20,_⟩:=hm.m20
 have E20:=hH e20
 clear e20
 clear hW1
 have c0:W1.cell? ⟨w.heap.size,0,none⟩=some (.int .i64 p.kind):=by rw[HBP.o.cell];rfl
 have c1:W1.cell? ⟨w.heap.size,1,none⟩=some (.int .i64 p.version):=by rw[HBP.o.cell];rfl
 have c18:W1.cell? ⟨w.heap.size,18,none⟩=some (.slice A20 p.props.length c20):=by rw[HBP.o.cell,←E20.o];rfl
 have HM:=hH hm
 have HKI:=hH hk
 obtain⟨h1,h2,h3,h4,h5,h6,h7,h8,h10,h9,h11,h14,h15⟩:=eqs hk
 clear hm hk
 go_enter func19,ntmps19
 go_upto_region 1 with fail
 have hw1:=HW1.o
 unfold zero35 at hw1
 rw[hw1]
 clear hw1
 have hi:(prog.info? 35).map (·.size)=some 19:=by kernel_rfl
 refine wp_region_lit ?_
 iterate 24 go_step
 refine wpList_store_row rfl 35 (.tmp 3) (.tmp 10) rfl W1.heap.size (zz p c20 A20) (by rfl) (by rfl) 35 _ (Blk.new _ _ _) hi rfl (zz_one p c20 A20) ?_
 rw[World.setRow_alloc_new]
 have HB3:=hH (Blk.new W1 35 (zz p c20 A20))
 have HP2:=hH (HBP.o.alloc (.cells (zz p c20 A20) 35))
 have HR2:=hH (HBR.o.alloc (.cells (zz p c20 A20) 35))
 have HK2:=hH (HK1.o.trans (Keeps.alloc W1 (.cells (zz p c20 A20) 35)) (by simp))
 have hz2:(W1.alloc (.cells (zz p c20 A20) 35)).heap.size=w.heap.size+3:=by rw[World.size_alloc,HS1.o]
 have hg3:=HS1.o
 generalize W1.alloc (.cells (zz p c20 A20) 35)=W2 at*
 generalize W1.heap.size=g3 at*
 clear c0 c1 c18 HBP HBR HW1 HK1 HS1 hi
 have HG3:=hH hg3
 have HZ2:=hH hz2
 clear hg3 hz2
 have c0:W2.cell? ⟨w.heap.size,0,none⟩=some (.int .i64 p.kind):=by rw[HP2.o.cell];rfl
 have c1:W2.cell? ⟨w.heap.size,1,none⟩=some (.int .i64 p.version):=by rw[HP2.o.cell];rfl
 have c14:W2.cell? ⟨w.heap.size,14,none⟩=some (.bool p.present):=by rw[HP2.o.cell];rfl
 have c15:W2.cell? ⟨w.heap.size,15,none⟩=some (.int .i64 p.code):=by rw[HP2.o.cell];rfl
 have c18:W2.cell? ⟨w.heap.size,18,none⟩=some (.slice A20 p.props.length c20):=by rw[HP2.o.cell];rw[←E20.o];rfl
 obtain⟨tg,htg⟩:∃tg:Array Value,tg=#[.int .i64 p.kind,.int .i64 p.version,.bool false,.bool false,.int .i64 0,.int .i64 0,.string ⟨#[]⟩,.slice none 0 0,.string ⟨#[]⟩,.bool false,.int .i64 0,.slice none 0 0,.slice none 0 0,.slice none 0 0,.bool p.present,.int .i64 p.code,.slice none 0 0,.slice none 0 0,.slice A20 p.props.length c20]:=⟨_,rfl⟩
 have HTG:=hH htg
 have HTZ:Hd (tg.size=19):=by show _=_;rw[htg];rfl
 clear htg
 refine wpList_nil ?_
 simp only[Act.put,s1,s2,s3]
 go_upto_region 6 with fail
 have hS:∀w',Keeps [g3] W2 w'→(w'.cell? ⟨w.heap.size,14,none⟩=some (.bool p.present)∧w'.cell? ⟨w.heap.size,15,none⟩=some (.int .i64 p.code)):=fun w' k=>⟨(HP2.o.keep k (by simp;have:=HG3.o;omega)).cell 14,(HP2.o.keep k (by simp;have:=HG3.o;omega)).cell 15⟩
 refine tkSt hS ((Keeps.drew W2).mono (by simp)) (by kernel_rfl) fun hHeld=>?_
 simp only[s4,s5,Nat.reduceAdd,s6,s7]
 repeat((first|refine tkx ?_|refine tku ?_);simp only[setN,Act.put,s1,s2,s3])
 refine tkc fun K hK=>?_
 refine wp_one (gg:=g3) (off:=14) (v:=.bool p.present) (HB3.o.drew) (by simp) 4 (.tmp 39) (.tmp 36) rfl rfl rfl (by kernel_rfl) (rfl) ?_
 refine hK.out _ _ (hS _ (((Keeps.drew W2).mono (by simp)).trans (Keeps.setCell _ ⟨g3,14,none⟩ (.bool p.present)) (by simp))) (fun hHeld=>?_)
 clear hK K
 simp only[setN,Act.put,s1,s2,s3]
 repeat((first|refine tkx ?_|refine tku ?_);simp only[setN,Act.put,s1,s2,s3])
 refine tkc fun K hK=>?_
 refine wp_one (gg:=g3) (off:=15) (v:=.int .i64 p.code) ((HB3.o.drew).set_ 14 (.bool p.present)) (by simp) 3 (.tmp 40) (.tmp 38) rfl rfl rfl (by kernel_rfl) (rfl) ?_
 refine hK.out _ _ (hS _ ((((Keeps.drew W2).mono (by simp)).trans (Keeps.setCell _ ⟨g3,14,none⟩ (.bool p.present)) (by simp)).trans (Keeps.setCell _ ⟨g3,15,none⟩ (.int .i64 p.code)) (by simp))) (fun hHeld=>?_)
 clear hK K
 simp only[setN,Act.put,s1,s2,s3]
 refine tkDone (by kernel_rfl) ?_
 have hKf:Keeps [g3] W2 ((W2.drew.setCell ⟨g3,14,none⟩ (.bool p.present)).setCell ⟨g3,15,none⟩ (.int .i64 p.code)):=((((Keeps.drew W2).mono (by simp)).trans (Keeps.setCell _ ⟨g3,14,none⟩ (.bool p.present)) (by simp)).trans (Keeps.setCell _ ⟨g3,15,none⟩ (.int .i64 p.code)) (by simp))
 have hBf:Blk ((W2.drew.setCell ⟨g3,14,none⟩ (.bool p.present)).setCell ⟨g3,15,none⟩ (.int .i64 p.code)) g3 35 tg:=by rw[HTG.o];exact((HB3.o.drew).set_ 14 (.bool p.present)).set_ 15 (.int .i64 p.code)
 have hRf:Blk ((W2.drew.setCell ⟨g3,14,none⟩ (.bool p.present)).setCell ⟨g3,15,none⟩ (.int .i64 p.code)) (w.heap.size+1) 35 (zero35 0 0 (.slice none 0 0)):=HR2.o.keep hKf (by simp;have:=HG3.o;omega)
 generalize ((W2.drew.setCell ⟨g3,14,none⟩ (.bool p.present)).setCell ⟨g3,15,none⟩ (.int .i64 p.code))=Wf at*
 clear hS
 have hi:(prog.info? 35).map (·.size)=some tg.size:=by rw[HTZ.o];kernel_rfl
 have HF:=hH hBf
 have HKF:=hH hKf
 have HRF:=hH (hRf)
 clear hBf hKf hRf
 have HI:=hH hi
 clear hi
 go_wp2_with (first|refine wpList_load_row rfl 35 (.tmp 3) rfl g3 rfl 35 tg (0,0) _ HF.o underlying35 rfl HI.o ?_|refine wpList_store_row rfl 35 (.tmp 2) (.tmp 96) rfl (w.heap.size+1) tg rfl rfl 35 (zero35 0 0 (.slice none 0 0)) HRF.o HI.o HTZ.o.symm (by rw[HTG.o];exact one19 _ (by have h:=HSL.o;simp only[zz,zero35,List.all_toArray,List.all_cons,List.all_nil,h];rfl)) ?_)
 (try simp only[Exit.inBlock,Exit.then])
 refine bodyPost_ret (v:=.agg tg) ?_ rfl ?_
 ·exact zM1
 ·have hkept:kept p={zeroP p.kind p.version p.props with present:=p.present,code:=p.code}:=by unfold kept;simp only[HKI.o];rfl
  exact zM0
theorem kept3_c (N:Nat→Prop) (w:World) (p:PkV) (v:Nat→Value) (hm:PkMem N w p v) (hk:p.kind=3):
 Calls prog 19 #[.agg (p.sells v)] w (PkOut w N (kept p)):=by
 obtain⟨W1,hW1⟩:∃W1,(w.alloc (.cells (p.sells v) 35)).alloc (.cells (zero35 0 0 (.slice none 0 0)) 35)=W1:=⟨_,rfl⟩
 have HK1:Hd (Keeps [] w W1):=by rw[←hW1];exact(Keeps.alloc _ _).trans (Keeps.alloc _ _) (by simp)
 have HBP:Hd (Blk W1 w.heap.size 35 (p.sells v)):=by rw[←hW1];exact(Blk.new _ _ _).alloc _
 have HBR:Hd (Blk W1 (w.heap.size+1) 35 (zero35 0 0 (.slice none 0 0))):=by rw[←hW1];have h:=Blk.new (w.alloc (.cells (p.sells v) 35)) 35 (zero35 0 0 (.slice none 0 0));rwa [World.size_alloc] at h
 have HS1:Hd (W1.heap.size=w.heap.size+2):=by rw[←hW1];show _=_;simp
 have HW1:=hH hW1
 have HSL:=hH (PkMem.sl hm)
 obtain⟨A20,c20,e20,_⟩:=hm.m20
 have E20:=hH e20
 clear e20
 clear hW1
 have c0:W1.cell? ⟨w.heap.size,0,none⟩=some (.int .i64 p.kind):=by rw[HBP.o.cell];rfl
 have c1:W1.cell? ⟨w.heap.size,1,none⟩=some (.int .i64 p.version):=by rw[HBP.o.cell];rfl
 have c18:W1.cell? ⟨w.heap.size,18,none⟩=some (.slice A20 p.props.length c20):=by rw[HBP.o.cell,←E20.o];rfl
 have HM:=hH hm
 have HKI:=hH hk
 obtain⟨h1,h2,h3,h4,h5,h6,h7,h8,h10,h9,h11,h14,h15⟩:=eqs hk
 clear hm hk
 go_enter func19,ntmps19
 go_upto_region 1 with fail
 have hw1:=HW1.o
 unfold zero35 at hw1
 rw[hw1]
 clear hw1
 have hi:(prog.info? 35).map (·.size)=some 19:=by kernel_rfl
 refine wp_region_lit ?_
 iterate 24 go_step
 refine wpList_store_row rfl 35 (.tmp 3) (.tmp 10) rfl W1.heap.size (zz p c20 A20) (by rfl) (by rfl) 35 _ (Blk.new _ _ _) hi rfl (zz_one p c20 A20) ?_
 rw[World.setRow_alloc_new]
 have HB3:=hH (Blk.new W1 35 (zz p c20 A20))
 have HP2:=hH (HBP.o.alloc (.cells (zz p c20 A20) 35))
 have HR2:=hH (HBR.o.alloc (.cells (zz p c20 A20) 35))
 have HK2:=hH (HK1.o.trans (Keeps.alloc W1 (.cells (zz p c20 A20) 35)) (by simp))
 have hz2:(W1.alloc (.cells (zz p c20 A20) 35)).heap.size=w.heap.size+3:=by rw[World.size_alloc,HS1.o]
 have hg3:=HS1.o
 generalize W1.alloc (.cells (zz p c20 A20) 35)=W2 at*
 generalize W1.heap.size=g3 at*
 clear c0 c1 c18 HBP HBR HW1 HK1 HS1 hi
 have HG3:=hH hg3
 have HZ2:=hH hz2
 clear hg3 hz2
 have c0:W2.cell? ⟨w.heap.size,0,none⟩=some (.int .i64 p.kind):=by rw[HP2.o.cell];rfl
 have c1:W2.cell? ⟨w.heap.size,1,none⟩=some (.int .i64 p.version):=by rw[HP2.o.cell];rfl
 have c2:W2.cell? ⟨w.heap.size,2,none⟩=some (.bool p.dup):=by rw[HP2.o.cell];rfl
 have c3:W2.cell? ⟨w.heap.size,3,none⟩=some (.bool p.retain):=by rw[HP2.o.cell];rfl
 have c4:W2.cell? ⟨w.heap.size,4,none⟩=some (.int .i64 p.qos):=by rw[HP2.o.cell];rfl
 have c5:W2.cell? ⟨w.heap.size,5,none⟩=some (.int .i64 p.id):=by rw[HP2.o.cell];rfl
 have c6:W2.cell? ⟨w.heap.size,6,none⟩=some (.string p.topic):=by rw[HP2.o.cell];rfl
 have c7:W2.cell? ⟨w.heap.size,7,none⟩=some (v 7):=by rw[HP2.o.cell];rfl
 have c18:W2.cell? ⟨w.heap.size,18,none⟩=some (.slice A20 p.props.length c20):=by rw[HP2.o.cell];rw[←E20.o];rfl
 obtain⟨tg,htg⟩:∃tg:Array Value,tg=#[.int .i64 p.kind,.int .i64 p.version,.bool p.dup,.bool p.retain,.int .i64 p.qos,.int .i64 p.id,.string p.topic,v 7,.string ⟨#[]⟩,.bool false,.int .i64 0,.slice none 0 0,.slice none 0 0,.slice none 0 0,.bool false,.int .i64 0,.slice none 0 0,.slice none 0 0,.slice A20 p.props.length c20]:=⟨_,rfl⟩
 have HTG:=hH htg
 have HTZ:Hd (tg.size=19):=by show _=_;rw[htg];rfl
 clear htg
 refine wpList_nil ?_
 simp only[Act.put,s1,s2,s3]
 go_upto_region 8 with fail
 have hS:∀w',Keeps [g3] W2 w'→(w'.cell? ⟨w.heap.size,2,none⟩=some (.bool p.dup)∧w'.cell? ⟨w.heap.size,3,none⟩=some (.bool p.retain)∧w'.cell? ⟨w.heap.size,4,none⟩=some (.int .i64 p.qos)∧w'.cell? ⟨w.heap.size,5,none⟩=some (.int .i64 p.id)∧w'.cell? ⟨w.heap.size,6,none⟩=some (.string p.topic)∧w'.cell? ⟨w.heap.size,7,none⟩=some (v 7)):=fun w' k=>⟨(HP2.o.keep k (by simp;have:=HG3.o;omega)).cell 2,(HP2.o.keep k (by simp;have:=HG3.o;omega)).cell 3,(HP2.o.keep k (by simp;have:=HG3.o;omega)).cell 4,(HP2.o.keep k (by simp;have:=HG3.o;omega)).cell 5,(HP2.o.keep k (by simp;have:=HG3.o;omega)).cell 6,(HP2.o.keep k (by simp;have:=HG3.o;omega)).cell 7⟩
 refine tkSt hS ((Keeps.drew W2).mono (by simp)) (by kernel_rfl) fun hHeld=>?_
 simp only[s4,s5,Nat.reduceAdd,s6,s7]
 repeat((first|refine tkx ?_|refine tku ?_);simp only[setN,Act.put,s1,s2,s3])
 refine tkc fun K hK=>?_
 refine wp_one (gg:=g3) (off:=2) (v:=.bool p.dup) (HB3.o.drew) (by simp) 4 (.tmp 55) (.tmp 44) rfl rfl rfl (by kernel_rfl) (rfl) ?_
 refine hK.out _ _ (hS _ (((Keeps.drew W2).mono (by simp)).trans (Keeps.setCell _ ⟨g3,2,none⟩ (.bool p.dup)) (by simp))) (fun hHeld=>?_)
 clear hK K
 simp only[setN,Act.put,s1,s2,s3]
 repeat((first|refine tkx ?_|refine tku ?_);simp only[setN,Act.put,s1,s2,s3])
 refine tkc fun K hK=>?_
 refine wp_one (gg:=g3) (off:=3) (v:=.bool p.retain) ((HB3.o.drew).set_ 2 (.bool p.dup)) (by simp) 4 (.tmp 56) (.tmp 46) rfl rfl rfl (by kernel_rfl) (rfl) ?_
 refine hK.out _ _ (hS _ ((((Keeps.drew W2).mono (by simp)).trans (Keeps.setCell _ ⟨g3,2,none⟩ (.bool p.dup)) (by simp)).trans (Keeps.setCell _ ⟨g3,3,none⟩ (.bool p.retain)) (by simp))) (fun hHeld=>?_)
 clear hK K
 simp only[setN,Act.put,s1,s2,s3]
 repeat((first|refine tkx ?_|refine tku ?_);simp only[setN,Act.put,s1,s2,s3])
 refine tkc fun K hK=>?_
 refine wp_one (gg:=g3) (off:=4) (v:=.int .i64 p.qos) (((HB3.o.drew).set_ 2 (.bool p.dup)).set_ 3 (.bool p.retain)) (by simp) 3 (.tmp 57) (.tmp 48) rfl rfl rfl (by kernel_rfl) (rfl) ?_
 refine hK.out _ _ (hS _ (((((Keeps.drew W2).mono (by simp)).trans (Keeps.setCell _ ⟨g3,2,none⟩ (.bool p.dup)) (by simp)).trans (Keeps.setCell _ ⟨g3,3,none⟩ (.bool p.retain)) (by simp)).trans (Keeps.setCell _ ⟨g3,4,none⟩ (.int .i64 p.qos)) (by simp))) (fun hHeld=>?_)
 clear hK K
 simp only[setN,Act.put,s1,s2,s3]
 repeat((first|refine tkx ?_|refine tku ?_);simp only[setN,Act.put,s1,s2,s3])
 refine tkc fun K hK=>?_
 refine wp_one (gg:=g3) (off:=5) (v:=.int .i64 p.id) ((((HB3.o.drew).set_ 2 (.bool p.dup)).set_ 3 (.bool p.retain)).set_ 4 (.int .i64 p.qos)) (by simp) 3 (.tmp 58) (.tmp 50) rfl rfl rfl (by kernel_rfl) (rfl) ?_
 refine hK.out _ _ (hS _ ((((((Keeps.drew W2).mono (by simp)).trans (Keeps.setCell _ ⟨g3,2,none⟩ (.bool p.dup)) (by simp)).trans (Keeps.setCell _ ⟨g3,3,none⟩ (.bool p.retain)) (by simp)).trans (Keeps.setCell _ ⟨g3,4,none⟩ (.int .i64 p.qos)) (by simp)).trans (Keeps.setCell _ ⟨g3,5,none⟩ (.int .i64 p.id)) (by simp))) (fun hHeld=>?_)
 clear hK K
 simp only[setN,Act.put,s1,s2,s3]
 repeat((first|refine tkx ?_|refine tku ?_);simp only[setN,Act.put,s1,s2,s3])
 refine tkc fun K hK=>?_
 refine wp_one (gg:=g3) (off:=6) (v:=.string p.topic) (((((HB3.o.drew).set_ 2 (.bool p.dup)).set_ 3 (.bool p.retain)).set_ 4 (.int .i64 p.qos)).set_ 5 (.int .i64 p.id)) (by simp) 9 (.tmp 59) (.tmp 52) rfl rfl rfl (by kernel_rfl) (rfl) ?_
 refine hK.out _ _ (hS _ (((((((Keeps.drew W2).mono (by simp)).trans (Keeps.setCell _ ⟨g3,2,none⟩ (.bool p.dup)) (by simp)).trans (Keeps.setCell _ ⟨g3,3,none⟩ (.bool p.retain)) (by simp)).trans (Keeps.setCell _ ⟨g3,4,none⟩ (.int .i64 p.qos)) (by simp)).trans (Keeps.setCell _ ⟨g3,5,none⟩ (.int .i64 p.id)) (by simp)).trans (Keeps.setCell _ ⟨g3,6,none⟩ (.string p.topic)) (by simp))) (fun hHeld=>?_)
 clear hK K
 simp only[setN,Act.put,s1,s2,s3]
 repeat((first|refine tkx ?_|refine tku ?_);simp only[setN,Act.put,s1,s2,s3])
 refine tkc fun K hK=>?_
 refine wp_one (gg:=g3) (off:=7) (v:=v 7) ((((((HB3.o.drew).set_ 2 (.bool p.dup)).set_ 3 (.bool p.retain)).set_ 4 (.int .i64 p.qos)).set_ 5 (.int .i64 p.id)).set_ 6 (.string p.topic)) (by simp) 22 (.tmp 60) (.tmp 54) rfl rfl rfl (by kernel_rfl) (HSL.o.1) ?_
 refine hK.out _ _ (hS _ ((((((((Keeps.drew W2).mono (by simp)).trans (Keeps.setCell _ ⟨g3,2,none⟩ (.bool p.dup)) (by simp)).trans (Keeps.setCell _ ⟨g3,3,none⟩ (.bool p.retain)) (by simp)).trans (Keeps.setCell _ ⟨g3,4,none⟩ (.int .i64 p.qos)) (by simp)).trans (Keeps.setCell _ ⟨g3,5,none⟩ (.int .i64 p.id)) (by simp)).trans (Keeps.setCell _ ⟨g3,6,none⟩ (.string p.topic)) (by simp)).trans (Keeps.setCell _ ⟨g3,7,none⟩ (v 7)) (by simp))) (fun hHeld=>?_)
 clear hK K
 simp only[setN,Act.put,s1,s2,s3]
 refine tkDone (by kernel_rfl) ?_
 have hKf:Keeps [g3] W2 ((((((W2.drew.setCell ⟨g3,2,none⟩ (.bool p.dup)).setCell ⟨g3,3,none⟩ (.bool p.retain)).setCell ⟨g3,4,none⟩ (.int .i64 p.qos)).setCell ⟨g3,5,none⟩ (.int .i64 p.id)).setCell ⟨g3,6,none⟩ (.string p.topic)).setCell ⟨g3,7,none⟩ (v 7)):=((((((((Keeps.drew W2).mono (by simp)).trans (Keeps.setCell _ ⟨g3,2,none⟩ (.bool p.dup)) (by simp)).trans (Keeps.setCell _ ⟨g3,3,none⟩ (.bool p.retain)) (by simp)).trans (Keeps.setCell _ ⟨g3,4,none⟩ (.int .i64 p.qos)) (by simp)).trans (Keeps.setCell _ ⟨g3,5,none⟩ (.int .i64 p.id)) (by simp)).trans (Keeps.setCell _ ⟨g3,6,none⟩ (.string p.topic)) (by simp)).trans (Keeps.setCell _ ⟨g3,7,none⟩ (v 7)) (by simp))
 have hBf:Blk ((((((W2.drew.setCell ⟨g3,2,none⟩ (.bool p.dup)).setCell ⟨g3,3,none⟩ (.bool p.retain)).setCell ⟨g3,4,none⟩ (.int .i64 p.qos)).setCell ⟨g3,5,none⟩ (.int .i64 p.id)).setCell ⟨g3,6,none⟩ (.string p.topic)).setCell ⟨g3,7,none⟩ (v 7)) g3 35 tg:=by rw[HTG.o];exact((((((HB3.o.drew).set_ 2 (.bool p.dup)).set_ 3 (.bool p.retain)).set_ 4 (.int .i64 p.qos)).set_ 5 (.int .i64 p.id)).set_ 6 (.string p.topic)).set_ 7 (v 7)
 have hRf:Blk ((((((W2.drew.setCell ⟨g3,2,none⟩ (.bool p.dup)).setCell ⟨g3,3,none⟩ (.bool p.retain)).setCell ⟨g3,4,none⟩ (.int .i64 p.qos)).setCell ⟨g3,5,none⟩ (.int .i64 p.id)).setCell ⟨g3,6,none⟩ (.string p.topic)).setCell ⟨g3,7,none⟩ (v 7)) (w.heap.size+1) 35 (zero35 0 0 (.slice none 0 0)):=HR2.o.keep hKf (by simp;have:=HG3.o;omega)
 generalize ((((((W2.drew.setCell ⟨g3,2,none⟩ (.bool p.dup)).setCell ⟨g3,3,none⟩ (.bool p.retain)).setCell ⟨g3,4,none⟩ (.int .i64 p.qos)).setCell ⟨g3,5,none⟩ (.int .i64 p.id)).setCell ⟨g3,6,none⟩ (.string p.topic)).setCell ⟨g3,7,none⟩ (v 7))=Wf at*
 clear hS
 have hi:(prog.info? 35).map (·.size)=some tg.size:=by rw[HTZ.o];kernel_rfl
 have HF:=hH hBf
 have HKF:=hH hKf
 have HRF:=hH (hRf)
 clear hBf hKf hRf
 have HI:=hH hi
 clear hi
 go_wp2_with (first|refine wpList_load_row rfl 35 (.tmp 3) rfl g3 rfl 35 tg (0,0) _ HF.o underlying35 rfl HI.o ?_|refine wpList_store_row rfl 35 (.tmp 2) (.tmp 96) rfl (w.heap.size+1) tg rfl rfl 35 (zero35 0 0 (.slice none 0 0)) HRF.o HI.o HTZ.o.symm (by rw[HTG.o];exact one19 _ (by have h:=HSL.o;simp only[zz,zero35,List.all_toArray,List.all_cons,List.all_nil,h];rfl)) ?_)
 (try simp only[Exit.inBlock,Exit.then])
 refine bodyPost_ret (v:=.agg tg) ?_ rfl ?_
 ·exact zM1
 ·have hkept:kept p={zeroP p.kind p.version p.props with dup:=p.dup,retain:=p.retain,qos:=p.qos,id:=p.id,topic:=p.topic,payload:=p.payload}:=by unfold kept;simp only[HKI.o];rfl
  have hkk:Keeps [] w (Wf.setRow (w.heap.size+1) tg):=(HK2.o.trans HKF.o (by simp;have:=HG3.o;omega)).trans (keeps_setRow _ _ _) (by simp)
  rw[hkept]
  refine⟨fun j=>if j=7∨j=20 then v j else .slice none 0 0,?_,?_,hkk⟩
  ·rw[HTG.o]
   exact zM2
  ·have h:=HM.o.keep hkk (by simp)
   exact⟨h.m7,⟨[],SlAt.none_ _ _ _,by simp[zeroP]⟩,⟨[],SlAt.none_ _ _ _,by simp[zeroP]⟩,⟨[],SlAt.none_ _ _ _,by simp[zeroP]⟩,SlAt.none_ _ _ _,SlAt.none_ _ _ _,h.m20⟩
theorem kept4_c (N:Nat→Prop) (w:World) (p:PkV) (v:Nat→Value) (hm:PkMem N w p v) (hk:p.kind=4∨p.kind=5∨p.kind=6∨p.kind=7):
 Calls prog 19 #[.agg (p.sells v)] w (PkOut w N (kept p)):=by
 rcases hk with hk|hk|hk|hk
 all_goals
 obtain⟨W1,hW1⟩:∃W1,(w.alloc (.cells (p.sells v) 35)).alloc (.cells (zero35 0 0 (.slice none 0 0)) 35)=W1:=⟨_,rfl⟩
 have HK1:Hd (Keeps [] w W1):=by rw[←hW1];exact(Keeps.alloc _ _).trans (Keeps.alloc _ _) (by simp)
 have HBP:Hd (Blk W1 w.heap.size 35 (p.sells v)):=by rw[←hW1];exact(Blk.new _ _ _).alloc _
 have HBR:Hd (Blk W1 (w.heap.size+1) 35 (zero35 0 0 (.slice none 0 0))):=by rw[←hW1];have h:=Blk.new (w.alloc (.cells (p.sells v) 35)) 35 (zero35 0 0 (.slice none 0 0));rwa [World.size_alloc] at h
 have HS1:Hd (W1.heap.size=w.heap.size+2):=by rw[←hW1];show _=_;simp
 have HW1:=hH hW1
 have HSL:=hH (PkMem.sl hm)
 obtain⟨A20,c20,e20,_⟩:=hm.m20
 have E20:=hH e20
 clear e20
 clear hW1
 have c0:W1.cell? ⟨w.heap.size,0,none⟩=some (.int .i64 p.kind):=by rw[HBP.o.cell];rfl
 have c1:W1.cell? ⟨w.heap.size,1,none⟩=some (.int .i64 p.version):=by rw[HBP.o.cell];rfl
 have c18:W1.cell? ⟨w.heap.size,18,none⟩=some (.slice A20 p.props.length c20):=by rw[HBP.o.cell,←E20.o];rfl
 have HM:=hH hm
 have HKI:=hH hk
 obtain⟨h1,h2,h3,h4,h5,h6,h7,h8,h10,h9,h11,h14,h15⟩:=eqs hk
 clear hm hk
 go_enter func19,ntmps19
 go_upto_region 1 with fail
 have hw1:=HW1.o
 unfold zero35 at hw1
 rw[hw1]
 clear hw1
 have hi:(prog.info? 35).map (·.size)=some 19:=by kernel_rfl
 refine wp_region_lit ?_
 iterate 24 go_step
 refine wpList_store_row rfl 35 (.tmp 3) (.tmp 10) rfl W1.heap.size (zz p c20 A20) (by rfl) (by rfl) 35 _ (Blk.new _ _ _) hi rfl (zz_one p c20 A20) ?_
 rw[World.setRow_alloc_new]
 have HB3:=hH (Blk.new W1 35 (zz p c20 A20))
 have HP2:=hH (HBP.o.alloc (.cells (zz p c20 A20) 35))
 have HR2:=hH (HBR.o.alloc (.cells (zz p c20 A20) 35))
 have HK2:=hH (HK1.o.trans (Keeps.alloc W1 (.cells (zz p c20 A20) 35)) (by simp))
 have hz2:(W1.alloc (.cells (zz p c20 A20) 35)).heap.size=w.heap.size+3:=by rw[World.size_alloc,HS1.o]
 have hg3:=HS1.o
 generalize W1.alloc (.cells (zz p c20 A20) 35)=W2 at*
 generalize W1.heap.size=g3 at*
 clear c0 c1 c18 HBP HBR HW1 HK1 HS1 hi
 have HG3:=hH hg3
 have HZ2:=hH hz2
 clear hg3 hz2
 have c0:W2.cell? ⟨w.heap.size,0,none⟩=some (.int .i64 p.kind):=by rw[HP2.o.cell];rfl
 have c1:W2.cell? ⟨w.heap.size,1,none⟩=some (.int .i64 p.version):=by rw[HP2.o.cell];rfl
 have c5:W2.cell? ⟨w.heap.size,5,none⟩=some (.int .i64 p.id):=by rw[HP2.o.cell];rfl
 have c15:W2.cell? ⟨w.heap.size,15,none⟩=some (.int .i64 p.code):=by rw[HP2.o.cell];rfl
 have c18:W2.cell? ⟨w.heap.size,18,none⟩=some (.slice A20 p.props.length c20):=by rw[HP2.o.cell];rw[←E20.o];rfl
 obtain⟨tg,htg⟩:∃tg:Array Value,tg=#[.int .i64 p.kind,.int .i64 p.version,.bool false,.bool false,.int .i64 0,.int .i64 p.id,.string ⟨#[]⟩,.slice none 0 0,.string ⟨#[]⟩,.bool false,.int .i64 0,.slice none 0 0,.slice none 0 0,.slice none 0 0,.bool false,.int .i64 p.code,.slice none 0 0,.slice none 0 0,.slice A20 p.props.length c20]:=⟨_,rfl⟩
 have HTG:=hH htg
 have HTZ:Hd (tg.size=19):=by show _=_;rw[htg];rfl
 clear htg
 refine wpList_nil ?_
 simp only[Act.put,s1,s2,s3]
 go_upto_region 13 with fail
 have hS:∀w',Keeps [g3] W2 w'→(w'.cell? ⟨w.heap.size,5,none⟩=some (.int .i64 p.id)∧w'.cell? ⟨w.heap.size,15,none⟩=some (.int .i64 p.code)):=fun w' k=>⟨(HP2.o.keep k (by simp;have:=HG3.o;omega)).cell 5,(HP2.o.keep k (by simp;have:=HG3.o;omega)).cell 15⟩
 refine tkSt hS ((Keeps.drew W2).mono (by simp)) (by kernel_rfl) fun hHeld=>?_
 simp only[s4,s5,Nat.reduceAdd,s6,s7]
 repeat((first|refine tkx ?_|refine tku ?_);simp only[setN,Act.put,s1,s2,s3])
 refine tkc fun K hK=>?_
 refine wp_one (gg:=g3) (off:=5) (v:=.int .i64 p.id) (HB3.o.drew) (by simp) 3 (.tmp 70) (.tmp 67) rfl rfl rfl (by kernel_rfl) (rfl) ?_
 refine hK.out _ _ (hS _ (((Keeps.drew W2).mono (by simp)).trans (Keeps.setCell _ ⟨g3,5,none⟩ (.int .i64 p.id)) (by simp))) (fun hHeld=>?_)
 clear hK K
 simp only[setN,Act.put,s1,s2,s3]
 repeat((first|refine tkx ?_|refine tku ?_);simp only[setN,Act.put,s1,s2,s3])
 refine tkc fun K hK=>?_
 refine wp_one (gg:=g3) (off:=15) (v:=.int .i64 p.code) ((HB3.o.drew).set_ 5 (.int .i64 p.id)) (by simp) 3 (.tmp 71) (.tmp 69) rfl rfl rfl (by kernel_rfl) (rfl) ?_
 refine hK.out _ _ (hS _ ((((Keeps.drew W2).mono (by simp)).trans (Keeps.setCell _ ⟨g3,5,none⟩ (.int .i64 p.id)) (by simp)).trans (Keeps.setCell _ ⟨g3,15,none⟩ (.int .i64 p.code)) (by simp))) (fun hHeld=>?_)
 clear hK K
 simp only[setN,Act.put,s1,s2,s3]
 refine tkDone (by kernel_rfl) ?_
 have hKf:Keeps [g3] W2 ((W2.drew.setCell ⟨g3,5,none⟩ (.int .i64 p.id)).setCell ⟨g3,15,none⟩ (.int .i64 p.code)):=((((Keeps.drew W2).mono (by simp)).trans (Keeps.setCell _ ⟨g3,5,none⟩ (.int .i64 p.id)) (by simp)).trans (Keeps.setCell _ ⟨g3,15,none⟩ (.int .i64 p.code)) (by simp))
 have hBf:Blk ((W2.drew.setCell ⟨g3,5,none⟩ (.int .i64 p.id)).setCell ⟨g3,15,none⟩ (.int .i64 p.code)) g3 35 tg:=by rw[HTG.o];exact((HB3.o.drew).set_ 5 (.int .i64 p.id)).set_ 15 (.int .i64 p.code)
 have hRf:Blk ((W2.drew.setCell ⟨g3,5,none⟩ (.int .i64 p.id)).setCell ⟨g3,15,none⟩ (.int .i64 p.code)) (w.heap.size+1) 35 (zero35 0 0 (.slice none 0 0)):=HR2.o.keep hKf (by simp;have:=HG3.o;omega)
 generalize ((W2.drew.setCell ⟨g3,5,none⟩ (.int .i64 p.id)).setCell ⟨g3,15,none⟩ (.int .i64 p.code))=Wf at*
 clear hS
 have hi:(prog.info? 35).map (·.size)=some tg.size:=by rw[HTZ.o];kernel_rfl
 have HF:=hH hBf
 have HKF:=hH hKf
 have HRF:=hH (hRf)
 clear hBf hKf hRf
 have HI:=hH hi
 clear hi
 go_wp2_with (first|refine wpList_load_row rfl 35 (.tmp 3) rfl g3 rfl 35 tg (0,0) _ HF.o underlying35 rfl HI.o ?_|refine wpList_store_row rfl 35 (.tmp 2) (.tmp 96) rfl (w.heap.size+1) tg rfl rfl 35 (zero35 0 0 (.slice none 0 0)) HRF.o HI.o HTZ.o.symm (by rw[HTG.o];exact one19 _ (by have h:=HSL.o;simp only[zz,zero35,List.all_toArray,List.all_cons,List.all_nil,h];rfl)) ?_)
 (try simp only[Exit.inBlock,Exit.then])
 refine bodyPost_ret (v:=.agg tg) ?_ rfl ?_
 ·exact zM1
 ·have hkept:kept p={zeroP p.kind p.version p.props with id:=p.id,code:=p.code}:=by unfold kept;simp only[HKI.o];rfl
  exact zM0
theorem kept8_c (N:Nat→Prop) (w:World) (p:PkV) (v:Nat→Value) (hm:PkMem N w p v) (hk:p.kind=8∨p.kind=10):
 Calls prog 19 #[.agg (p.sells v)] w (PkOut w N (kept p)):=by
 rcases hk with hk|hk
 all_goals
 obtain⟨W1,hW1⟩:∃W1,(w.alloc (.cells (p.sells v) 35)).alloc (.cells (zero35 0 0 (.slice none 0 0)) 35)=W1:=⟨_,rfl⟩
 have HK1:Hd (Keeps [] w W1):=by rw[←hW1];exact(Keeps.alloc _ _).trans (Keeps.alloc _ _) (by simp)
 have HBP:Hd (Blk W1 w.heap.size 35 (p.sells v)):=by rw[←hW1];exact(Blk.new _ _ _).alloc _
 have HBR:Hd (Blk W1 (w.heap.size+1) 35 (zero35 0 0 (.slice none 0 0))):=by rw[←hW1];have h:=Blk.new (w.alloc (.cells (p.sells v) 35)) 35 (zero35 0 0 (.slice none 0 0));rwa [World.size_alloc] at h
 have HS1:Hd (W1.heap.size=w.heap.size+2):=by rw[←hW1];show _=_;simp
 have HW1:=hH hW1
 have HSL:=hH (PkMem.sl hm)
 obtain⟨A20,c20,e20,_⟩:=hm.m20
 have E20:=hH e20
 clear e20
 clear hW1
 have c0:W1.cell? ⟨w.heap.size,0,none⟩=some (.int .i64 p.kind):=by rw[HBP.o.cell];rfl
 have c1:W1.cell? ⟨w.heap.size,1,none⟩=some (.int .i64 p.version):=by rw[HBP.o.cell];rfl
 have c18:W1.cell? ⟨w.heap.size,18,none⟩=some (.slice A20 p.props.length c20):=by rw[HBP.o.cell,←E20.o];rfl
 have HM:=hH hm
 have HKI:=hH hk
 obtain⟨h1,h2,h3,h4,h5,h6,h7,h8,h10,h9,h11,h14,h15⟩:=eqs hk
 clear hm hk
 go_enter func19,ntmps19
 go_upto_region 1 with fail
 have hw1:=HW1.o
 unfold zero35 at hw1
 rw[hw1]
 clear hw1
 have hi:(prog.info? 35).map (·.size)=some 19:=by kernel_rfl
 refine wp_region_lit ?_
 iterate 24 go_step
 refine wpList_store_row rfl 35 (.tmp 3) (.tmp 10) rfl W1.heap.size (zz p c20 A20) (by rfl) (by rfl) 35 _ (Blk.new _ _ _) hi rfl (zz_one p c20 A20) ?_
 rw[World.setRow_alloc_new]
 have HB3:=hH (Blk.new W1 35 (zz p c20 A20))
 have HP2:=hH (HBP.o.alloc (.cells (zz p c20 A20) 35))
 have HR2:=hH (HBR.o.alloc (.cells (zz p c20 A20) 35))
 have HK2:=hH (HK1.o.trans (Keeps.alloc W1 (.cells (zz p c20 A20) 35)) (by simp))
 have hz2:(W1.alloc (.cells (zz p c20 A20) 35)).heap.size=w.heap.size+3:=by rw[World.size_alloc,HS1.o]
 have hg3:=HS1.o
 generalize W1.alloc (.cells (zz p c20 A20) 35)=W2 at*
 generalize W1.heap.size=g3 at*
 clear c0 c1 c18 HBP HBR HW1 HK1 HS1 hi
 have HG3:=hH hg3
 have HZ2:=hH hz2
 clear hg3 hz2
 have c0:W2.cell? ⟨w.heap.size,0,none⟩=some (.int .i64 p.kind):=by rw[HP2.o.cell];rfl
 have c1:W2.cell? ⟨w.heap.size,1,none⟩=some (.int .i64 p.version):=by rw[HP2.o.cell];rfl
 have c5:W2.cell? ⟨w.heap.size,5,none⟩=some (.int .i64 p.id):=by rw[HP2.o.cell];rfl
 have c17:W2.cell? ⟨w.heap.size,17,none⟩=some (v 19):=by rw[HP2.o.cell];rfl
 have c18:W2.cell? ⟨w.heap.size,18,none⟩=some (.slice A20 p.props.length c20):=by rw[HP2.o.cell];rw[←E20.o];rfl
 obtain⟨tg,htg⟩:∃tg:Array Value,tg=#[.int .i64 p.kind,.int .i64 p.version,.bool false,.bool false,.int .i64 0,.int .i64 p.id,.string ⟨#[]⟩,.slice none 0 0,.string ⟨#[]⟩,.bool false,.int .i64 0,.slice none 0 0,.slice none 0 0,.slice none 0 0,.bool false,.int .i64 0,.slice none 0 0,v 19,.slice A20 p.props.length c20]:=⟨_,rfl⟩
 have HTG:=hH htg
 have HTZ:Hd (tg.size=19):=by show _=_;rw[htg];rfl
 clear htg
 refine wpList_nil ?_
 simp only[Act.put,s1,s2,s3]
 go_upto_region 16 with fail
 have hS:∀w',Keeps [g3] W2 w'→(w'.cell? ⟨w.heap.size,5,none⟩=some (.int .i64 p.id)∧w'.cell? ⟨w.heap.size,17,none⟩=some (v 19)):=fun w' k=>⟨(HP2.o.keep k (by simp;have:=HG3.o;omega)).cell 5,(HP2.o.keep k (by simp;have:=HG3.o;omega)).cell 17⟩
 refine tkSt hS ((Keeps.drew W2).mono (by simp)) (by kernel_rfl) fun hHeld=>?_
 simp only[s4,s5,Nat.reduceAdd,s6,s7]
 repeat((first|refine tkx ?_|refine tku ?_);simp only[setN,Act.put,s1,s2,s3])
 refine tkc fun K hK=>?_
 refine wp_one (gg:=g3) (off:=5) (v:=.int .i64 p.id) (HB3.o.drew) (by simp) 3 (.tmp 79) (.tmp 76) rfl rfl rfl (by kernel_rfl) (rfl) ?_
 refine hK.out _ _ (hS _ (((Keeps.drew W2).mono (by simp)).trans (Keeps.setCell _ ⟨g3,5,none⟩ (.int .i64 p.id)) (by simp))) (fun hHeld=>?_)
 clear hK K
 simp only[setN,Act.put,s1,s2,s3]
 repeat((first|refine tkx ?_|refine tku ?_);simp only[setN,Act.put,s1,s2,s3])
 refine tkc fun K hK=>?_
 refine wp_one (gg:=g3) (off:=17) (v:=v 19) ((HB3.o.drew).set_ 5 (.int .i64 p.id)) (by simp) 32 (.tmp 80) (.tmp 78) rfl rfl rfl (by kernel_rfl) (HSL.o.2.2.2.2.2.1) ?_
 refine hK.out _ _ (hS _ ((((Keeps.drew W2).mono (by simp)).trans (Keeps.setCell _ ⟨g3,5,none⟩ (.int .i64 p.id)) (by simp)).trans (Keeps.setCell _ ⟨g3,17,none⟩ (v 19)) (by simp))) (fun hHeld=>?_)
 clear hK K
 simp only[setN,Act.put,s1,s2,s3]
 refine tkDone (by kernel_rfl) ?_
 have hKf:Keeps [g3] W2 ((W2.drew.setCell ⟨g3,5,none⟩ (.int .i64 p.id)).setCell ⟨g3,17,none⟩ (v 19)):=((((Keeps.drew W2).mono (by simp)).trans (Keeps.setCell _ ⟨g3,5,none⟩ (.int .i64 p.id)) (by simp)).trans (Keeps.setCell _ ⟨g3,17,none⟩ (v 19)) (by simp))
 have hBf:Blk ((W2.drew.setCell ⟨g3,5,none⟩ (.int .i64 p.id)).setCell ⟨g3,17,none⟩ (v 19)) g3 35 tg:=by rw[HTG.o];exact((HB3.o.drew).set_ 5 (.int .i64 p.id)).set_ 17 (v 19)
 have hRf:Blk ((W2.drew.setCell ⟨g3,5,none⟩ (.int .i64 p.id)).setCell ⟨g3,17,none⟩ (v 19)) (w.heap.size+1) 35 (zero35 0 0 (.slice none 0 0)):=HR2.o.keep hKf (by simp;have:=HG3.o;omega)
 generalize ((W2.drew.setCell ⟨g3,5,none⟩ (.int .i64 p.id)).setCell ⟨g3,17,none⟩ (v 19))=Wf at*
 clear hS
 have hi:(prog.info? 35).map (·.size)=some tg.size:=by rw[HTZ.o];kernel_rfl
 have HF:=hH hBf
 have HKF:=hH hKf
 have HRF:=hH (hRf)
 clear hBf hKf hRf
 have HI:=hH hi
 clear hi
 go_wp2_with (first|refine wpList_load_row rfl 35 (.tmp 3) rfl g3 rfl 35 tg (0,0) _ HF.o underlying35 rfl HI.o ?_|refine wpList_store_row rfl 35 (.tmp 2) (.tmp 96) rfl (w.heap.size+1) tg rfl rfl 35 (zero35 0 0 (.slice none 0 0)) HRF.o HI.o HTZ.o.symm (by rw[HTG.o];exact one19 _ (by have h:=HSL.o;simp only[zz,zero35,List.all_toArray,List.all_cons,List.all_nil,h];rfl)) ?_)
 (try simp only[Exit.inBlock,Exit.then])
 refine bodyPost_ret (v:=.agg tg) ?_ rfl ?_
 ·exact zM1
 ·have hkept:kept p={zeroP p.kind p.version p.props with id:=p.id,subs:=p.subs}:=by unfold kept;simp only[HKI.o];rfl
  have hkk:Keeps [] w (Wf.setRow (w.heap.size+1) tg):=(HK2.o.trans HKF.o (by simp;have:=HG3.o;omega)).trans (keeps_setRow _ _ _) (by simp)
  rw[hkept]
  refine⟨fun j=>if j=19∨j=20 then v j else .slice none 0 0,?_,?_,hkk⟩
  ·rw[HTG.o]
   exact zM2
  ·have h:=HM.o.keep hkk (by simp)
   exact⟨SlAt.none_ _ _ _,⟨[],SlAt.none_ _ _ _,by simp[zeroP]⟩,⟨[],SlAt.none_ _ _ _,by simp[zeroP]⟩,⟨[],SlAt.none_ _ _ _,by simp[zeroP]⟩,SlAt.none_ _ _ _,h.m19,h.m20⟩
theorem kept9_c (N:Nat→Prop) (w:World) (p:PkV) (v:Nat→Value) (hm:PkMem N w p v) (hk:p.kind=9∨p.kind=11):
 Calls prog 19 #[.agg (p.sells v)] w (PkOut w N (kept p)):=by
 rcases hk with hk|hk
 all_goals
 obtain⟨W1,hW1⟩:∃W1,(w.alloc (.cells (p.sells v) 35)).alloc (.cells (zero35 0 0 (.slice none 0 0)) 35)=W1:=⟨_,rfl⟩
 have HK1:Hd (Keeps [] w W1):=by rw[←hW1];exact(Keeps.alloc _ _).trans (Keeps.alloc _ _) (by simp)
 have HBP:Hd (Blk W1 w.heap.size 35 (p.sells v)):=by rw[←hW1];exact(Blk.new _ _ _).alloc _
 have HBR:Hd (Blk W1 (w.heap.size+1) 35 (zero35 0 0 (.slice none 0 0))):=by rw[←hW1];have h:=Blk.new (w.alloc (.cells (p.sells v) 35)) 35 (zero35 0 0 (.slice none 0 0));rwa [World.size_alloc] at h
 have HS1:Hd (W1.heap.size=w.heap.size+2):=by rw[←hW1];show _=_;simp
 have HW1:=hH hW1
 have HSL:=hH (PkMem.sl hm)
 obtain⟨A20,c20,e20,_⟩:=hm.m20
 have E20:=hH e20
 clear e20
 clear hW1
 have c0:W1.cell? ⟨w.heap.size,0,none⟩=some (.int .i64 p.kind):=by rw[HBP.o.cell];rfl
 have c1:W1.cell? ⟨w.heap.size,1,none⟩=some (.int .i64 p.version):=by rw[HBP.o.cell];rfl
 have c18:W1.cell? ⟨w.heap.size,18,none⟩=some (.slice A20 p.props.length c20):=by rw[HBP.o.cell,←E20.o];rfl
 have HM:=hH hm
 have HKI:=hH hk
 obtain⟨h1,h2,h3,h4,h5,h6,h7,h8,h10,h9,h11,h14,h15⟩:=eqs hk
 clear hm hk
 go_enter func19,ntmps19
 go_upto_region 1 with fail
 have hw1:=HW1.o
 unfold zero35 at hw1
 rw[hw1]
 clear hw1
 have hi:(prog.info? 35).map (·.size)=some 19:=by kernel_rfl
 refine wp_region_lit ?_
 iterate 24 go_step
 refine wpList_store_row rfl 35 (.tmp 3) (.tmp 10) rfl W1.heap.size (zz p c20 A20) (by rfl) (by rfl) 35 _ (Blk.new _ _ _) hi rfl (zz_one p c20 A20) ?_
 rw[World.setRow_alloc_new]
 have HB3:=hH (Blk.new W1 35 (zz p c20 A20))
 have HP2:=hH (HBP.o.alloc (.cells (zz p c20 A20) 35))
 have HR2:=hH (HBR.o.alloc (.cells (zz p c20 A20) 35))
 have HK2:=hH (HK1.o.trans (Keeps.alloc W1 (.cells (zz p c20 A20) 35)) (by simp))
 have hz2:(W1.alloc (.cells (zz p c20 A20) 35)).heap.size=w.heap.size+3:=by rw[World.size_alloc,HS1.o]
 have hg3:=HS1.o
 generalize W1.alloc (.cells (zz p c20 A20) 35)=W2 at*
 generalize W1.heap.size=g3 at*
 clear c0 c1 c18 HBP HBR HW1 HK1 HS1 hi
 have HG3:=hH hg3
 have HZ2:=hH hz2
 clear hg3 hz2
 have c0:W2.cell? ⟨w.heap.size,0,none⟩=some (.int .i64 p.kind):=by rw[HP2.o.cell];rfl
 have c1:W2.cell? ⟨w.heap.size,1,none⟩=some (.int .i64 p.version):=by rw[HP2.o.cell];rfl
 have c5:W2.cell? ⟨w.heap.size,5,none⟩=some (.int .i64 p.id):=by rw[HP2.o.cell];rfl
 have c16:W2.cell? ⟨w.heap.size,16,none⟩=some (v 18):=by rw[HP2.o.cell];rfl
 have c18:W2.cell? ⟨w.heap.size,18,none⟩=some (.slice A20 p.props.length c20):=by rw[HP2.o.cell];rw[←E20.o];rfl
 obtain⟨tg,htg⟩:∃tg:Array Value,tg=#[.int .i64 p.kind,.int .i64 p.version,.bool false,.bool false,.int .i64 0,.int .i64 p.id,.string ⟨#[]⟩,.slice none 0 0,.string ⟨#[]⟩,.bool false,.int .i64 0,.slice none 0 0,.slice none 0 0,.slice none 0 0,.bool false,.int .i64 0,v 18,.slice none 0 0,.slice A20 p.props.length c20]:=⟨_,rfl⟩
 have HTG:=hH htg
 have HTZ:Hd (tg.size=19):=by show _=_;rw[htg];rfl
 clear htg
 refine wpList_nil ?_
 simp only[Act.put,s1,s2,s3]
 go_upto_region 19 with fail
 have hS:∀w',Keeps [g3] W2 w'→(w'.cell? ⟨w.heap.size,5,none⟩=some (.int .i64 p.id)∧w'.cell? ⟨w.heap.size,16,none⟩=some (v 18)):=fun w' k=>⟨(HP2.o.keep k (by simp;have:=HG3.o;omega)).cell 5,(HP2.o.keep k (by simp;have:=HG3.o;omega)).cell 16⟩
 refine tkSt hS ((Keeps.drew W2).mono (by simp)) (by kernel_rfl) fun hHeld=>?_
 simp only[s4,s5,Nat.reduceAdd,s6,s7]
 repeat((first|refine tkx ?_|refine tku ?_);simp only[setN,Act.put,s1,s2,s3])
 refine tkc fun K hK=>?_
 refine wp_one (gg:=g3) (off:=5) (v:=.int .i64 p.id) (HB3.o.drew) (by simp) 3 (.tmp 88) (.tmp 85) rfl rfl rfl (by kernel_rfl) (rfl) ?_
 refine hK.out _ _ (hS _ (((Keeps.drew W2).mono (by simp)).trans (Keeps.setCell _ ⟨g3,5,none⟩ (.int .i64 p.id)) (by simp))) (fun hHeld=>?_)
 clear hK K
 simp only[setN,Act.put,s1,s2,s3]
 repeat((first|refine tkx ?_|refine tku ?_);simp only[setN,Act.put,s1,s2,s3])
 refine tkc fun K hK=>?_
 refine wp_one (gg:=g3) (off:=16) (v:=v 18) ((HB3.o.drew).set_ 5 (.int .i64 p.id)) (by simp) 25 (.tmp 89) (.tmp 87) rfl rfl rfl (by kernel_rfl) (HSL.o.2.2.2.2.1) ?_
 refine hK.out _ _ (hS _ ((((Keeps.drew W2).mono (by simp)).trans (Keeps.setCell _ ⟨g3,5,none⟩ (.int .i64 p.id)) (by simp)).trans (Keeps.setCell _ ⟨g3,16,none⟩ (v 18)) (by simp))) (fun hHeld=>?_)
 clear hK K
 simp only[setN,Act.put,s1,s2,s3]
 refine tkDone (by kernel_rfl) ?_
 have hKf:Keeps [g3] W2 ((W2.drew.setCell ⟨g3,5,none⟩ (.int .i64 p.id)).setCell ⟨g3,16,none⟩ (v 18)):=((((Keeps.drew W2).mono (by simp)).trans (Keeps.setCell _ ⟨g3,5,none⟩ (.int .i64 p.id)) (by simp)).trans (Keeps.setCell _ ⟨g3,16,none⟩ (v 18)) (by simp))
 have hBf:Blk ((W2.drew.setCell ⟨g3,5,none⟩ (.int .i64 p.id)).setCell ⟨g3,16,none⟩ (v 18)) g3 35 tg:=by rw[HTG.o];exact((HB3.o.drew).set_ 5 (.int .i64 p.id)).set_ 16 (v 18)
 have hRf:Blk ((W2.drew.setCell ⟨g3,5,none⟩ (.int .i64 p.id)).setCell ⟨g3,16,none⟩ (v 18)) (w.heap.size+1) 35 (zero35 0 0 (.slice none 0 0)):=HR2.o.keep hKf (by simp;have:=HG3.o;omega)
 generalize ((W2.drew.setCell ⟨g3,5,none⟩ (.int .i64 p.id)).setCell ⟨g3,16,none⟩ (v 18))=Wf at*
 clear hS
 have hi:(prog.info? 35).map (·.size)=some tg.size:=by rw[HTZ.o];kernel_rfl
 have HF:=hH hBf
 have HKF:=hH hKf
 have HRF:=hH (hRf)
 clear hBf hKf hRf
 have HI:=hH hi
 clear hi
 go_wp2_with (first|refine wpList_load_row rfl 35 (.tmp 3) rfl g3 rfl 35 tg (0,0) _ HF.o underlying35 rfl HI.o ?_|refine wpList_store_row rfl 35 (.tmp 2) (.tmp 96) rfl (w.heap.size+1) tg rfl rfl 35 (zero35 0 0 (.slice none 0 0)) HRF.o HI.o HTZ.o.symm (by rw[HTG.o];exact one19 _ (by have h:=HSL.o;simp only[zz,zero35,List.all_toArray,List.all_cons,List.all_nil,h];rfl)) ?_)
 (try simp only[Exit.inBlock,Exit.then])
 refine bodyPost_ret (v:=.agg tg) ?_ rfl ?_
 ·exact zM1
 ·have hkept:kept p={zeroP p.kind p.version p.props with id:=p.id,codes:=p.codes}:=by unfold kept;simp only[HKI.o];rfl
  have hkk:Keeps [] w (Wf.setRow (w.heap.size+1) tg):=(HK2.o.trans HKF.o (by simp;have:=HG3.o;omega)).trans (keeps_setRow _ _ _) (by simp)
  rw[hkept]
  refine⟨fun j=>if j=18∨j=20 then v j else .slice none 0 0,?_,?_,hkk⟩
  ·rw[HTG.o]
   exact zM2
  ·have h:=HM.o.keep hkk (by simp)
   exact⟨SlAt.none_ _ _ _,⟨[],SlAt.none_ _ _ _,by simp[zeroP]⟩,⟨[],SlAt.none_ _ _ _,by simp[zeroP]⟩,⟨[],SlAt.none_ _ _ _,by simp[zeroP]⟩,h.m18,SlAt.none_ _ _ _,h.m20⟩
theorem kept14_c (N:Nat→Prop) (w:World) (p:PkV) (v:Nat→Value) (hm:PkMem N w p v) (hk:p.kind=14∨p.kind=15):
 Calls prog 19 #[.agg (p.sells v)] w (PkOut w N (kept p)):=by
 rcases hk with hk|hk
 all_goals
 obtain⟨W1,hW1⟩:∃W1,(w.alloc (.cells (p.sells v) 35)).alloc (.cells (zero35 0 0 (.slice none 0 0)) 35)=W1:=⟨_,rfl⟩
 have HK1:Hd (Keeps [] w W1):=by rw[←hW1];exact(Keeps.alloc _ _).trans (Keeps.alloc _ _) (by simp)
 have HBP:Hd (Blk W1 w.heap.size 35 (p.sells v)):=by rw[←hW1];exact(Blk.new _ _ _).alloc _
 have HBR:Hd (Blk W1 (w.heap.size+1) 35 (zero35 0 0 (.slice none 0 0))):=by rw[←hW1];have h:=Blk.new (w.alloc (.cells (p.sells v) 35)) 35 (zero35 0 0 (.slice none 0 0));rwa [World.size_alloc] at h
 have HS1:Hd (W1.heap.size=w.heap.size+2):=by rw[←hW1];show _=_;simp
 have HW1:=hH hW1
 have HSL:=hH (PkMem.sl hm)
 obtain⟨A20,c20,e20,_⟩:=hm.m20
 have E20:=hH e20
 clear e20
 clear hW1
 have c0:W1.cell? ⟨w.heap.size,0,none⟩=some (.int .i64 p.kind):=by rw[HBP.o.cell];rfl
 have c1:W1.cell? ⟨w.heap.size,1,none⟩=some (.int .i64 p.version):=by rw[HBP.o.cell];rfl
 have c18:W1.cell? ⟨w.heap.size,18,none⟩=some (.slice A20 p.props.length c20):=by rw[HBP.o.cell,←E20.o];rfl
 have HM:=hH hm
 have HKI:=hH hk
 obtain⟨h1,h2,h3,h4,h5,h6,h7,h8,h10,h9,h11,h14,h15⟩:=eqs hk
 clear hm hk
 go_enter func19,ntmps19
 go_upto_region 1 with fail
 have hw1:=HW1.o
 unfold zero35 at hw1
 rw[hw1]
 clear hw1
 have hi:(prog.info? 35).map (·.size)=some 19:=by kernel_rfl
 refine wp_region_lit ?_
 iterate 24 go_step
 refine wpList_store_row rfl 35 (.tmp 3) (.tmp 10) rfl W1.heap.size (zz p c20 A20) (by rfl) (by rfl) 35 _ (Blk.new _ _ _) hi rfl (zz_one p c20 A20) ?_
 rw[World.setRow_alloc_new]
 have HB3:=hH (Blk.new W1 35 (zz p c20 A20))
 have HP2:=hH (HBP.o.alloc (.cells (zz p c20 A20) 35))
 have HR2:=hH (HBR.o.alloc (.cells (zz p c20 A20) 35))
 have HK2:=hH (HK1.o.trans (Keeps.alloc W1 (.cells (zz p c20 A20) 35)) (by simp))
 have hz2:(W1.alloc (.cells (zz p c20 A20) 35)).heap.size=w.heap.size+3:=by rw[World.size_alloc,HS1.o]
 have hg3:=HS1.o
 generalize W1.alloc (.cells (zz p c20 A20) 35)=W2 at*
 generalize W1.heap.size=g3 at*
 clear c0 c1 c18 HBP HBR HW1 HK1 HS1 hi
 have HG3:=hH hg3
 have HZ2:=hH hz2
 clear hg3 hz2
 have c0:W2.cell? ⟨w.heap.size,0,none⟩=some (.int .i64 p.kind):=by rw[HP2.o.cell];rfl
 have c1:W2.cell? ⟨w.heap.size,1,none⟩=some (.int .i64 p.version):=by rw[HP2.o.cell];rfl
 have c15:W2.cell? ⟨w.heap.size,15,none⟩=some (.int .i64 p.code):=by rw[HP2.o.cell];rfl
 have c18:W2.cell? ⟨w.heap.size,18,none⟩=some (.slice A20 p.props.length c20):=by rw[HP2.o.cell];rw[←E20.o];rfl
 obtain⟨tg,htg⟩:∃tg:Array Value,tg=#[.int .i64 p.kind,.int .i64 p.version,.bool false,.bool false,.int .i64 0,.int .i64 0,.string ⟨#[]⟩,.slice none 0 0,.string ⟨#[]⟩,.bool false,.int .i64 0,.slice none 0 0,.slice none 0 0,.slice none 0 0,.bool false,.int .i64 p.code,.slice none 0 0,.slice none 0 0,.slice A20 p.props.length c20]:=⟨_,rfl⟩
 have HTG:=hH htg
 have HTZ:Hd (tg.size=19):=by show _=_;rw[htg];rfl
 clear htg
 refine wpList_nil ?_
 simp only[Act.put,s1,s2,s3]
 have f15:W2.frozen? ⟨g3,15,none⟩=false:=HB3.o.frozen _
 have d15:W2.cell? ⟨g3,15,none⟩=some (.int .i64 0):=by rw[HB3.o.cell];rfl
 go_upto_region 23 with fail
 have hBf:Blk (W2.setCell ⟨g3,15,none⟩ (.int .i64 p.code)) g3 35 tg:=by rw[HTG.o];exact HB3.o.set_ 15 _
 have hKf:Keeps [g3] W2 (W2.setCell ⟨g3,15,none⟩ (.int .i64 p.code)):=Keeps.setCell W2 ⟨g3,15,none⟩ _
 have hRf:Blk (W2.setCell ⟨g3,15,none⟩ (.int .i64 p.code)) (w.heap.size+1) 35 (zero35 0 0 (.slice none 0 0)):=HR2.o.keep hKf (by simp;have:=HG3.o;omega)
 generalize W2.setCell ⟨g3,15,none⟩ (.int .i64 p.code)=Wf at*
 clear f15 d15
 have hi:(prog.info? 35).map (·.size)=some tg.size:=by rw[HTZ.o];kernel_rfl
 have HF:=hH hBf
 have HKF:=hH hKf
 have HRF:=hH (hRf)
 clear hBf hKf hRf
 have HI:=hH hi
 clear hi
 go_wp2_with (first|refine wpList_load_row rfl 35 (.tmp 3) rfl g3 rfl 35 tg (0,0) _ HF.o underlying35 rfl HI.o ?_|refine wpList_store_row rfl 35 (.tmp 2) (.tmp 96) rfl (w.heap.size+1) tg rfl rfl 35 (zero35 0 0 (.slice none 0 0)) HRF.o HI.o HTZ.o.symm (by rw[HTG.o];exact one19 _ (by have h:=HSL.o;simp only[zz,zero35,List.all_toArray,List.all_cons,List.all_nil,h];rfl)) ?_)
 (try simp only[Exit.inBlock,Exit.then])
 refine bodyPost_ret (v:=.agg tg) ?_ rfl ?_
 ·exact zM1
 ·have hkept:kept p={zeroP p.kind p.version p.props with code:=p.code}:=by unfold kept;simp only[HKI.o];rfl
  exact zM0
theorem kept12_c (N:Nat→Prop) (w:World) (p:PkV) (v:Nat→Value) (hm:PkMem N w p v) (hk:p.kind=12∨p.kind=13):
 Calls prog 19 #[.agg (p.sells v)] w (PkOut w N (kept p)):=by
 rcases hk with hk|hk
 all_goals
 obtain⟨W1,hW1⟩:∃W1,(w.alloc (.cells (p.sells v) 35)).alloc (.cells (zero35 0 0 (.slice none 0 0)) 35)=W1:=⟨_,rfl⟩
 have HK1:Hd (Keeps [] w W1):=by rw[←hW1];exact(Keeps.alloc _ _).trans (Keeps.alloc _ _) (by simp)
 have HBP:Hd (Blk W1 w.heap.size 35 (p.sells v)):=by rw[←hW1];exact(Blk.new _ _ _).alloc _
 have HBR:Hd (Blk W1 (w.heap.size+1) 35 (zero35 0 0 (.slice none 0 0))):=by rw[←hW1];have h:=Blk.new (w.alloc (.cells (p.sells v) 35)) 35 (zero35 0 0 (.slice none 0 0));rwa [World.size_alloc] at h
 have HS1:Hd (W1.heap.size=w.heap.size+2):=by rw[←hW1];show _=_;simp
 have HW1:=hH hW1
 have HSL:=hH (PkMem.sl hm)
 obtain⟨A20,c20,e20,_⟩:=hm.m20
 have E20:=hH e20
 clear e20
 clear hW1
 have c0:W1.cell? ⟨w.heap.size,0,none⟩=some (.int .i64 p.kind):=by rw[HBP.o.cell];rfl
 have c1:W1.cell? ⟨w.heap.size,1,none⟩=some (.int .i64 p.version):=by rw[HBP.o.cell];rfl
 have c18:W1.cell? ⟨w.heap.size,18,none⟩=some (.slice A20 p.props.length c20):=by rw[HBP.o.cell,←E20.o];rfl
 have HM:=hH hm
 have HKI:=hH hk
 obtain⟨h1,h2,h3,h4,h5,h6,h7,h8,h10,h9,h11,h14,h15⟩:=eqs hk
 clear hm hk
 go_enter func19,ntmps19
 go_upto_region 1 with fail
 have hw1:=HW1.o
 unfold zero35 at hw1
 rw[hw1]
 clear hw1
 have hi:(prog.info? 35).map (·.size)=some 19:=by kernel_rfl
 refine wp_region_lit ?_
 iterate 24 go_step
 refine wpList_store_row rfl 35 (.tmp 3) (.tmp 10) rfl W1.heap.size (zz p c20 A20) (by rfl) (by rfl) 35 _ (Blk.new _ _ _) hi rfl (zz_one p c20 A20) ?_
 rw[World.setRow_alloc_new]
 have HB3:=hH (Blk.new W1 35 (zz p c20 A20))
 have HP2:=hH (HBP.o.alloc (.cells (zz p c20 A20) 35))
 have HR2:=hH (HBR.o.alloc (.cells (zz p c20 A20) 35))
 have HK2:=hH (HK1.o.trans (Keeps.alloc W1 (.cells (zz p c20 A20) 35)) (by simp))
 have hz2:(W1.alloc (.cells (zz p c20 A20) 35)).heap.size=w.heap.size+3:=by rw[World.size_alloc,HS1.o]
 have hg3:=HS1.o
 generalize W1.alloc (.cells (zz p c20 A20) 35)=W2 at*
 generalize W1.heap.size=g3 at*
 clear c0 c1 c18 HBP HBR HW1 HK1 HS1 hi
 have HG3:=hH hg3
 have HZ2:=hH hz2
 clear hg3 hz2
 have c0:W2.cell? ⟨w.heap.size,0,none⟩=some (.int .i64 p.kind):=by rw[HP2.o.cell];rfl
 have c1:W2.cell? ⟨w.heap.size,1,none⟩=some (.int .i64 p.version):=by rw[HP2.o.cell];rfl
 have c18:W2.cell? ⟨w.heap.size,18,none⟩=some (.slice A20 p.props.length c20):=by rw[HP2.o.cell];rw[←E20.o];rfl
 obtain⟨tg,htg⟩:∃tg:Array Value,tg=(zz p c20 A20):=⟨_,rfl⟩
 have HTG:=hH htg
 have HTZ:Hd (tg.size=19):=by show _=_;rw[htg];rfl
 clear htg
 refine wpList_nil ?_
 simp only[Act.put,s1,s2,s3]
 have hBf:Blk W2 g3 35 tg:=by rw[HTG.o];exact HB3.o
 have hKf:Keeps [g3] W2 W2:=Keeps.refl _ _
 have hRf:Blk W2 (w.heap.size+1) 35 (zero35 0 0 (.slice none 0 0)):=HR2.o
 generalize hWf:W2=Wf at*
 have hi:(prog.info? 35).map (·.size)=some tg.size:=by rw[HTZ.o];kernel_rfl
 have HF:=hH hBf
 have HKF:=hH hKf
 have HRF:=hH (hRf)
 clear hBf hKf hRf
 have HI:=hH hi
 clear hi
 go_wp2_with (first|refine wpList_load_row rfl 35 (.tmp 3) rfl g3 rfl 35 tg (0,0) _ HF.o underlying35 rfl HI.o ?_|refine wpList_store_row rfl 35 (.tmp 2) (.tmp 96) rfl (w.heap.size+1) tg rfl rfl 35 (zero35 0 0 (.slice none 0 0)) HRF.o HI.o HTZ.o.symm (by rw[HTG.o];exact one19 _ (by have h:=HSL.o;simp only[zz,zero35,List.all_toArray,List.all_cons,List.all_nil,h];rfl)) ?_)
 (try simp only[Exit.inBlock,Exit.then])
 refine bodyPost_ret (v:=.agg tg) ?_ rfl ?_
 ·exact zM1
 ·have hkept:kept p=zeroP p.kind p.version p.props:=by unfold kept;simp only[HKI.o];rfl
  have hkk:Keeps [] w (Wf.setRow (w.heap.size+1) tg):=(HK2.o.trans HKF.o (by simp;have:=HG3.o;omega)).trans (keeps_setRow _ _ _) (by simp)
  rw[hkept]
  refine⟨fun j=>if j=20 then v j else .slice none 0 0,?_,?_,hkk⟩
  ·rw[HTG.o]
   unfold zz zero35
   exact zM2
  ·exact zM3
theorem kept_c (N:Nat→Prop) (w:World) (p:PkV) (v:Nat→Value) (hm:PkMem N w p v) (hk:1≤p.kind∧p.kind≤15):
 Calls prog 19 #[.agg (p.sells v)] w (PkOut w N (kept p)):=by
 have h:p.kind=1∨p.kind=2∨p.kind=3∨p.kind=4∨p.kind=5∨p.kind=6∨p.kind=7∨p.kind=8∨p.kind=9∨p.kind=10∨p.kind=11∨p.kind=12∨p.kind=13∨p.kind=14∨p.kind=15:=by omega
 rcases h with h|h|h|h|h|h|h|h|h|h|h|h|h|h|h
 ·exact kept1_c N w p v hm h
 ·exact kept2_c N w p v hm h
 ·exact kept3_c N w p v hm h
 ·exact kept4_c N w p v hm (by omega)
 ·exact kept4_c N w p v hm (by omega)
 ·exact kept4_c N w p v hm (by omega)
 ·exact kept4_c N w p v hm (by omega)
 ·exact kept8_c N w p v hm (by omega)
 ·exact kept9_c N w p v hm (by omega)
 ·exact kept8_c N w p v hm (by omega)
 ·exact kept9_c N w p v hm (by omega)
 ·exact kept12_c N w p v hm (by omega)
 ·exact kept12_c N w p v hm (by omega)
 ·exact kept14_c N w p v hm (by omega)
 ·exact kept14_c N w p v hm (by omega)
end Go.Proofs.YtkglmacaecmhdaaGreatDoor
