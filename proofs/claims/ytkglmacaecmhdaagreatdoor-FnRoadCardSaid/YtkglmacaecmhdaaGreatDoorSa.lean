/- FnRoad, part Sa: the walks of D0, D1. -/
import Derived.BigRegion
import Derived.Test.YtkglmacaecmhdaaGreatDoorK
set_option linter.unusedVariables false
set_option linter.unusedSimpArgs false
set_option maxHeartbeats 4000000
set_option maxRecDepth 100000
namespace Go.Proofs.YtkglmacaecmhdaaGreatDoor
open Go Go.RowKit Tryz
theorem zzDecodeLength_c (w:World) (b o c n:Nat) (rest:List UInt8) (hn:n<268435456) (hr:RB w b o (vlen n++rest)) (hc:(vlen n++rest).length≤c) (hb:b<w.heap.size) (hl:rest.length≤1000000000):
 Calls prog 32 #[.slice (some ⟨b,o,none⟩) (vlen n++rest).length c] w fun e w'=>e=.returned (.tuple #[.int .i64 (n:Int),.int .i64 ((vlen n).length:Int),.nilIface])∧Keeps [] w w':=by
 have HR:=hH hr
 have HC:=hH hc
 have HN:=hH hn
 clear hr hc hn
 obtain⟨m,hm⟩:∃m,(vlen n++rest).length=m:=⟨_,rfl⟩
 have hnb:=newBuffer_c w b o c (vlen n++rest) HR.o HC.o hb
 rw[hm] at hnb ⊢
 have HNB:=hH hnb
 clear hnb
 go_enter func32,ntmps32
 go_wp2_with fail
 go_fit (HNB.o)
 rintro e w1 ⟨rfl,hB,hk1,hlt⟩
 have HD:=hH (decodeLength_c w1 w.heap.size b n rest HN.o hB hl)
 have HK:=hH hk1
 clear hB hk1
 go_wp2_with fail
 go_fit (HD.o)
 rintro e w2 ⟨rfl,_,hk2⟩
 have HK2:=hH (HK.o.trans hk2 (by simp))
 clear hk2
 go_wp2_with fail
 go_ret3
 exact⟨rfl,HK2.o⟩
structure ToldOK (p:PkV):Prop where
 name:p.name=⟨#[]⟩
 level:p.level=0
 code:4≤p.kind∧p.kind≤7→p.code=0∨128≤p.code
theorem nil_ba0 {s:ByteArray} (h:s.toList.isEmpty=true):s=⟨#[]⟩:=by
 rw[List.isEmpty_iff,Lib.toList_data] at h
 cases s;simp at h;simp[h]
theorem zSa0 {p:Prop} (h:p:=by
 go_wp2_with fail
 go_ret
 exact yes_no rfl HK.o
 ):p:=h
theorem told_c (w:World) (p:PkV) (v:Nat→Value):Calls prog 7 #[.agg (p.cells v)] w (Yes w (ToldOK p)):=by
 obtain⟨W,hW⟩:∃W,w.alloc (.cells (p.cells v) 29)=W:=⟨_,rfl⟩
 have HK:Hd (Keeps [] w W):=by rw[←hW];exact Keeps.alloc _ _
 have hB:Blk W w.heap.size 29 (p.cells v):=by rw[←hW];exact Blk.new _ _ _
 have c0:W.cell? ⟨w.heap.size,0,none⟩=some (.int .i64 p.kind):=by rw[hB.cell];rfl
 have c8:W.cell? ⟨w.heap.size,8,none⟩=some (.string p.name):=by rw[hB.cell];rfl
 have c9:W.cell? ⟨w.heap.size,9,none⟩=some (.int .i64 p.level):=by rw[hB.cell];rfl
 have c17:W.cell? ⟨w.heap.size,17,none⟩=some (.int .i64 p.code):=by rw[hB.cell];rfl
 have HW:=hH hW
 clear hW hB
 go_enter func7,ntmps7
 go_upto_region 1 with fail
 rw[HW.o]
 clear HW
 cases en:p.name.toList.isEmpty
 ·have en2:(!p.name.toList.isEmpty)=true:=by rw[en];rfl
  exact zSa0
 ·have HN:=hH (nil_ba0 en)
  have en2:(!p.name.toList.isEmpty)=false:=by rw[en];rfl
  by_cases el:p.level=0
  ·have el1:(p.level==0)=true:=by rw[beq_iff_eq];exact el
   have el2:(p.level !=0)=false:=by rw[bne,el1];rfl
   have HL:=hH el
   clear el
   by_cases hc:4≤p.kind∧p.kind≤7→p.code=0∨128≤p.code
   ·have HC:=hH hc
    clear hc
    go_wp2_with fail
    all_goals
     go_ret
     exact⟨_,rfl,fun _=>⟨HN.o,HL.o,HC.o⟩,HK.o⟩
   ·have hk:4≤p.kind∧p.kind≤7∧p.code≠0∧p.code<128:=by omega
    have d1:decide (p.kind<4)=false:=decide_eq_false (by omega)
    have d2:decide (7<p.kind)=false:=decide_eq_false (by omega)
    have d3:(p.code==0)=false:=by rw[beq_eq_false_iff_ne];omega
    have d4:decide (128≤p.code)=false:=decide_eq_false (by omega)
    clear hc hk
    exact zSa0
  ·have el1:(p.level==0)=false:=by rw[beq_eq_false_iff_ne];exact el
   have el2:(p.level !=0)=true:=by rw[bne,el1];rfl
   clear el
   exact zSa0
theorem own_cap2 {w:World} {e:TypeId} {size n c:Nat} {A:Option Addr} {xs:List Value} (h:w.ownsRow 0 e size (.slice A n c) n xs):n≤c:=by
 rcases h.2 with⟨hv,h0⟩|⟨g,cap,cur,hv,_,_,hnc,_⟩
 ·omega
 ·injection hv with h1 h2 h3;omega
def NewCap (w:World) (ys:List UInt8) (e:Ending) (w':World):Prop:=
 ∃A c,e=.returned (.slice A ys.length c)∧Rd w' 1 A ys.length (bvs ys)∧Keeps [] w w'∧ys.length≤c∧∀a,A=some a→w.heap.size≤a.block∧a.block<w'.heap.size
theorem clone2_c (w:World) (A:Option Addr) (c:Nat) (ys:List UInt8) (hr:Rd w 1 A ys.length (bvs ys)) (hn:ys.length≤1099511627776):
 Calls prog 28 #[.slice A ys.length c] w (NewCap w ys):=by
 obtain⟨i0,hi0,hz0,hz1,hz2⟩:=info_parts info5
 rcases A with _|a
 ·have h0:ys.length=0:=by
   rcases Nat.eq_zero_or_pos ys.length with h|h
   ·exact h
   ·obtain⟨b,o,h1,_⟩:=hr.2 h;cases h1
  have hy:ys=[]:=List.eq_nil_of_length_eq_zero h0
  subst hy
  clear hr hn h0
  have he:∀w:World,(binOp .eql 22 (.slice none ([]:List UInt8).length c) (.slice none 0 0)).run prog w=.ok (.bool true) w:=fun _=>rfl
  simp only[List.length_nil] at he ⊢
  go_enter func28,ntmps28
  go_wp2
  go_ret
  exact⟨none,0,rfl,Rd.none_ _ _,Keeps.refl _ _,Nat.le_refl _,by simp⟩
 ·obtain⟨n,hN⟩:∃n,ys.length=n:=⟨_,rfl⟩
  have HN:=hH hN
  rw[hN] at hr hn ⊢
  clear hN
  have ho:(w.alloc (.cells #[] 5)).ownsRow 0 5 1 (.slice (some ⟨w.heap.size,0,none⟩) 0 0) 0 []:=by simpa using own_blk (Blk.new w 5 #[]) 1 0 0 rfl (by omega) (by unfold maxLen;omega)
  have he:∀w:World,(binOp .eql 22 (.slice (some a) n c) (.slice none 0 0)).run prog w=.ok (.bool false) w:=fun _=>rfl
  have hr1:=hr.keep (Keeps.alloc w (.cells #[] 5)) (by simp)
  go_enter func28,ntmps28
  go_wp2_with (at_builtin;refine wpList_append_rd _ rfl (.tmp 5) (.tmp 6) 22 rfl 5 i0 _ 1 1 underlying22 hi0 hz0 hz1 hz2 rfl (by decide) (.slice (some ⟨w.heap.size,0,none⟩) 0 0) 0 _ rfl ho (some a) n c (bvs ys) rfl hr1 (bvs_one _) (by omega) (by unfold maxLen;omega) ?_;intro A1 c1 w2 ho1 hk1 hd1)
  go_ret
  show NewCap w ys (.returned (.slice A1 n c1)) w2
  rw[Nat.zero_add,List.nil_append] at ho1
  rw[←HN.o] at ho1 ⊢
  refine⟨A1,c1,rfl,own_rd ho1,(Keeps.alloc w _).trans hk1 (by simp[own_slice]),own_cap2 ho1,fun a ha=>?_⟩
  have h1:=own_lt ho1 a.block (by rw[ha];rfl)
  subst ha
  refine⟨?_,h1⟩
  rw[own_slice] at hd1
  simp at hd1
  omega
def PlAt (w w':World) (nb sb:Nat) (n k:Int):Prop:=Blk w' nb 3 #[.int .i64 n]∧Blk w' sb 3 #[.int .i64 k]∧Keeps [nb,sb] w w'
theorem parse1_c (w:World) (bx nb sb:Nat) (A:Option Addr) (c n:Nat) (rest:List UInt8) (v1 v2:Value) (hn:n<268435456) (hl:rest.length≤100) (hB:Blk w bx 22 #[.slice A (vlen n++rest).length c]) (hr:Rd w 1 A (vlen n++rest).length (bvs (vlen n++rest)))
 (h1:Blk w nb 3 #[v1]) (h2:Blk w sb 3 #[v2]) (hne:nb≠sb):
 Calls prog 42 #[.pointer (some ⟨bx,0,none⟩),.pointer (some ⟨nb,0,none⟩),.pointer (some ⟨sb,0,none⟩)] w fun e w'=>e=.returned (.bool true)∧PlAt w w' nb sb (n:Int) ((vlen n).length:Int):=by
 have c0:w.cell? ⟨bx,0,none⟩=some (.slice A (vlen n++rest).length c):=by rw[hB.cell];rfl
 have hv:=vlen_le n hn
 have hlen:(vlen n++rest).length≤1099511627776:=by simp;omega
 have hcl0:=clone2_c w A c (vlen n++rest) hr hlen
 obtain⟨m,hm⟩:∃m,(vlen n++rest).length=m:=⟨_,rfl⟩
 have HMM:=hH hm
 rw[hm] at hcl0 c0
 have HCL:=hH hcl0
 have H1:=hH h1
 have H2:=hH h2
 have hpos:0<(vlen n++rest).length:=by have:=vlen_pos n;simp;omega
 have HPOS:=hH hpos
 clear hr hB h1 h2 hlen hpos hcl0 hm
 go_enter func42,ntmps42
 go_wp2_with fail
 go_fit (HCL.o)
 rintro e w1 ⟨A1,c1,rfl,hr1,hk1,hcap,hA1⟩
 obtain⟨b1,o1,rfl,hcl⟩:=hr1.2 HPOS.o
 rw[HMM.o]
 have hA:=hA1 _ rfl
 have hz:=zzDecodeLength_c w1 b1 o1 c1 n rest hn (rd_rb hr1) hcap hA.2 (by omega)
 rw[HMM.o] at hz
 have HZ:=hH hz
 have HK1:=hH hk1
 clear hr1 hcl hk1 hA hA1 hz hcap
 go_wp2_with fail
 go_fit (HZ.o)
 rintro e w2 ⟨rfl,hk2⟩
 have hk:=HK1.o.trans hk2 (by simp)
 have B1:=H1.o.keep hk (by simp)
 have B2:=H2.o.keep hk (by simp)
 have x1:w2.cell? ⟨nb,0,none⟩=some v1:=by rw[B1.cell];rfl
 have x2:w2.cell? ⟨sb,0,none⟩=some v2:=by rw[B2.cell];rfl
 have f1:w2.frozen? ⟨nb,0,none⟩=false:=B1.frozen 0
 have f2:w2.frozen? ⟨sb,0,none⟩=false:=B2.frozen 0
 have HB1:=hH B1
 have HB2:=hH B2
 have HK:=hH hk
 clear B1 B2 hk hk2
 go_wp2_with fail
 go_ret
 refine⟨rfl,?_,?_,?_⟩
 ·exact(HB1.o.set_ 0 _).far (by simpa using hne) _
 ·exact(HB2.o.far (by simpa using Ne.symm hne) _).set_ 0 _
 ·exact((HK.o.mono (S':=[nb,sb]) (by simp)).trans (Keeps.setCell _ ⟨nb,0,none⟩ _) (by simp)).trans (Keeps.setCell _ ⟨sb,0,none⟩ _) (by simp)
theorem parseLength_c (w:World) (A:Option Addr) (c n:Nat) (rest:List UInt8) (hn:n<268435456) (hl:rest.length≤100) (hr:Rd w 1 A (vlen n++rest).length (bvs (vlen n++rest))) (hA:∀a,A=some a→a.block<w.heap.size):
 Calls prog 23 #[.slice A (vlen n++rest).length c] w fun e w'=>e=.returned (.tuple #[.int .i64 (n:Int),.int .i64 ((vlen n).length:Int),.bool true])∧Keeps [] w w':=by
 obtain⟨W,hW⟩:∃W,((w.alloc (.cells #[.slice A (vlen n++rest).length c] 22)).alloc (.cells #[.int .i64 0] 3)).alloc (.cells #[.int .i64 0] 3)=W:=⟨_,rfl⟩
 have hk:Keeps [] w W:=by rw[←hW];exact((Keeps.alloc _ _).trans (Keeps.alloc _ _) (by simp)).trans (Keeps.alloc _ _) (by simp)
 have hs:W.heap.size=w.heap.size+3:=by rw[←hW];simp
 have hB:Blk W w.heap.size 22 #[.slice A (vlen n++rest).length c]:=by rw[←hW];exact((Blk.new _ _ _).alloc _).alloc _
 have h1:Blk W (w.heap.size+1) 3 #[.int .i64 0]:=by rw[←hW];have h:=Blk.new (w.alloc (.cells #[.slice A (vlen n++rest).length c] 22)) 3 #[.int .i64 0];rw[World.size_alloc] at h;exact h.alloc _
 have h2:Blk W (w.heap.size+2) 3 #[.int .i64 0]:=by rw[←hW];have h:=Blk.new ((w.alloc (.cells #[.slice A (vlen n++rest).length c] 22)).alloc (.cells #[.int .i64 0] 3)) 3 #[.int .i64 0];rw[World.size_alloc,World.size_alloc] at h;exact h
 have kd:=Keeps.alloc W (.cells #[.bool false] 4)
 have hp:=parse1_c (W.alloc (.cells #[.bool false] 4)) w.heap.size (w.heap.size+1) (w.heap.size+2) A c n rest _ _ hn hl (hB.alloc _) (hr.keep (hk.trans kd (by simp)) (by simp)) (h1.alloc _) (h2.alloc _) (by omega)
 have ht:=try_c W 42 #[.pointer (some ⟨w.heap.size,0,none⟩),.pointer (some ⟨w.heap.size+1,0,none⟩),.pointer (some ⟨w.heap.size+2,0,none⟩)] true [w.heap.size+1,w.heap.size+2]
  (fun w'=>PlAt (W.alloc (.cells #[.bool false] 4)) w' (w.heap.size+1) (w.heap.size+2) (n:Int) ((vlen n).length:Int)) (by rw[hs];simp) (fun _=>by kernel_rfl) (hp.mono (by rintro e w' ⟨rfl,h⟩;exact⟨rfl,h,h.2.2⟩))
 have HT:=hH ht
 have HW:=hH hW
 have HK:=hH hk
 have HS:=hH hs
 clear hk hB h1 h2 kd hp ht hW hr hA hs
 obtain⟨m,hm⟩:∃m,(vlen n++rest).length=m:=⟨_,rfl⟩
 rw[hm] at HW ⊢
 clear hm
 have hmf:∀(fn:Fn) (first cap:Array Value) (w:World),(Instr.makeFunc fn first cap).run prog w=.ok (.func fn first cap) w:=fun _ _ _ _=>rfl
 go_enter func23,ntmps23
 go_upto_region 1 with fail
 rw[HW.o]
 clear HW
 go_wp2_with fail
 go_fit (HT.o)
 rintro e w3 ⟨rfl,w2,⟨b1,b2,k2⟩,k3,rfl⟩
 have hne1:w.heap.size+1≠W.heap.size:=by have:=HS.o;omega
 have hne2:w.heap.size+2≠W.heap.size:=by have:=HS.o;omega
 have B1:=b1.far (p:=⟨W.heap.size,0,none⟩) hne1 (.bool true)
 have B2:=b2.far (p:=⟨W.heap.size,0,none⟩) hne2 (.bool true)
 have hkk:Keeps [] w (w2.setCell ⟨W.heap.size,0,none⟩ (.bool true)):=by
  have e1:Keeps [] w w2:=(HK.o.trans (Keeps.alloc W (.cells #[.bool false] 4)) (by simp)).trans k2 (by simp)
  exact e1.trans (Keeps.setCell _ ⟨W.heap.size,0,none⟩ _) (by simp<;>have:=HS.o<;>omega)
 have HB1:=hH B1
 have HB2:=hH B2
 have HKK:=hH hkk
 generalize w2.setCell ⟨W.heap.size,0,none⟩ (.bool true)=w4 at*
 have x1:w4.cell? ⟨w.heap.size+1,0,none⟩=some (.int .i64 (n:Int)):=by rw[HB1.o.cell];rfl
 have x2:w4.cell? ⟨w.heap.size+2,0,none⟩=some (.int .i64 ((vlen n).length:Int)):=by rw[HB2.o.cell];rfl
 have f1:w4.frozen? ⟨w.heap.size+1,0,none⟩=false:=HB1.o.frozen 0
 have f2:w4.frozen? ⟨w.heap.size+2,0,none⟩=false:=HB2.o.frozen 0
 clear b1 b2 k2 k3 B1 B2 hkk HT
 go_wp2_with fail
 have hS:∀w',Blk w' (w.heap.size+1) 3 #[.int .i64 (n:Int)]→Blk w' (w.heap.size+2) 3 #[.int .i64 ((vlen n).length:Int)]→Keeps [] w w'→(w'.cell? ⟨w.heap.size+1,0,none⟩=some (.int .i64 (n:Int))∧w'.cell? ⟨w.heap.size+2,0,none⟩=some (.int .i64 ((vlen n).length:Int))∧Keeps [] w w'):=fun w' b1 b2 k=>⟨by rw[b1.cell];rfl,by rw[b2.cell];rfl,k⟩
 refine tkStart (S:=(fun w'=>w'.cell? ⟨w.heap.size+1,0,none⟩=some (.int .i64 (n:Int))∧w'.cell? ⟨w.heap.size+2,0,none⟩=some (.int .i64 ((vlen n).length:Int))∧Keeps [] w w')) (by kernel_rfl) (hS _ HB1.o.drew HB2.o.drew (HKK.o.trans (Keeps.drew _) (by simp))) (fun hHeld=>?_)
 simp only[s4,s5,Nat.reduceAdd,s6,s7]
 repeat((first|refine tkx ?_|refine tku ?_);simp only[setN,Act.put,s1,s2,s3])
 refine tkc fun K hK=>?_
 refine wp_one (gg:=w.heap.size+1) (off:=0) (v:=.int .i64 (n:Int)) HB1.o.drew (by simp) 3 (.tmp 2) (.tmp 9) rfl rfl rfl (by kernel_rfl) rfl ?_
 refine hK.out _ _ (hS _ (HB1.o.drew.set_ 0 (.int .i64 (n:Int))) (HB2.o.drew.far (p:=⟨w.heap.size+1,0,none⟩) (by simp) (.int .i64 (n:Int))) ((HKK.o.trans (Keeps.drew _) (by simp)).trans (Keeps.setCell _ ⟨w.heap.size+1,0,none⟩ (.int .i64 (n:Int))) (by simp))) (fun hHeld=>?_)
 clear hK K
 simp only[setN,Act.put,s1,s2,s3]
 repeat((first|refine tkx ?_|refine tku ?_);simp only[setN,Act.put,s1,s2,s3])
 refine tkc fun K hK=>?_
 refine wp_one (gg:=w.heap.size+2) (off:=0) (v:=.int .i64 ((vlen n).length:Int)) (HB2.o.drew.far (p:=⟨w.heap.size+1,0,none⟩) (by simp) (.int .i64 (n:Int))) (by simp) 3 (.tmp 3) (.tmp 10) rfl rfl rfl (by kernel_rfl) rfl ?_
 refine hK.out _ _ (hS _ ((HB1.o.drew.set_ 0 (.int .i64 (n:Int))).far (p:=⟨w.heap.size+2,0,none⟩) (by simp) (.int .i64 ((vlen n).length:Int))) ((HB2.o.drew.far (p:=⟨w.heap.size+1,0,none⟩) (by simp) (.int .i64 (n:Int))).set_ 0 (.int .i64 ((vlen n).length:Int))) (((HKK.o.trans (Keeps.drew _) (by simp)).trans (Keeps.setCell _ ⟨w.heap.size+1,0,none⟩ (.int .i64 (n:Int))) (by simp)).trans (Keeps.setCell _ ⟨w.heap.size+2,0,none⟩ (.int .i64 ((vlen n).length:Int))) (by simp))) (fun hHeld=>?_)
 clear hK K
 simp only[setN,Act.put,s1,s2,s3]
 repeat((first|refine tkx ?_|refine tku ?_);simp only[setN,Act.put,s1,s2,s3])
 refine tkDone (by kernel_rfl) ?_
 have hkf:=(((HKK.o.trans (Keeps.drew _) (by simp)).trans (Keeps.setCell _ ⟨w.heap.size+1,0,none⟩ (.int .i64 (n:Int))) (by simp)).trans (Keeps.setCell _ ⟨w.heap.size+2,0,none⟩ (.int .i64 ((vlen n).length:Int))) (by simp))
 have y1:=hHeld.1
 have y2:=hHeld.2.1
 generalize (((w4.drew).setCell ⟨w.heap.size+1,0,none⟩ (.int .i64 (n:Int))).setCell ⟨w.heap.size+2,0,none⟩ (.int .i64 ((vlen n).length:Int)))=w5 at*
 clear hS hHeld
 go_wp2_with fail
 refine bodyPost_ret (v:=.tuple #[.int .i64 (n:Int),.int .i64 ((vlen n).length:Int),.bool true]) ?_ rfl ⟨rfl,hkf⟩
 simp[results,Tryz.results23,go_sem,y1,y2]
theorem vlen128:vlen 128++[]=[128,1]:=by
 rw[vlen_hi (by omega),show 128 / 128=1 by omega,vlen_lo (by omega)];rfl
theorem works_c (w:World):Calls prog 8 #[] w (Is w true):=by
 have hr:=rd_new w 5 #[.int .u8 128,.int .u8 1] 1 2 rfl
 have hp:=parseLength_c (w.alloc (.cells #[.int .u8 128,.int .u8 1] 5)) (some ⟨w.heap.size,0,none⟩) 2 128 [] (by omega) (by simp) (by rw[vlen128];exact hr) (fun a ha=>by injection ha with ha;subst ha;simp)
 have hl:(vlen 128).length=2:=by have:=congrArg List.length vlen128;simpa using this
 rw[vlen128,hl] at hp
 have HP:=hH hp
 clear hr hp hl
 go_enter func8,ntmps8
 go_wp2_with fail
 go_fit (HP.o)
 rintro e w2 ⟨rfl,hk⟩
 have HK:=hH ((Keeps.alloc w (.cells #[.int .u8 128,.int .u8 1] 5)).trans hk (by simp))
 clear hk
 go_wp2_with fail
 go_ret
 exact is_of rfl rfl HK.o
end Go.Proofs.YtkglmacaecmhdaaGreatDoor
