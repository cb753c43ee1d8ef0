/- FnRoad, part W: the walks of B9, E6, Q0. -/
import Derived.Test.YtkglmacaecmhdaaGreatDoorJ
import Derived.Test.YtkglmacaecmhdaaGreatDoorU
set_option linter.unusedVariables false
set_option linter.unusedSimpArgs false
set_option maxRecDepth 100000
namespace Go.Proofs.YtkglmacaecmhdaaGreatDoor
open Go Go.RowKit Tryz
def pk0 (p:PkV) (A1:Option Addr) (c1:Nat) (A2:Option Addr) (c2:Nat):Array Value:=#[.slice none 0 0,.slice none 0 0,.slice none 0 0,.slice none 0 0,.string ⟨#[]⟩,.string ⟨#[]⟩,.string ⟨#[]⟩,.string ⟨#[]⟩,.string ⟨#[]⟩,.string ⟨#[]⟩,.string ⟨#[]⟩,.int .u32 0,.int .u32 0,.int .u32 0,.int .u32 0,.int .u16 0,.int .u16 0,.int .u16 0,.int .u16 0,.int .u8 0,.bool false,.bool false,.bool false,.int .u8 0,.bool false,.int .u8 0,.bool false,.int .u8 0,.bool false,.int .u8 0,.bool false,.int .u8 0,.bool false,.int .u8 0,.bool false,.int .u8 0,.bool false,.slice none 0 0,.slice none 0 0,.slice A2 p.name.size c2,.slice none 0 0,.string p.client,.string ⟨#[]⟩,.int .u16 p.keep,.bool false,.bool false,.int .u8 0,.bool false,.bool false,.bool p.clean,.slice none 0 0,.slice none 0 0,.slice none 0 0,.slice none 0 0,.string ⟨#[]⟩,.string ⟨#[]⟩,.string ⟨#[]⟩,.string ⟨#[]⟩,.string ⟨#[]⟩,.string ⟨#[]⟩,.string ⟨#[]⟩,.int .u32 0,.int .u32 0,.int .u32 0,.int .u32 0,.int .u16 0,.int .u16 0,.int .u16 0,.int .u16 0,.int .u8 0,.bool false,.bool false,.bool false,.int .u8 0,.bool false,.int .u8 0,.bool false,.int .u8 0,.bool false,.int .u8 0,.bool false,.int .u8 0,.bool false,.int .u8 0,.bool false,.int .u8 0,.bool false,.slice A1 p.payload.length c1,.slice none 0 0,.slice none 0 0,.string p.topic,.string ⟨#[]⟩,.int .i64 0,.int .u8 p.kind,.int .u8 p.qos,.bool p.dup,.bool p.retain,.int .i64 0,.int .i64 0,.int .u32 0,.bool false,.bool true,.int .u16 p.id,.int .u8 p.version,.bool p.present,.int .u8 p.code,.int .u8 0,.bool false]
theorem pk0_eq (p:PkV) (A1:Option Addr) (c1:Nat) (A2:Option Addr) (c2:Nat):
 ((((((((((((((((((((((((((((((((((((((((((((((((((((((((((((((((Tryz.zeroCells86.setIfInBounds 92 (Value.int IntKind.i64 0)).setIfInBounds 93 (Value.int IntKind.u8 p.kind)).setIfInBounds 94 (Value.int IntKind.u8 p.qos)).setIfInBounds 95 (Value.bool p.dup)).setIfInBounds 96 (Value.bool p.retain)).setIfInBounds 103 (Value.int IntKind.u8 p.version)).setIfInBounds 102 (Value.int IntKind.u16 p.id)).setIfInBounds 90 (Value.string p.topic)).setIfInBounds 87 (Value.slice A1 p.payload.length c1)).setIfInBounds 0 (Value.slice none 0 0)).setIfInBounds 1 (Value.slice none 0 0)).setIfInBounds 2 (Value.slice none 0 0)).setIfInBounds 3 (Value.slice none 0 0)).setIfInBounds 4 (Value.string ⟨#[]⟩)).setIfInBounds 5 (Value.string ⟨#[]⟩)).setIfInBounds 6 (Value.string ⟨#[]⟩)).setIfInBounds 7 (Value.string ⟨#[]⟩)).setIfInBounds 8 (Value.string ⟨#[]⟩)).setIfInBounds 9 (Value.string ⟨#[]⟩)).setIfInBounds 10 (Value.string ⟨#[]⟩)).setIfInBounds 11 (Value.int IntKind.u32 0)).setIfInBounds 12 (Value.int IntKind.u32 0)).setIfInBounds 13 (Value.int IntKind.u32 0)).setIfInBounds 14 (Value.int IntKind.u32 0)).setIfInBounds 15 (Value.int IntKind.u16 0)).setIfInBounds 16 (Value.int IntKind.u16 0)).setIfInBounds 17 (Value.int IntKind.u16 0)).setIfInBounds 18 (Value.int IntKind.u16 0)).setIfInBounds 19 (Value.int IntKind.u8 0)).setIfInBounds 20 (Value.bool false)).setIfInBounds 21 (Value.bool false)).setIfInBounds 22 (Value.bool false)).setIfInBounds 23 (Value.int IntKind.u8 0)).setIfInBounds 24 (Value.bool false)).setIfInBounds 25 (Value.int IntKind.u8 0)).setIfInBounds 26 (Value.bool false)).setIfInBounds 27 (Value.int IntKind.u8 0)).setIfInBounds 28 (Value.bool false)).setIfInBounds 29 (Value.int IntKind.u8 0)).setIfInBounds 30 (Value.bool false)).setIfInBounds 31 (Value.int IntKind.u8 0)).setIfInBounds 32 (Value.bool false)).setIfInBounds 33 (Value.int IntKind.u8 0)).setIfInBounds 34 (Value.bool false)).setIfInBounds 35 (Value.int IntKind.u8 0)).setIfInBounds 36 (Value.bool false)).setIfInBounds 37 (Value.slice none 0 0)).setIfInBounds 38 (Value.slice none 0 0)).setIfInBounds 39 (Value.slice A2 p.name.size c2)).setIfInBounds 40 (Value.slice none 0 0)).setIfInBounds 41 (Value.string p.client)).setIfInBounds 42 (Value.string ⟨#[]⟩)).setIfInBounds 43 (Value.int IntKind.u16 p.keep)).setIfInBounds 44 (Value.bool false)).setIfInBounds 45 (Value.bool false)).setIfInBounds 46 (Value.int IntKind.u8 0)).setIfInBounds 47 (Value.bool false)).setIfInBounds 48 (Value.bool false)).setIfInBounds 49 (Value.bool p.clean)).setIfInBounds 104 (Value.bool p.present)).setIfInBounds 105 (Value.int IntKind.u8 p.code)).setIfInBounds 99 (Value.int IntKind.u32 0)).setIfInBounds 100 (Value.bool false)).setIfInBounds 101 (Value.bool true))=pk0 p A1 c1 A2 c2:=by
 kernel_rfl
def ZRd (w:World) (g xb:Nat) (q:PkV) (e:Ending) (w':World):Prop:=e=.returned (.tuple #[.nilIface,.bool true])∧∃f,Blk w' g 86 (arr f)∧PkGot w.heap.size xb w' q f∧Keeps [g] w w'
theorem zW0 {p:Prop} (h:p:=by
 have H:=hH h
 clear h
 go_enter func33,ntmps33
 go_wp2_with fail
 go_fit (H.o)
 rintro e w1 ⟨rfl,hq⟩
 have HQ:=hH hq
 clear hq
 go_wp2_with fail
 go_ret2
 exact⟨rfl,HQ.o⟩
 ):p:=h
theorem zd1_c (w:World) (g xb:Nat) (v:Value) (q:PkV) (h93:w.cell? ⟨g,93,none⟩=some (.int .u8 1)) (h:Calls prog 63 #[.pointer (some ⟨g,0,none⟩),v] w (DOut w g xb q)):Calls prog 33 #[.pointer (some ⟨g,0,none⟩),v] w (ZRd w g xb q):=by
 exact zW0
theorem zd2_c (w:World) (g xb:Nat) (v:Value) (q:PkV) (h93:w.cell? ⟨g,93,none⟩=some (.int .u8 2)) (h:Calls prog 64 #[.pointer (some ⟨g,0,none⟩),v] w (DOut w g xb q)):Calls prog 33 #[.pointer (some ⟨g,0,none⟩),v] w (ZRd w g xb q):=by
 exact zW0
theorem zd3_c (w:World) (g xb:Nat) (v:Value) (q:PkV) (h93:w.cell? ⟨g,93,none⟩=some (.int .u8 3)) (h:Calls prog 65 #[.pointer (some ⟨g,0,none⟩),v] w (DOut w g xb q)):Calls prog 33 #[.pointer (some ⟨g,0,none⟩),v] w (ZRd w g xb q):=by
 exact zW0
theorem zd4_c (w:World) (g xb:Nat) (v:Value) (q:PkV) (h93:w.cell? ⟨g,93,none⟩=some (.int .u8 4)) (h:Calls prog 66 #[.pointer (some ⟨g,0,none⟩),v] w (DOut w g xb q)):Calls prog 33 #[.pointer (some ⟨g,0,none⟩),v] w (ZRd w g xb q):=by
 exact zW0
theorem zd5_c (w:World) (g xb:Nat) (v:Value) (q:PkV) (h93:w.cell? ⟨g,93,none⟩=some (.int .u8 5)) (h:Calls prog 67 #[.pointer (some ⟨g,0,none⟩),v] w (DOut w g xb q)):Calls prog 33 #[.pointer (some ⟨g,0,none⟩),v] w (ZRd w g xb q):=by
 exact zW0
theorem zd6_c (w:World) (g xb:Nat) (v:Value) (q:PkV) (h93:w.cell? ⟨g,93,none⟩=some (.int .u8 6)) (h:Calls prog 68 #[.pointer (some ⟨g,0,none⟩),v] w (DOut w g xb q)):Calls prog 33 #[.pointer (some ⟨g,0,none⟩),v] w (ZRd w g xb q):=by
 exact zW0
theorem zd7_c (w:World) (g xb:Nat) (v:Value) (q:PkV) (h93:w.cell? ⟨g,93,none⟩=some (.int .u8 7)) (h:Calls prog 69 #[.pointer (some ⟨g,0,none⟩),v] w (DOut w g xb q)):Calls prog 33 #[.pointer (some ⟨g,0,none⟩),v] w (ZRd w g xb q):=by
 exact zW0
theorem zd8_c (w:World) (g xb:Nat) (v:Value) (q:PkV) (h93:w.cell? ⟨g,93,none⟩=some (.int .u8 8)) (h:Calls prog 70 #[.pointer (some ⟨g,0,none⟩),v] w (DOut w g xb q)):Calls prog 33 #[.pointer (some ⟨g,0,none⟩),v] w (ZRd w g xb q):=by
 exact zW0
theorem zd9_c (w:World) (g xb:Nat) (v:Value) (q:PkV) (h93:w.cell? ⟨g,93,none⟩=some (.int .u8 9)) (h:Calls prog 71 #[.pointer (some ⟨g,0,none⟩),v] w (DOut w g xb q)):Calls prog 33 #[.pointer (some ⟨g,0,none⟩),v] w (ZRd w g xb q):=by
 exact zW0
theorem zd10_c (w:World) (g xb:Nat) (v:Value) (q:PkV) (h93:w.cell? ⟨g,93,none⟩=some (.int .u8 10)) (h:Calls prog 72 #[.pointer (some ⟨g,0,none⟩),v] w (DOut w g xb q)):Calls prog 33 #[.pointer (some ⟨g,0,none⟩),v] w (ZRd w g xb q):=by
 exact zW0
theorem zd11_c (w:World) (g xb:Nat) (v:Value) (q:PkV) (h93:w.cell? ⟨g,93,none⟩=some (.int .u8 11)) (h:Calls prog 73 #[.pointer (some ⟨g,0,none⟩),v] w (DOut w g xb q)):Calls prog 33 #[.pointer (some ⟨g,0,none⟩),v] w (ZRd w g xb q):=by
 exact zW0
theorem zd12_c (w:World) (g xb:Nat) (v:Value) (q:PkV) (h93:w.cell? ⟨g,93,none⟩=some (.int .u8 12)) (h:Calls prog 74 #[.pointer (some ⟨g,0,none⟩),v] w (DOut w g xb q)):Calls prog 33 #[.pointer (some ⟨g,0,none⟩),v] w (ZRd w g xb q):=by
 exact zW0
theorem zd13_c (w:World) (g xb:Nat) (v:Value) (q:PkV) (h93:w.cell? ⟨g,93,none⟩=some (.int .u8 13)) (h:Calls prog 75 #[.pointer (some ⟨g,0,none⟩),v] w (DOut w g xb q)):Calls prog 33 #[.pointer (some ⟨g,0,none⟩),v] w (ZRd w g xb q):=by
 exact zW0
theorem zd14_c (w:World) (g xb:Nat) (v:Value) (q:PkV) (h93:w.cell? ⟨g,93,none⟩=some (.int .u8 14)) (h:Calls prog 76 #[.pointer (some ⟨g,0,none⟩),v] w (DOut w g xb q)):Calls prog 33 #[.pointer (some ⟨g,0,none⟩),v] w (ZRd w g xb q):=by
 exact zW0
theorem zd15_c (w:World) (g xb:Nat) (v:Value) (q:PkV) (h93:w.cell? ⟨g,93,none⟩=some (.int .u8 15)) (h:Calls prog 77 #[.pointer (some ⟨g,0,none⟩),v] w (DOut w g xb q)):Calls prog 33 #[.pointer (some ⟨g,0,none⟩),v] w (ZRd w g xb q):=by
 exact zW0
theorem zW1 {p:Prop} (h:p:=by
 go_wp2_with fail
 go_ret
 rw[←HQ.o]
 refine⟨rfl,_,HB.o,?_,Keeps.refl _ _⟩
 exact PkGot.of (dz_one _ _ _ _ _ _) (st:=rst_zero _ _ _ _ _ (dz_zero _ _ _ _ _ _).1)
 ):p:=h
theorem ping12_0c (w:World) (g xb rem:Nat) (v:Value) (qs:Int) (dup ret:Bool) (ver:Int) (hb:Blk w g 86 (arr (dz 12 qs dup ret ver rem))):Calls prog 74 #[.pointer (some ⟨g,0,none⟩),v] w (DOut w g xb ({zp 12 ver [] with qos:=qs,dup:=dup,retain:=ret})):=by
 have HB:=hH hb
 clear hb
 obtain⟨q,hq⟩:∃q,({zp 12 ver [] with qos:=qs,dup:=dup,retain:=ret}:PkV)=q:=⟨_,rfl⟩
 rw[hq]
 have HQ:=hH hq
 clear hq
 go_enter func74,ntmps74
 exact zW1
theorem ping13_0c (w:World) (g xb rem:Nat) (v:Value) (qs:Int) (dup ret:Bool) (ver:Int) (hb:Blk w g 86 (arr (dz 13 qs dup ret ver rem))):Calls prog 75 #[.pointer (some ⟨g,0,none⟩),v] w (DOut w g xb ({zp 13 ver [] with qos:=qs,dup:=dup,retain:=ret})):=by
 have HB:=hH hb
 clear hb
 obtain⟨q,hq⟩:∃q,({zp 13 ver [] with qos:=qs,dup:=dup,retain:=ret}:PkV)=q:=⟨_,rfl⟩
 rw[hq]
 have HQ:=hH hq
 clear hq
 go_enter func75,ntmps75
 exact zW1
theorem disc0_0c (w:World) (g xb rem:Nat) (v:Value) (qs:Int) (dup ret:Bool) (hb:Blk w g 86 (arr (dz 14 qs dup ret 4 rem))):Calls prog 76 #[.pointer (some ⟨g,0,none⟩),v] w (DOut w g xb ({zp 14 4 [] with qos:=qs,dup:=dup,retain:=ret})):=by
 have HB:=hH hb
 have x103:w.cell? ⟨g,103,none⟩=some (.int .u8 4):=by rw[hb.cell,arr_get _ _ (by omega)];rfl
 clear hb
 obtain⟨q,hq⟩:∃q,({zp 14 4 [] with qos:=qs,dup:=dup,retain:=ret}:PkV)=q:=⟨_,rfl⟩
 rw[hq]
 have HQ:=hH hq
 clear hq
 go_enter func76,ntmps76
 exact zW1
def HdOK (t q:Nat) (dup ret:Bool):Prop:=(t=3∧q≤2∧(q=0→dup=false))∨((t=6∨t=8∨t=10)∧q=1∧dup=false∧ret=false)∨((t=1∨t=2∨t=4∨t=5∨t=7∨t=9∨t=11∨t=12∨t=13∨t=14∨t=15)∧q=0∧dup=false∧ret=false)
theorem hdrDec_c (w:World) (g:Nat) (cs:Array Value) (t q:Nat) (dup ret:Bool) (hv:HdOK t q dup ret) (hb:Blk w g 86 cs) (hz:cs.size=108) (c93:w.cell? ⟨g,93,none⟩=some (.int .u8 0)) (c94:w.cell? ⟨g,94,none⟩=some (.int .u8 0)) (c95:w.cell? ⟨g,95,none⟩=some (.bool false)) (c96:w.cell? ⟨g,96,none⟩=some (.bool false)):
 Calls prog 31 #[.pointer (some ⟨g,92,none⟩),.int .u8 ((hdrB t q dup ret).toNat:Int)] w fun e w'=>e=.returned .nilIface∧HdrOut w g cs (t:Int) (q:Int) dup ret w':=by
 rcases hv with⟨rfl,hq,hd⟩|⟨ht,rfl,rfl,rfl⟩|⟨ht,rfl,rfl,rfl⟩
 ·obtain rfl|rfl|rfl:q=0∨q=1∨q=2:=by omega
  ·have:=hd rfl
   subst this
   cases ret
   ·exact hdrDec3_000_c w g cs hb hz c93 c94 c95 c96
   ·exact hdrDec3_001_c w g cs hb hz c93 c94 c95 c96
  ·cases dup<;>cases ret
   ·exact hdrDec3_100_c w g cs hb hz c93 c94 c95 c96
   ·exact hdrDec3_101_c w g cs hb hz c93 c94 c95 c96
   ·exact hdrDec3_110_c w g cs hb hz c93 c94 c95 c96
   ·exact hdrDec3_111_c w g cs hb hz c93 c94 c95 c96
  ·cases dup<;>cases ret
   ·exact hdrDec3_200_c w g cs hb hz c93 c94 c95 c96
   ·exact hdrDec3_201_c w g cs hb hz c93 c94 c95 c96
   ·exact hdrDec3_210_c w g cs hb hz c93 c94 c95 c96
   ·exact hdrDec3_211_c w g cs hb hz c93 c94 c95 c96
 ·rcases ht with rfl|rfl|rfl
  ·exact hdrDec6_c w g cs hb hz c93 c94 c95 c96
  ·exact hdrDec8_c w g cs hb hz c93 c94 c95 c96
  ·exact hdrDec10_c w g cs hb hz c93 c94 c95 c96
 ·rcases ht with rfl|rfl|rfl|rfl|rfl|rfl|rfl|rfl|rfl|rfl|rfl
  ·exact hdrDec1_c w g cs hb hz c93 c94 c95 c96
  ·exact hdrDec2_c w g cs hb hz c93 c94 c95 c96
  ·exact hdrDec4_c w g cs hb hz c93 c94 c95 c96
  ·exact hdrDec5_c w g cs hb hz c93 c94 c95 c96
  ·exact hdrDec7_c w g cs hb hz c93 c94 c95 c96
  ·exact hdrDec9_c w g cs hb hz c93 c94 c95 c96
  ·exact hdrDec11_c w g cs hb hz c93 c94 c95 c96
  ·exact hdrDec12_c w g cs hb hz c93 c94 c95 c96
  ·exact hdrDec13_c w g cs hb hz c93 c94 c95 c96
  ·exact hdrDec14_c w g cs hb hz c93 c94 c95 c96
  ·exact hdrDec15_c w g cs hb hz c93 c94 c95 c96
def slc (f:Nat→Value) (o n:Nat):List Value:=(List.range n).map fun j=>f (o+j)
theorem slc_get (f:Nat→Value) (o n j:Nat) (h:j<n):(slc f o n)[j]?=some (f (o+j)):=by simp[slc,List.getElem?_range h]
theorem slc_len (f:Nat→Value) (o n:Nat):(slc f o n).length=n:=by simp[slc]
theorem slc_one {f:Nat→Value} (o n:Nat) (h:∀j,j<108→(f j).oneCell'=true) (hn:o+n≤108):(slc f o n).toArray.all (·.oneCell')=true:=by
 simp only[List.all_toArray,List.all_eq_true]
 intro x hx
 simp only[slc,List.mem_map,List.mem_range] at hx
 obtain⟨j,hj,rfl⟩:=hx
 exact h _ (by omega)
theorem range_of {w:World} {g:Nat} {f:Nat→Value} (hb:Blk w g 86 (arr f)) (o n:Nat) (h:o+n≤108):w.rangeAt g o (slc f o n):=fun j v hv=>by
 have hj:j<n:=by have:=(List.getElem?_eq_some_iff.1 hv).1;rwa [slc_len] at this
 rw[slc_get f o n j hj] at hv
 rw[hb.cell,arr_get f _ (by omega)];exact hv
theorem plSt_of {B xb:Nat} {w:World} {o:Nat} {l:List PropV} {f:Nat→Value} (h:RSt B xb w o l (arr f)) (ho:o+37≤108) (hx:xb<w.heap.size):PlSt w l (slc f o 37).toArray:=by
 have hg:∀j,j<37→(slc f o 37).toArray[j]?=(arr f)[o+j]?:=fun j hj=>by
  rw[List.getElem?_toArray,slc_get f o 37 j hj,arr_get f _ (by omega)]
 have hd:∀(p:Option PropV) (v:Option Value),RDat xb w p v→∃A c,v=some (.slice A (dOf p).length c)∧Rd w 1 A (dOf p).length (bvs (dOf p))∧∀a,A=some a→a.block<w.heap.size:=fun p v hr=>by
  cases p with
  |none=>exact⟨none,0,hr,Rd.none_ _ _,by simp⟩
  |some x=>
   obtain⟨A,c,h1,h2,h3⟩:=hr
   have e:(dOf (some x)).length=x.text.size:=by simp[dOf]
   rw[e]
   exact⟨A,c,h1,h2,fun a ha=>by rw[h3 a ha];exact hx⟩
 refine⟨by simp[slc],fun j h4 hj=>by rw[hg j hj];exact h.sc j h4 hj,?_,?_,?_,?_⟩
 ·rw[hg 0 (by omega)];exact hd _ _ h.d0
 ·rw[hg 2 (by omega)];exact hd _ _ h.d2
 ·obtain⟨A,c,h1,h2,_⟩:=h.nm
  rw[hg 1 (by omega)];exact⟨A,c,h1,own_rd h2,fun a ha=>own_lt h2 a.block (by rw[ha];rfl)⟩
 ·obtain⟨A,c,h1,h2,_⟩:=h.us
  rw[hg 3 (by omega)];exact⟨A,c,h1,own_rd h2,fun a ha=>own_lt h2 a.block (by rw[ha];rfl)⟩
structure PkPl (q:PkV):Prop where
 kind:0≤q.kind∧q.kind≤255
 version:0≤q.version∧q.version≤255
 qos:0≤q.qos∧q.qos≤255
 code:0≤q.code∧q.code≤255
 id:0≤q.id∧q.id≤65535
 keep:0≤q.keep∧q.keep≤65535
 level:q.level=if q.kind=1 then q.version else 0
 payl:q.payload.length≤100000
 props:∃k,ProperL k q.props
 wills:∀u∈q.will,(0≤u.qos∧u.qos≤255)∧u.payload.length≤100000∧∃k,ProperL k u.props
 users:∀u∈q.user,u.length≤100000
 passes:∀u∈q.pass,u.length≤100000
 codes:q.codes.length≤1000∧∀c∈q.codes,0≤c∧c≤255
 subs:q.subs.length≤1000∧∀s∈q.subs,(0≤s.qos∧s.qos≤255)∧0≤s.handling∧s.handling≤255
def PlainOut (w:World) (q:PkV) (e:Ending) (w':World):Prop:=∃v,e=.returned (.agg (q.cells v))∧PkMem (fun b=>w.heap.size<b) w' q v∧Keeps [] w w'
end Go.Proofs.YtkglmacaecmhdaaGreatDoor
