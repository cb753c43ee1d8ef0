/- FnRoad, part Ua: the walks of E2. -/
import Derived.Test.YtkglmacaecmhdaaGreatDoorNa
import Derived.Test.YtkglmacaecmhdaaGreatDoorU
set_option linter.unusedVariables false
set_option linter.unusedSimpArgs false
set_option maxHeartbeats 8000000
set_option maxRecDepth 100000
namespace Go.Proofs.YtkglmacaecmhdaaGreatDoor
open Go Go.RowKit Tryz
theorem subDec_c (w:World) (sb:Nat) (f:ByteArray) (q h:Nat) (nl ap:Bool) (hh:h<3) (hq:q<3) (hB:Blk w sb 108 #[.slice none 0 0,.string f,.int .i64 0,.map none,.int .u8 0,.int .u8 0,.bool false,.bool false,.bool false]):
 Calls prog 98 #[.pointer (some ⟨sb,0,none⟩),.int .u8 ((optB q h nl ap).toNat:Int)] w fun e w'=>e=.returned (.tuple #[])∧Blk w' sb 108 #[.slice none 0 0,.string f,.int .i64 0,.map none,.int .u8 (h:Int),.int .u8 (q:Int),.bool ap,.bool nl,.bool false]∧Keeps [sb] w w':=by
 have fz:∀j,w.frozen? ⟨sb,j,none⟩=false:=fun j=>hB.frozen j
 have f4:=fz 4
 have f5:=fz 5
 have f6:=fz 6
 have f7:=fz 7
 have c4:w.cell? ⟨sb,4,none⟩=some (.int .u8 0):=by rw[hB.cell];rfl
 have c5:w.cell? ⟨sb,5,none⟩=some (.int .u8 0):=by rw[hB.cell];rfl
 have c6:w.cell? ⟨sb,6,none⟩=some (.bool false):=by rw[hB.cell];rfl
 have c7:w.cell? ⟨sb,7,none⟩=some (.bool false):=by rw[hB.cell];rfl
 have HB:=hH hB
 clear fz hB
 obtain rfl|rfl|rfl:h=0∨h=1∨h=2:=by omega
 all_goals
  obtain rfl|rfl|rfl:q=0∨q=1∨q=2:=by omega
  all_goals
   cases ap<;>cases nl
   all_goals
    go_enter func98,ntmps98
    go_wp2_with fail
    go_end0
    refine⟨rfl,(((HB.o.set_ 5 _).set_ 7 _).set_ 6 _).set_ 4 _,(((Keeps.setCell _ ⟨sb,5,none⟩ _).trans (Keeps.setCell _ ⟨sb,7,none⟩ _) (by simp)).trans (Keeps.setCell _ ⟨sb,6,none⟩ _) (by simp)).trans (Keeps.setCell _ ⟨sb,4,none⟩ _) (by simp)⟩
theorem info108:(prog.info? 108).map (fun i=>(i.zero,i.size,i.bytes))=some (some (.agg #[.slice none 0 0,.string ⟨#[]⟩,.int .i64 0,.map none,.int .u8 0,.int .u8 0,.bool false,.bool false,.bool false]),9,64):=by kernel_rfl
theorem upd_upd (f:Nat→Value) (i:Nat) (v u:Value):upd (upd f i v) i u=upd f i u:=by
 funext j;unfold upd;by_cases h:j=i<;>simp[h]
def UnRel (w0 w1:World) (g xb o c n:Nat) (xs:List UInt8) (f:Nat→Value) (subs:List SubP) (enc:SubP→List UInt8) (id:Int) (gk:Nat) (s5 s6:Value) (wr:World):Prop:=
 ∃(k off:Nat) (A:Option Addr) (cc:Nat),s5=.int .i64 (off:Int)∧s6=.nilIface∧k≤subs.length∧subs.length<gk+k∧xs.drop off=(subs.drop k).flatMap enc∧off≤n∧DSt w0 g xb o c n xs (upd f 89 (.slice A k cc)) wr∧
  wr.ownsRow 0 108 9 (.slice A k cc) k ((subs.take k).flatMap fun s=>(toV id s).cells)∧(∀q,A.map (·.block)=some q→w1.heap.size≤q)∧Keeps [g] w1 wr
theorem u_next {w0 w1 wr wq wz:World} {g xb o c n k off g':Nat} {xs:List UInt8} {f:Nat→Value} {subs:List SubP} {enc:SubP→List UInt8} {id:Int} {A A2:Option Addr} {cc c2:Nat} {u:SubP}
 (hu:subs[k]?=some u) (hlt:k<subs.length) (hg:subs.length<g'+1+k) (hx:xs.drop off=(subs.drop (k+1)).flatMap enc) (hoff:off≤n) (D:DSt w0 g xb o c n xs (upd f 89 (.slice A k cc)) wr)
 (hA:∀q,A.map (·.block)=some q→w1.heap.size≤q) (hk1:Keeps [g] w1 wr) (h01:w0.heap.size≤w1.heap.size) (hkq:Keeps [] wr wq)
 (ho:wz.ownsRow 0 108 9 (.slice A2 (k+1) c2) (k+1) (((subs.take k).flatMap fun s=>(toV id s).cells)++(toV id u).cells)) (hkz:Keeps (Value.slice A k cc).ownBlock.toList wq wz) (hd:A2.map (·.block)=(Value.slice A k cc).ownBlock∨A2.map (·.block)=some wq.heap.size):
 UnRel w0 w1 g xb o c n xs f subs enc id g' (.int .i64 (off:Int)) .nilIface (wz.setCell ⟨g,89,none⟩ (.slice A2 (k+1) c2)):=by
 rw[own_slice] at hkz hd
 have hgl:=D.hg
 have hsq:w1.heap.size≤wq.heap.size:=Nat.le_trans hk1.size hkq.size
 have hA2:∀q,A2.map (·.block)=some q→w1.heap.size≤q:=fun q hq=>by
  rcases hd with h|h
  ·exact hA q (by rw[←h];exact hq)
  ·rw[h] at hq;injection hq with hq;omega
 have hset:=Keeps.setCell wz ⟨g,89,none⟩ (.slice A2 (k+1) c2)
 have D2:=((D.keep hkq).keep2 _ hkz (fun x hx=>Nat.le_trans h01 (hA x (Option.mem_toList.1 hx)))).set 89 (.slice A2 (k+1) c2)
 rw[upd_upd] at D2
 refine⟨k+1,off,A2,c2,rfl,rfl,hlt,by omega,hx,hoff,D2,ownsRow_keep ?_ hset ?_,hA2,?_⟩
 ·rw[List.take_add_one,hu]
  simpa using ho
 ·intro q hq hm
  rw[own_slice] at hq
  have:=hA2 q hq
  simp at hm
  omega
 ·exact((hk1.trans hkq (by simp)).trans hkz (fun x hx=>.inr (hA x (Option.mem_toList.1 hx)))).trans hset (by simp)
theorem u_start {w0 w1:World} {g xb o c n off:Nat} {xs:List UInt8} {f:Nat→Value} {subs:List SubP} {enc:SubP→List UInt8} {id:Int} (D:DSt w0 g xb o c n xs f w1) (hx:xs.drop off=subs.flatMap enc) (hoff:off≤n):
 UnRel w0 w1 g xb o c n xs f subs enc id (subs.length+1) (.int .i64 (off:Int)) .nilIface ((w1.alloc (.cells #[] 108)).setCell ⟨g,89,none⟩ (.slice (some ⟨w1.heap.size,0,none⟩) 0 0)):=by
 have hgl:g<w1.heap.size:=D.blk.lt
 have hset:=Keeps.setCell (w1.alloc (.cells #[] 108)) ⟨g,89,none⟩ (.slice (some ⟨w1.heap.size,0,none⟩) 0 0)
 refine⟨0,off,some ⟨w1.heap.size,0,none⟩,0,rfl,rfl,Nat.zero_le _,by omega,hx,hoff,(D.keep (Keeps.alloc w1 _)).set 89 _,?_,fun q hq=>by simp at hq;omega,?_⟩
 ·exact ownsRow_keep (by simpa using own_empty (size:=9) (Blk.new w1 108 #[])) hset (fun q hq=>by rw[own_slice] at hq;simp at hq;simp;omega)
 ·exact((Keeps.alloc w1 _).mono (by simp)).trans hset (by simp)
theorem u_done {subs:List SubP} {enc:SubP→List UInt8} (he:∀u∈subs,0<(enc u).length) {xs:List UInt8} {off k n:Nat} (hn:xs.length=n) (hk:k≤subs.length) (hx:xs.drop off=(subs.drop k).flatMap enc):(off<n↔k<subs.length):=by
 constructor
 ·intro h
  rcases Nat.lt_or_ge k subs.length with h1|h1
  ·exact h1
  ·rw[List.drop_of_length_le h1] at hx
   have:=congrArg List.length hx
   simp at this
   omega
 ·intro h
  obtain⟨u,hu⟩:∃u,subs[k]?=some u:=⟨_,List.getElem?_eq_getElem h⟩
  have e:subs.drop k=u::subs.drop (k+1):=by
   rw[List.drop_eq_getElem_cons h]
   rw[List.getElem?_eq_getElem h] at hu
   injection hu with hu
   rw[hu]
  rw[e,List.flatMap_cons] at hx
  have h1:=he u (List.mem_of_getElem? hu)
  have:=drop_le hx h1
  omega
theorem u_drop {subs:List SubP} {enc:SubP→List UInt8} {xs:List UInt8} {off k:Nat} {u:SubP} (hu:subs[k]?=some u) (hx:xs.drop off=(subs.drop k).flatMap enc):xs.drop off=enc u++(subs.drop (k+1)).flatMap enc:=by
 obtain⟨h,rfl⟩:=List.getElem?_eq_some_iff.1 hu
 rw[hx,List.drop_eq_getElem_cons h,List.flatMap_cons]
end Go.Proofs.YtkglmacaecmhdaaGreatDoor
