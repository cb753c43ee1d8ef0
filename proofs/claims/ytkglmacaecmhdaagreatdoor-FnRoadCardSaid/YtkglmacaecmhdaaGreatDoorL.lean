/- FnRoad, part L: the walks of L3. -/
import Derived.Test.YtkglmacaecmhdaaGreatDoorK
set_option linter.unusedVariables false
set_option linter.unusedSimpArgs false
set_option maxHeartbeats 20000000
set_option maxRecDepth 100000
namespace Go.Proofs.YtkglmacaecmhdaaGreatDoor
open Go Go.RowKit Tryz
structure SameH (a b:PkV):Prop where
 kind:a.kind=b.kind
 version:a.version=b.version
 dup:a.dup=b.dup
 retain:a.retain=b.retain
 qos:a.kind=3→a.qos=b.qos
 id:a.id=b.id
 topic:a.topic=b.topic
 payload:a.payload=b.payload
 client:a.client=b.client
 clean:a.clean=b.clean
 keep:a.keep=b.keep
 present:a.present=b.present
 code:a.code=b.code
structure SameP (a b:PkV):Prop extends SameH a b where
 will:a.will=b.will
 user:a.user=b.user
 pass:a.pass=b.pass
 codes:a.codes=b.codes
 subs:a.subs=b.subs
 props:a.props=b.props
structure Lens (p:PkV):Prop where
 will:p.will.length≤140737488355328
 user:p.user.length≤140737488355328
 pass:p.pass.length≤140737488355328
 codes:p.codes.length≤140737488355328
 subs:p.subs.length≤140737488355328
 props:p.props.length≤140737488355328
 wills:∀u∈p.will,u.props.length≤140737488355328∧u.topic.size≤140737488355328∧∀x∈u.props,x.text.size≤140737488355328∧x.other.size≤140737488355328
theorem neq_ba {a b:ByteArray} (h:a≠b):(!a.toList==b.toList)=true:=by
 simp only[Bool.not_eq_true',beq_eq_false_iff_ne];exact fun e=>h (ba_toList e)
theorem eq_ba (a:ByteArray):(!a.toList==a.toList)=false:=by simp
theorem SubP.ext_ {x y:SubP} (h1:x.filter=y.filter) (h2:x.qos=y.qos) (h3:x.nl=y.nl) (h4:x.ap=y.ap) (h5:x.handling=y.handling):x=y:=by
 cases x;cases y;simp_all
theorem neq56_eq (w:World) (x y:SubP) (h:x=y):(binOp .neq 56 (.agg #[.string x.filter,.int .i64 x.qos,.bool x.nl,.bool x.ap,.int .i64 x.handling]) (.agg #[.string y.filter,.int .i64 y.qos,.bool y.nl,.bool y.ap,.int .i64 y.handling])).run prog w=.ok (.bool false) w:=by
 subst h
 go_simp
theorem neq56_ne (w:World) (x y:SubP) (h:¬x=y):(binOp .neq 56 (.agg #[.string x.filter,.int .i64 x.qos,.bool x.nl,.bool x.ap,.int .i64 x.handling]) (.agg #[.string y.filter,.int .i64 y.qos,.bool y.nl,.bool y.ap,.int .i64 y.handling])).run prog w=.ok (.bool true) w:=by
 go_simp
 intro h1 h2 h3 h4 h5
 exact h (SubP.ext_ (ba_toList h1) h2 h3 h4 h5)
def S1 (W:World) (a b:PkV) (s:Value) (wc:World):Prop:=∃r,s=.bool r∧(r=false↔SameH a b)∧W=wc
theorem s1_no {W:World} {a b:PkV} (h:¬SameH a b):S1 W a b (.bool true) W:=⟨true,rfl,⟨by simp,fun e=>absurd e h⟩,rfl⟩
structure SameM (a b:PkV):Prop where
 will:a.will.length=b.will.length
 user:a.user=b.user
 pass:a.pass=b.pass
 codes:a.codes.length=b.codes.length
 subs:a.subs.length=b.subs.length
 props:a.props=b.props
def S2 (W:World) (a b:PkV) (s:Value) (wc:World):Prop:=∃r,s=.bool r∧(r=false↔SameM a b)∧Keeps [] W wc
theorem s2_no {W wc:World} {a b:PkV} (h:¬SameM a b) (k:Keeps [] W wc):S2 W a b (.bool true) wc:=⟨true,rfl,⟨by simp,fun e=>absurd e h⟩,k⟩
theorem zL0 {p:Prop} (h:p:=by
 go_wp2_with fail
 all_goals
  go_meet
  case rel=>exact s1_no hno.o
 ):p:=h
theorem zL1 {p:Prop} (h:p:=by
 go_wp2_with fail
 go_ret
 exact⟨false,rfl,⟨by simp,fun h=>absurd h hN.o⟩,HKW.o.trans HK7.o (by simp)⟩
 ):p:=h
theorem zL2 {p:Prop} (h:p:=by
 go_wp2_with fail
 go_quiet (fail)
 go_wp2_with fail
 go_roundg g'
 case measure=>omega
 case rel=>exact⟨k+1,by go_num,by omega,by omega,hst.o,HKW2.o.trans (Keeps.drewN _ _) (by simp)⟩
 ):p:=h
theorem zL3 {p:Prop} (h:p:=by
 go_wp2_with fail
 go_quiet (fail)
 go_wp2_with fail
 go_ret
 exact⟨false,rfl,⟨by simp,fun h=>absurd h hno.o⟩,HKW.o.trans (HKW2.o.trans (Keeps.drewN _ _) (by simp)) (by simp)⟩
 ):p:=h
theorem zL4 {p:Prop} (h:p:=by
 go_wp2_with fail
 go_meet
 case rel=>exact s2_no hno.o HK2.o
 ):p:=h
theorem Same_c (N:Nat→Prop) (w:World) (a b:PkV) (va vb:Nat→Value) (ha:PkMem N w a va) (hb:PkMem N w b vb) (hla:Lens a) (hlb:Lens b):
 Calls prog 12 #[.agg (a.sells va),.agg (b.sells vb)] w (Iff1 w (SameP a b)):=by
 obtain⟨W,hW⟩:∃W,(w.alloc (.cells (a.sells va) 35)).alloc (.cells (b.sells vb) 35)=W:=⟨_,rfl⟩
 have HKW:Hd (Keeps [] w W):=by rw[←hW];exact(Keeps.alloc _ _).trans (Keeps.alloc _ _) (by simp)
 have HBA:Hd (Blk W w.heap.size 35 (a.sells va)):=by rw[←hW];exact(Blk.new _ _ _).alloc _
 have HBB:Hd (Blk W (w.heap.size+1) 35 (b.sells vb)):=by rw[←hW];have h:=Blk.new (w.alloc (.cells (a.sells va) 35)) 35 (b.sells vb);rwa [World.size_alloc] at h
 have HA:=hH (ha.keep HKW.o (by simp))
 have HB:=hH (hb.keep HKW.o (by simp))
 have HLA:=hH hla
 have HLB:=hH hlb
 have HW:=hH hW
 clear hW ha hb hla hlb
 obtain⟨A7,e7,x7,r7,_,_⟩:=HA.o.m7
 obtain⟨B7,d7,y7,q7,_,_⟩:=HB.o.m7
 have cx:(convert 22 9 (va 7)).run prog W=.ok (.string ⟨a.payload.toArray⟩) W:=by rw[x7];exact conv_bytes W A7 e7 _ r7
 have cy:(convert 22 9 (vb 7)).run prog W=.ok (.string ⟨b.payload.toArray⟩) W:=by rw[y7];exact conv_bytes W B7 d7 _ q7
 clear x7 r7 y7 q7
 obtain⟨xa13,⟨A13,n13,ea13,_⟩,_⟩:=HA.o.m13
 obtain⟨xb13,⟨B13,m13,eb13,_⟩,_⟩:=HB.o.m13
 obtain⟨A18,n18,ea18,_⟩:=HA.o.m18
 obtain⟨B18,m18,eb18,_⟩:=HB.o.m18
 obtain⟨A19,n19,ea19,_⟩:=HA.o.m19
 obtain⟨B19,m19,eb19,_⟩:=HB.o.m19
 have a0:W.cell? ⟨w.heap.size,0,none⟩=some (.int .i64 a.kind):=by rw[HBA.o.cell];rfl
 have b0:W.cell? ⟨w.heap.size+1,0,none⟩=some (.int .i64 b.kind):=by rw[HBB.o.cell];rfl
 have a1:W.cell? ⟨w.heap.size,1,none⟩=some (.int .i64 a.version):=by rw[HBA.o.cell];rfl
 have b1:W.cell? ⟨w.heap.size+1,1,none⟩=some (.int .i64 b.version):=by rw[HBB.o.cell];rfl
 have a2:W.cell? ⟨w.heap.size,2,none⟩=some (.bool a.dup):=by rw[HBA.o.cell];rfl
 have b2:W.cell? ⟨w.heap.size+1,2,none⟩=some (.bool b.dup):=by rw[HBB.o.cell];rfl
 have a3:W.cell? ⟨w.heap.size,3,none⟩=some (.bool a.retain):=by rw[HBA.o.cell];rfl
 have b3:W.cell? ⟨w.heap.size+1,3,none⟩=some (.bool b.retain):=by rw[HBB.o.cell];rfl
 have a4:W.cell? ⟨w.heap.size,4,none⟩=some (.int .i64 a.qos):=by rw[HBA.o.cell];rfl
 have b4:W.cell? ⟨w.heap.size+1,4,none⟩=some (.int .i64 b.qos):=by rw[HBB.o.cell];rfl
 have a5:W.cell? ⟨w.heap.size,5,none⟩=some (.int .i64 a.id):=by rw[HBA.o.cell];rfl
 have b5:W.cell? ⟨w.heap.size+1,5,none⟩=some (.int .i64 b.id):=by rw[HBB.o.cell];rfl
 have a6:W.cell? ⟨w.heap.size,6,none⟩=some (.string a.topic):=by rw[HBA.o.cell];rfl
 have b6:W.cell? ⟨w.heap.size+1,6,none⟩=some (.string b.topic):=by rw[HBB.o.cell];rfl
 have a7:W.cell? ⟨w.heap.size,7,none⟩=some (va 7):=by rw[HBA.o.cell];rfl
 have b7:W.cell? ⟨w.heap.size+1,7,none⟩=some (vb 7):=by rw[HBB.o.cell];rfl
 have a8:W.cell? ⟨w.heap.size,8,none⟩=some (.string a.client):=by rw[HBA.o.cell];rfl
 have b8:W.cell? ⟨w.heap.size+1,8,none⟩=some (.string b.client):=by rw[HBB.o.cell];rfl
 have a9:W.cell? ⟨w.heap.size,9,none⟩=some (.bool a.clean):=by rw[HBA.o.cell];rfl
 have b9:W.cell? ⟨w.heap.size+1,9,none⟩=some (.bool b.clean):=by rw[HBB.o.cell];rfl
 have a10:W.cell? ⟨w.heap.size,10,none⟩=some (.int .i64 a.keep):=by rw[HBA.o.cell];rfl
 have b10:W.cell? ⟨w.heap.size+1,10,none⟩=some (.int .i64 b.keep):=by rw[HBB.o.cell];rfl
 have a14:W.cell? ⟨w.heap.size,14,none⟩=some (.bool a.present):=by rw[HBA.o.cell];rfl
 have b14:W.cell? ⟨w.heap.size+1,14,none⟩=some (.bool b.present):=by rw[HBB.o.cell];rfl
 have a15:W.cell? ⟨w.heap.size,15,none⟩=some (.int .i64 a.code):=by rw[HBA.o.cell];rfl
 have b15:W.cell? ⟨w.heap.size+1,15,none⟩=some (.int .i64 b.code):=by rw[HBB.o.cell];rfl
 have a11:W.cell? ⟨w.heap.size,11,none⟩=some (va 13):=by rw[HBA.o.cell];rfl
 have b11:W.cell? ⟨w.heap.size+1,11,none⟩=some (vb 13):=by rw[HBB.o.cell];rfl
 have a12:W.cell? ⟨w.heap.size,12,none⟩=some (va 14):=by rw[HBA.o.cell];rfl
 have b12:W.cell? ⟨w.heap.size+1,12,none⟩=some (vb 14):=by rw[HBB.o.cell];rfl
 have a13:W.cell? ⟨w.heap.size,13,none⟩=some (va 15):=by rw[HBA.o.cell];rfl
 have b13:W.cell? ⟨w.heap.size+1,13,none⟩=some (vb 15):=by rw[HBB.o.cell];rfl
 have a16:W.cell? ⟨w.heap.size,16,none⟩=some (va 18):=by rw[HBA.o.cell];rfl
 have b16:W.cell? ⟨w.heap.size+1,16,none⟩=some (vb 18):=by rw[HBB.o.cell];rfl
 have a17:W.cell? ⟨w.heap.size,17,none⟩=some (va 19):=by rw[HBA.o.cell];rfl
 have b17:W.cell? ⟨w.heap.size+1,17,none⟩=some (vb 19):=by rw[HBB.o.cell];rfl
 have a18:W.cell? ⟨w.heap.size,18,none⟩=some (va 20):=by rw[HBA.o.cell];rfl
 have b18:W.cell? ⟨w.heap.size+1,18,none⟩=some (vb 20):=by rw[HBB.o.cell];rfl
 rw[ea13] at a11
 rw[eb13] at b11
 rw[ea18] at a16
 rw[eb18] at b16
 rw[ea19] at a17
 rw[eb19] at b17
 have EA13:=hH ea13
 have EB13:=hH eb13
 have EA18:=hH ea18
 have EB18:=hH eb18
 have EA19:=hH ea19
 have EB19:=hH eb19
 clear ea13 eb13 ea18 eb18 ea19 eb19
 go_enter func12,ntmps12
 go_upto_region 1 with fail
 rw[HW.o]
 simp only[List.append_eq,List.cons_append,List.nil_append]
 go_cut [105] from 10 to 105 (fun s wc=>S1 W a b s wc)
 case first=>
  have ok:∀r,(r=false↔SameH a b)→S1 W a b (.bool r) W:=fun r h=>⟨r,rfl,h,rfl⟩
  have OK:=hH ok
  clear ok
  obtain⟨fa0,ea0⟩:∃x,a.kind=x:=⟨_,rfl⟩
  obtain⟨fb0,eb0⟩:∃x,b.kind=x:=⟨_,rfl⟩
  rw[ea0] at a0
  rw[eb0] at b0
  have EA0:=hH ea0
  have EB0:=hH eb0
  clear ea0 eb0
  obtain⟨fa1,ea1⟩:∃x,a.version=x:=⟨_,rfl⟩
  obtain⟨fb1,eb1⟩:∃x,b.version=x:=⟨_,rfl⟩
  rw[ea1] at a1
  rw[eb1] at b1
  have EA1:=hH ea1
  have EB1:=hH eb1
  clear ea1 eb1
  obtain⟨fa2,ea2⟩:∃x,a.dup=x:=⟨_,rfl⟩
  obtain⟨fb2,eb2⟩:∃x,b.dup=x:=⟨_,rfl⟩
  rw[ea2] at a2
  rw[eb2] at b2
  have EA2:=hH ea2
  have EB2:=hH eb2
  clear ea2 eb2
  obtain⟨fa3,ea3⟩:∃x,a.retain=x:=⟨_,rfl⟩
  obtain⟨fb3,eb3⟩:∃x,b.retain=x:=⟨_,rfl⟩
  rw[ea3] at a3
  rw[eb3] at b3
  have EA3:=hH ea3
  have EB3:=hH eb3
  clear ea3 eb3
  obtain⟨fa4,ea4⟩:∃x,a.qos=x:=⟨_,rfl⟩
  obtain⟨fb4,eb4⟩:∃x,b.qos=x:=⟨_,rfl⟩
  rw[ea4] at a4
  rw[eb4] at b4
  have EA4:=hH ea4
  have EB4:=hH eb4
  clear ea4 eb4
  obtain⟨fa5,ea5⟩:∃x,a.id=x:=⟨_,rfl⟩
  obtain⟨fb5,eb5⟩:∃x,b.id=x:=⟨_,rfl⟩
  rw[ea5] at a5
  rw[eb5] at b5
  have EA5:=hH ea5
  have EB5:=hH eb5
  clear ea5 eb5
  obtain⟨fa6,ea6⟩:∃x,a.topic=x:=⟨_,rfl⟩
  obtain⟨fb6,eb6⟩:∃x,b.topic=x:=⟨_,rfl⟩
  rw[ea6] at a6
  rw[eb6] at b6
  have EA6:=hH ea6
  have EB6:=hH eb6
  clear ea6 eb6
  obtain⟨fa7,ea7⟩:∃x,a.payload=x:=⟨_,rfl⟩
  obtain⟨fb7,eb7⟩:∃x,b.payload=x:=⟨_,rfl⟩
  rw[ea7] at cx
  rw[eb7] at cy
  have EA7:=hH ea7
  have EB7:=hH eb7
  clear ea7 eb7
  obtain⟨fa8,ea8⟩:∃x,a.client=x:=⟨_,rfl⟩
  obtain⟨fb8,eb8⟩:∃x,b.client=x:=⟨_,rfl⟩
  rw[ea8] at a8
  rw[eb8] at b8
  have EA8:=hH ea8
  have EB8:=hH eb8
  clear ea8 eb8
  obtain⟨fa9,ea9⟩:∃x,a.clean=x:=⟨_,rfl⟩
  obtain⟨fb9,eb9⟩:∃x,b.clean=x:=⟨_,rfl⟩
  rw[ea9] at a9
  rw[eb9] at b9
  have EA9:=hH ea9
  have EB9:=hH eb9
  clear ea9 eb9
  obtain⟨fa10,ea10⟩:∃x,a.keep=x:=⟨_,rfl⟩
  obtain⟨fb10,eb10⟩:∃x,b.keep=x:=⟨_,rfl⟩
  rw[ea10] at a10
  rw[eb10] at b10
  have EA10:=hH ea10
  have EB10:=hH eb10
  clear ea10 eb10
  obtain⟨fa14,ea14⟩:∃x,a.present=x:=⟨_,rfl⟩
  obtain⟨fb14,eb14⟩:∃x,b.present=x:=⟨_,rfl⟩
  rw[ea14] at a14
  rw[eb14] at b14
  have EA14:=hH ea14
  have EB14:=hH eb14
  clear ea14 eb14
  obtain⟨fa15,ea15⟩:∃x,a.code=x:=⟨_,rfl⟩
  obtain⟨fb15,eb15⟩:∃x,b.code=x:=⟨_,rfl⟩
  rw[ea15] at a15
  rw[eb15] at b15
  have EA15:=hH ea15
  have EB15:=hH eb15
  clear ea15 eb15
  by_cases h0:fa0=fb0
  rotate_left
  ·have hno:Hd (¬SameH a b):=fun h=>h0 (by rw[←EA0.o,←EB0.o,h.kind])
   have hnb:(fa0 !=fb0)=true:=by simpa using h0
   clear h0
   exact zL0
  subst h0
  by_cases h1:fa1=fb1
  rotate_left
  ·have hno:Hd (¬SameH a b):=fun h=>h1 (by rw[←EA1.o,←EB1.o,h.version])
   have hnb:(fa1 !=fb1)=true:=by simpa using h1
   clear h1
   exact zL0
  subst h1
  by_cases h2:fa2=fb2
  rotate_left
  ·have hno:Hd (¬SameH a b):=fun h=>h2 (by rw[←EA2.o,←EB2.o,h.dup])
   have hnb:(fa2 !=fb2)=true:=by simpa using h2
   have hnb2:(!fa2==fb2)=true:=by simpa using h2
   clear h2
   exact zL0
  subst h2
  by_cases h3:fa3=fb3
  rotate_left
  ·have hno:Hd (¬SameH a b):=fun h=>h3 (by rw[←EA3.o,←EB3.o,h.retain])
   have hnb:(fa3 !=fb3)=true:=by simpa using h3
   have hnb2:(!fa3==fb3)=true:=by simpa using h3
   clear h3
   exact zL0
  subst h3
  by_cases hq:fa0=3→fa4=fb4
  rotate_left
  ·obtain⟨h3,hne⟩:fa0=3∧¬fa4=fb4:=by simpa using hq
   have h3b:(fa0==3)=true:=by simpa using h3
   have hnb:(fa4 !=fb4)=true:=by simpa using hne
   clear hne h3
   have hno:Hd (¬SameH a b):=fun h=>hq (fun e=>by rw[←EA4.o,←EB4.o];exact h.qos (by rw[EA0.o];exact e))
   clear hq
   go_wp2_with fail
   go_meet
   case rel=>exact s1_no hno.o
  have HQ:=hH hq
  clear hq
  by_cases h5:fa5=fb5
  rotate_left
  ·have hno:Hd (¬SameH a b):=fun h=>h5 (by rw[←EA5.o,←EB5.o,h.id])
   have hnb:(fa5 !=fb5)=true:=by simpa using h5
   clear h5
   exact zL0
  subst h5
  by_cases h6:fa6=fb6
  rotate_left
  ·have hno:Hd (¬SameH a b):=fun h=>h6 (by rw[←EA6.o,←EB6.o,h.topic])
   have hnb:=neq_ba h6
   clear h6
   exact zL0
  subst h6
  by_cases h7:fa7=fb7
  rotate_left
  ·have hno:Hd (¬SameH a b):=fun h=>h7 (by rw[←EA7.o,←EB7.o,h.payload])
   have hnb:=neq_str h7
   generalize (⟨fa7.toArray⟩:ByteArray)=sx at*
   generalize (⟨fb7.toArray⟩:ByteArray)=sy at*
   clear h7
   exact zL0
  subst h7
  by_cases h8:fa8=fb8
  rotate_left
  ·have hno:Hd (¬SameH a b):=fun h=>h8 (by rw[←EA8.o,←EB8.o,h.client])
   have hnb:=neq_ba h8
   clear h8
   exact zL0
  subst h8
  by_cases h9:fa9=fb9
  rotate_left
  ·have hno:Hd (¬SameH a b):=fun h=>h9 (by rw[←EA9.o,←EB9.o,h.clean])
   have hnb:(fa9 !=fb9)=true:=by simpa using h9
   have hnb2:(!fa9==fb9)=true:=by simpa using h9
   clear h9
   exact zL0
  subst h9
  by_cases h10:fa10=fb10
  rotate_left
  ·have hno:Hd (¬SameH a b):=fun h=>h10 (by rw[←EA10.o,←EB10.o,h.keep])
   have hnb:(fa10 !=fb10)=true:=by simpa using h10
   clear h10
   exact zL0
  subst h10
  by_cases h14:fa14=fb14
  rotate_left
  ·have hno:Hd (¬SameH a b):=fun h=>h14 (by rw[←EA14.o,←EB14.o,h.present])
   have hnb:(fa14 !=fb14)=true:=by simpa using h14
   have hnb2:(!fa14==fb14)=true:=by simpa using h14
   clear h14
   exact zL0
  subst h14
  by_cases h15:fa15=fb15
  rotate_left
  ·have hno:Hd (¬SameH a b):=fun h=>h15 (by rw[←EA15.o,←EB15.o,h.code])
   have hnb:(fa15 !=fb15)=true:=by simpa using h15
   clear h15
   exact zL0
  subst h15
  have hyes:Hd (SameH a b):=⟨EA0.o.trans EB0.o.symm,EA1.o.trans EB1.o.symm,EA2.o.trans EB2.o.symm,EA3.o.trans EB3.o.symm,fun h=>by rw[EA4.o,EB4.o];exact HQ.o (by rw[←EA0.o];exact h),EA5.o.trans EB5.o.symm,EA6.o.trans EB6.o.symm,EA7.o.trans EB7.o.symm,EA8.o.trans EB8.o.symm,EA9.o.trans EB9.o.symm,EA10.o.trans EB10.o.symm,EA14.o.trans EB14.o.symm,EA15.o.trans EB15.o.symm⟩
  generalize (⟨fa7.toArray⟩:ByteArray)=sx at*
  go_wp2_with fail
  all_goals
   go_meet
   case rel=>first|exact OK.o _ ⟨fun _=>hyes.o,fun _=>rfl⟩|(exfalso;have h:=HQ.o;simp_all)
 case rest=>
 obtain⟨r,rfl,hr,hwc⟩:=hcut
 subst hwc
 cases r with
 |true=>
  have hno:Hd (¬SameP a b):=fun h=>by have:=hr.2 h.toSameH;cases this
  clear hr
  go_wp2_with fail
  go_ret
  exact⟨false,rfl,⟨by simp,fun h=>absurd h hno.o⟩,HKW.o⟩
 |false=>
  have HH:=hH (hr.1 rfl)
  clear hr
  go_upto_region 3 with fail
  go_cut [154] from 106 to 154 (fun s wc=>S2 W a b s wc)
  case first=>
   have HNE:Hd (∀m n:Nat,m=n→((m:Int)!=(n:Int))=false):=fun m n h=>by simp[h]
   have HNN:Hd (∀m n:Nat,¬m=n→((m:Int)!=(n:Int))=true):=fun m n h=>by simp;omega
   have hca:Hd (∀w1,Keeps [] W w1→∀j,w1.cell? ⟨w.heap.size,j,none⟩=W.cell? ⟨w.heap.size,j,none⟩):=fun w1 k j=>k.cell HBA.o.lt (by simp)
   have hcb:Hd (∀w1,Keeps [] W w1→∀j,w1.cell? ⟨w.heap.size+1,j,none⟩=W.cell? ⟨w.heap.size+1,j,none⟩):=fun w1 k j=>k.cell HBB.o.lt (by simp)
   by_cases h1:a.will.length=b.will.length
   rotate_left
   ·have hnb:=HNN.o _ _ h1
    have hno:Hd (¬SameM a b):=fun h=>h1 h.will
    clear h1
    go_wp2_with fail
    go_meet
    case rel=>exact s2_no hno.o (Keeps.refl _ _)
   have H1:=hH h1
   have hb1:=HNE.o _ _ h1
   clear h1
   have L1:=hH (lists_c N W (va 14) (vb 14) a.user b.user HA.o.m14 HB.o.m14 HLA.o.user HLB.o.user)
   go_wp2_with fail
   go_fit (L1.o)
   rintro e w1 ⟨r1,rfl,hr1,hk1⟩
   cases r1 with
   |false=>
    have hno:Hd (¬SameM a b):=fun h=>by have:=hr1.2 h.user;cases this
    clear hr1
    go_wp2_with fail
    go_meet
    case rel=>exact s2_no hno.o hk1
   |true=>
   have H2:=hH (hr1.1 rfl)
   clear hr1
   have a13w:=(hca.o w1 hk1 13).trans a13
   have b13w:=(hcb.o w1 hk1 13).trans b13
   have L2:=hH (lists_c N w1 (va 15) (vb 15) a.pass b.pass (HA.o.m15.keep hk1 (by simp)) (HB.o.m15.keep hk1 (by simp)) HLA.o.pass HLB.o.pass)
   go_wp2_with fail
   go_fit (L2.o)
   rintro e w2 ⟨r2,rfl,hr2,hk2⟩
   have hk2':=hk1.trans hk2 (by simp)
   have HK2:=hH hk2'
   clear hk2 hk2' a13w b13w
   cases r2 with
   |false=>
    have hno:Hd (¬SameM a b):=fun h=>by have:=hr2.2 h.pass;cases this
    clear hr2
    exact zL4
   |true=>
   have H3:=hH (hr2.1 rfl)
   clear hr2
   have a16w:=(hca.o w2 HK2.o 16).trans a16
   have b16w:=(hcb.o w2 HK2.o 16).trans b16
   by_cases h4:a.codes.length=b.codes.length
   rotate_left
   ·have hnb:=HNN.o _ _ h4
    have hno:Hd (¬SameM a b):=fun h=>h4 h.codes
    clear h4
    exact zL4
   have H4:=hH h4
   have hb4:=HNE.o _ _ h4
   clear h4
   have a17w:=(hca.o w2 HK2.o 17).trans a17
   have b17w:=(hcb.o w2 HK2.o 17).trans b17
   by_cases h5:a.subs.length=b.subs.length
   rotate_left
   ·have hnb:=HNN.o _ _ h5
    have hno:Hd (¬SameM a b):=fun h=>h5 h.subs
    clear h5
    exact zL4
   have H5:=hH h5
   have hb5:=HNE.o _ _ h5
   clear h5
   have a18w:=(hca.o w2 HK2.o 18).trans a18
   have b18w:=(hcb.o w2 HK2.o 18).trans b18
   have L3:=hH (same_c N w2 (va 20) (vb 20) a.props b.props (HA.o.m20.keep HK2.o (by simp)) (HB.o.m20.keep HK2.o (by simp)) HLA.o.props HLB.o.props)
   go_wp2_with fail
   go_fit (L3.o)
   rintro e w3 ⟨r3,rfl,hr3,hk3⟩
   cases r3 with
   |false=>
    have hno:Hd (¬SameM a b):=fun h=>by have:=hr3.2 h.props;cases this
    clear hr3
    go_wp2_with fail
    go_meet
    case rel=>exact s2_no hno.o (HK2.o.trans hk3 (by simp))
   |true=>
    have H6:=hH (hr3.1 rfl)
    clear hr3
    go_wp2_with fail
    go_meet
    case rel=>exact⟨false,rfl,⟨fun _=>⟨H1.o,H2.o,H3.o,H4.o,H5.o,H6.o⟩,fun _=>rfl⟩,HK2.o.trans hk3 (by simp)⟩
  case rest=>
  obtain⟨r,rfl,hr,hwc⟩:=hcut
  cases r with
  |true=>
   have hno:Hd (¬SameP a b):=fun h=>by have:=hr.2 ⟨by rw[h.will],h.user,h.pass,by rw[h.codes],by rw[h.subs],h.props⟩;cases this
   clear hr
   have HWC:=hH hwc
   clear hwc
   go_wp2_with fail
   go_ret
   exact⟨false,rfl,⟨by simp,fun h=>absurd h hno.o⟩,HKW.o.trans HWC.o (by simp)⟩
  |false=>
   have HM:=hH (hr.1 rfl)
   have HWC:=hH hwc
   have hca:Hd (∀w1,Keeps [] W w1→∀j,w1.cell? ⟨w.heap.size,j,none⟩=W.cell? ⟨w.heap.size,j,none⟩):=fun w1 k j=>k.cell HBA.o.lt (by simp)
   have hcb:Hd (∀w1,Keeps [] W w1→∀j,w1.cell? ⟨w.heap.size+1,j,none⟩=W.cell? ⟨w.heap.size+1,j,none⟩):=fun w1 k j=>k.cell HBB.o.lt (by simp)
   clear hr
   have a11w:=(hca.o wc hwc 11).trans a11
   clear hwc
   have HXA:=HA.o.m13
   have HXB:=HB.o.m13
   obtain⟨xa,⟨A13',n13',eA13',hra,_,_⟩,hwa⟩:=HXA
   obtain⟨xb,⟨B13',m13',eB13',hrb,_,_⟩,hwb⟩:=HXB
   rw[EA13.o] at eA13'
   rw[EB13.o] at eB13'
   injection eA13' with i1 i2 i3
   subst i1 i3
   injection eB13' with j1 j2 j3
   subst j1 j3
   clear i2 j2
   have HRA:=hH hra
   have HRB:=hH hrb
   have HWA:=hH hwa
   have HWB:=hH hwb
   clear hra hrb hwa hwb
   have hlw:a.will.length≤140737488355328:=HLA.o.will
   go_wp2_with fail
   go_loopg [158] (a.will.length+1) (fun gk i wr=>SRel W a.will b.will gk i wr)
   case atStart=>exact⟨0,rfl,by omega,by omega,rfl,HWC.o⟩
   case round=>
   obtain⟨k,rfl,hk,hgk,htk,hkw⟩:=hrel
   have HTK:=hH htk
   have HKW2:=hH hkw
   clear htk hkw
   by_cases hlt:k<a.will.length
   ·as_aux_lemma=>
    obtain⟨g',rfl⟩:∃g',gk=g'+1:=⟨gk-1,by omega⟩
    have hltz:(k:Int)<(a.will.length:Int):=by omega
    have hltb:k<b.will.length:=by have:=HM.o.will;omega
    have hltbz:(k:Int)<(b.will.length:Int):=by omega
    obtain⟨ba,oa,rfl,hcl⟩:=HRA.o.2 (by omega)
    obtain⟨bb,ob,rfl,hdl⟩:=HRB.o.2 (by omega)
    obtain⟨⟨ut,up,uq,ur,ul⟩,hu⟩:∃x,a.will[k]=x:=⟨_,rfl⟩
    obtain⟨⟨zt,zp,zq,zr,zl⟩,hz⟩:∃y,b.will[k]=y:=⟨_,rfl⟩
    obtain⟨u0,⟨_,u1,U1,d1,rfl,hup,_,_⟩,u2,u3,_,u4,U4,d4,rfl,hul,hud,hul2⟩:=HWA.o k _ (by rw[List.getElem?_eq_getElem hlt,hu])
    obtain⟨z0,⟨_,z1,Z1,f1,rfl,hzp,_,_⟩,z2,z3,_,z4,Z4,f4,rfl,hzl,hzd,hzl2⟩:=HWB.o k _ (by rw[List.getElem?_eq_getElem hltb,hz])
    have hlu:=(HLA.o.wills _ (List.mem_of_getElem? (by rw[List.getElem?_eq_getElem hlt,hu]))).1
    have hlz:=(HLB.o.wills _ (List.mem_of_getElem? (by rw[List.getElem?_eq_getElem hltb,hz]))).1
    obtain⟨X6,hX6⟩:∃X,Obj.cells #[.string ut,.slice U1 up.length d1,.int .i64 uq,.bool ur,.slice U4 ul.length d4] 53=X:=⟨_,rfl⟩
    obtain⟨X7,hX7⟩:∃X,Obj.cells #[.string zt,.slice Z1 zp.length f1,.int .i64 zq,.bool zr,.slice Z4 zl.length f4] 53=X:=⟨_,rfl⟩
    have k6:Keeps [] W (wr.alloc X6):=HKW2.o.trans (Keeps.alloc _ _) (by simp)
    have k7:Keeps [] W ((wr.alloc X6).alloc X7):=k6.trans (Keeps.alloc _ _) (by simp)
    subst hX6
    have x0:wr.cell? ⟨ba,oa+k*5,none⟩=some (.string ut):=HKW2.o.some_ (hcl _ _ u0) (by simp)
    have x1:wr.cell? ⟨ba,oa+k*5+1,none⟩=some (.slice U1 up.length d1):=HKW2.o.some_ (by rw[Nat.add_assoc];exact hcl _ _ u1) (by simp)
    have x2:wr.cell? ⟨ba,oa+k*5+2,none⟩=some (.int .i64 uq):=HKW2.o.some_ (by rw[Nat.add_assoc];exact hcl _ _ u2) (by simp)
    have x3:wr.cell? ⟨ba,oa+k*5+3,none⟩=some (.bool ur):=HKW2.o.some_ (by rw[Nat.add_assoc];exact hcl _ _ u3) (by simp)
    have x4:wr.cell? ⟨ba,oa+k*5+4,none⟩=some (.slice U4 ul.length d4):=HKW2.o.some_ (by rw[Nat.add_assoc];exact hcl _ _ u4) (by simp)
    have b11w:=(hcb.o _ k6 11).trans b11
    have y0:=k6.some_ (hdl _ _ z0) (by simp)
    have y1:=k6.some_ (hdl _ _ z1) (by simp)
    have y2:=k6.some_ (hdl _ _ z2) (by simp)
    have y3:=k6.some_ (hdl _ _ z3) (by simp)
    have y4:=k6.some_ (hdl _ _ z4) (by simp)
    rw[←Nat.add_assoc] at y1 y2 y3 y4
    rw[Nat.add_zero] at y0
    subst hX7
    have cvx:=conv_bytes _ U1 d1 up (hup.keep k7 (by simp))
    have cvy:=conv_bytes _ Z1 f1 zp (hzp.keep k7 (by simp))
    have L4:=hH (same_c N _ (.slice U4 ul.length d4) (.slice Z4 zl.length f4) ul zl (PropsAt.keep ⟨U4,d4,rfl,hul,hud,hul2⟩ k7 (by simp)) (PropsAt.keep ⟨Z4,f4,rfl,hzl,hzd,hzl2⟩ k7 (by simp)) hlu hlz)
    have HK7:=hH k7
    have hst:Hd (ut=zt∧up=zp∧uq=zq∧ur=zr∧ul=zl→a.will.take (k+1)=b.will.take (k+1)):=by
     rintro⟨rfl,rfl,rfl,rfl,rfl⟩
     exact list_split a.will b.will k HM.o.will hlt HTK.o (by rw[hu,hz])
    have hno:Hd (¬(ut=zt∧up=zp∧uq=zq∧ur=zr∧ul=zl)→¬SameP a b):=by
     intro h e
     have e2:a.will[k]=b.will[k]:=by have:=e.will;simp only[this]
     rw[hu,hz] at e2
     injection e2 with e0 e1 e2 e3 e4
     exact h ⟨e0,e1,e2,e3,e4⟩
    clear hcl hdl hu hz u0 u1 u2 u3 u4 z0 z1 z2 z3 z4 hup hul hud hul2 hzp hzl hzd hzl2 k6 k7 hlu hlz
    by_cases h1:ut=zt
    rotate_left
    ·have hnb:=neq_ba h1
     have hN:=hH (hno.o (fun h=>h1 h.1))
     clear h1
     exact zL1
    subst h1
    by_cases h2:up=zp
    rotate_left
    ·have hnb:=neq_str h2
     have hN:=hH (hno.o (fun h=>h2 h.2.1))
     clear h2
     generalize (⟨up.toArray⟩:ByteArray)=sx at*
     generalize (⟨zp.toArray⟩:ByteArray)=sy at*
     exact zL1
    subst h2
    generalize (⟨up.toArray⟩:ByteArray)=sx at*
    by_cases h3:uq=zq
    rotate_left
    ·have hnb:(uq !=zq)=true:=by simpa using h3
     have hN:=hH (hno.o (fun h=>h3 h.2.2.1))
     clear h3
     exact zL1
    subst h3
    by_cases h4:ur=zr
    rotate_left
    ·have hnb:(ur !=zr)=true:=by simpa using h4
     have hnb2:(!ur==zr)=true:=by simpa using h4
     have hN:=hH (hno.o (fun h=>h4 h.2.2.2.1))
     clear h4
     exact zL1
    subst h4
    go_wp2_with fail
    go_fit (L4.o)
    rintro e w4 ⟨r4,rfl,hr4,hk4⟩
    cases r4 with
    |false=>
     have hN:=hH (hno.o (fun h=>by have:=hr4.2 h.2.2.2.2;cases this))
     clear hr4
     go_wp2_with fail
     go_ret
     exact⟨false,rfl,⟨by simp,fun h=>absurd h hN.o⟩,HKW.o.trans (HK7.o.trans hk4 (by simp)) (by simp)⟩
    |true=>
     have hS:=hH (hst.o (by refine⟨?_,?_,?_,?_,hr4.1 rfl⟩<;>trivial))
     clear hr4
     go_wp2_with fail
     go_roundg g'
     case measure=>omega
     case rel=>exact⟨k+1,by go_num,by omega,by omega,hS.o,HK7.o.trans hk4 (by simp)⟩
   have hweq:Hd (a.will=b.will):=by
    have h:=HTK.o
    rwa [List.take_of_length_le (by omega),List.take_of_length_le (by have:=HM.o.will;omega)] at h
   have a16w:=(hca.o wr HKW2.o 16).trans a16
   have hlc:a.codes.length≤140737488355328:=HLA.o.codes
   have HK16:=hH HKW2.o
   obtain⟨A18',n18',eA18',hra,_,_⟩:=HA.o.m18
   obtain⟨B18',m18',eB18',hrb,_,_⟩:=HB.o.m18
   rw[EA18.o] at eA18'
   rw[EB18.o] at eB18'
   injection eA18' with i1 i2 i3
   subst i1 i3
   injection eB18' with j1 j2 j3
   subst j1 j3
   clear i2 j2
   have HRA2:=hH hra
   have HRB2:=hH hrb
   clear hra hrb HTK HKW2
   go_wp2_with fail
   go_loopg [208] (a.codes.length+1) (fun gk i wr=>SRel W a.codes b.codes gk i wr)
   case atStart=>exact⟨0,rfl,by omega,by omega,rfl,HK16.o⟩
   case round=>
   obtain⟨k,rfl,hk,hgk,htk,hkw⟩:=hrel
   have HTK:=hH htk
   have HKW2:=hH hkw
   clear htk hkw
   by_cases hlt:k<a.codes.length
   ·as_aux_lemma=>
    obtain⟨g',rfl⟩:∃g',gk=g'+1:=⟨gk-1,by omega⟩
    have hltz:(k:Int)<(a.codes.length:Int):=by omega
    have hltb:k<b.codes.length:=by have:=HM.o.codes;omega
    have hltbz:(k:Int)<(b.codes.length:Int):=by omega
    obtain⟨ba,oa,rfl,hcl⟩:=HRA2.o.2 (by omega)
    obtain⟨bb,ob,rfl,hdl⟩:=HRB2.o.2 (by omega)
    obtain⟨x,hx⟩:∃x,a.codes[k]=x:=⟨_,rfl⟩
    obtain⟨y,hy⟩:∃y,b.codes[k]=y:=⟨_,rfl⟩
    have a16x:=(hca.o wr HKW2.o 16).trans a16
    have b16x:=(hcb.o wr HKW2.o 16).trans b16
    have x0:wr.cell? ⟨ba,oa+k,none⟩=some (.int .i64 x):=HKW2.o.some_ (hcl _ _ (by simp[nvs,List.getElem?_eq_getElem hlt,hx])) (by simp)
    have y0:wr.cell? ⟨bb,ob+k,none⟩=some (.int .i64 y):=HKW2.o.some_ (hdl _ _ (by simp[nvs,List.getElem?_eq_getElem hltb,hy])) (by simp)
    by_cases hxy:x=y
    ·have hst:Hd (a.codes.take (k+1)=b.codes.take (k+1)):=list_split a.codes b.codes k HM.o.codes hlt HTK.o (by rw[hx,hy,hxy])
     have hnb:(x !=y)=false:=by simp[hxy]
     clear hxy hx hy hcl hdl a16w
     exact zL2
    ·have hno:Hd (¬SameP a b):=fun e=>hxy (by rw[←hx,←hy];simp only[e.codes])
     have hnb:(x !=y)=true:=by simpa using hxy
     clear hxy hx hy hcl hdl a16w
     exact zL3
   have hceq:Hd (a.codes=b.codes):=by
    have h:=HTK.o
    rwa [List.take_of_length_le (by omega),List.take_of_length_le (by have:=HM.o.codes;omega)] at h
   have a17w:=(hca.o wr HKW2.o 17).trans a17
   have hls:a.subs.length≤140737488355328:=HLA.o.subs
   have HK17:=hH HKW2.o
   obtain⟨A19',n19',eA19',hra,_,_⟩:=HA.o.m19
   obtain⟨B19',m19',eB19',hrb,_,_⟩:=HB.o.m19
   rw[EA19.o] at eA19'
   rw[EB19.o] at eB19'
   injection eA19' with i1 i2 i3
   subst i1 i3
   injection eB19' with j1 j2 j3
   subst j1 j3
   clear i2 j2
   have HRA3:=hH hra
   have HRB3:=hH hrb
   clear hra hrb HTK HKW2 a16w
   go_wp2_with fail
   go_loopg [226] (a.subs.length+1) (fun gk i wr=>SRel W a.subs b.subs gk i wr)
   case atStart=>exact⟨0,rfl,by omega,by omega,rfl,HK17.o⟩
   case round=>
   obtain⟨k,rfl,hk,hgk,htk,hkw⟩:=hrel
   have HTK:=hH htk
   have HKW2:=hH hkw
   clear htk hkw
   by_cases hlt:k<a.subs.length
   ·as_aux_lemma=>
    obtain⟨g',rfl⟩:∃g',gk=g'+1:=⟨gk-1,by omega⟩
    have hltz:(k:Int)<(a.subs.length:Int):=by omega
    have hltb:k<b.subs.length:=by have:=HM.o.subs;omega
    have hltbz:(k:Int)<(b.subs.length:Int):=by omega
    obtain⟨ba,oa,rfl,hcl⟩:=HRA3.o.2 (by omega)
    obtain⟨bb,ob,rfl,hdl⟩:=HRB3.o.2 (by omega)
    obtain⟨x,hx⟩:∃x,a.subs[k]=x:=⟨_,rfl⟩
    obtain⟨y,hy⟩:∃y,b.subs[k]=y:=⟨_,rfl⟩
    have fx:=flat5_get a.subs k x (by rw[List.getElem?_eq_getElem hlt,hx])
    have fy:=flat5_get b.subs k y (by rw[List.getElem?_eq_getElem hltb,hy])
    have a17x:=(hca.o wr HKW2.o 17).trans a17
    have b17x:=(hcb.o wr HKW2.o 17).trans b17
    have x0:=HKW2.o.some_ (hcl _ _ (fx 0 (by omega))) (by simp)
    have x1:=HKW2.o.some_ (hcl _ _ (fx 1 (by omega))) (by simp)
    have x2:=HKW2.o.some_ (hcl _ _ (fx 2 (by omega))) (by simp)
    have x3:=HKW2.o.some_ (hcl _ _ (fx 3 (by omega))) (by simp)
    have x4:=HKW2.o.some_ (hcl _ _ (fx 4 (by omega))) (by simp)
    have y0:=HKW2.o.some_ (hdl _ _ (fy 0 (by omega))) (by simp)
    have y1:=HKW2.o.some_ (hdl _ _ (fy 1 (by omega))) (by simp)
    have y2:=HKW2.o.some_ (hdl _ _ (fy 2 (by omega))) (by simp)
    have y3:=HKW2.o.some_ (hdl _ _ (fy 3 (by omega))) (by simp)
    have y4:=HKW2.o.some_ (hdl _ _ (fy 4 (by omega))) (by simp)
    rw[←Nat.add_assoc] at x0 x1 x2 x3 x4 y0 y1 y2 y3 y4
    rw[Nat.add_zero] at x0 y0
    simp only[SubP.cellAt] at x0 x1 x2 x3 x4 y0 y1 y2 y3 y4
    clear fx fy hcl hdl
    by_cases hxy:x=y
    ·have hst:Hd (a.subs.take (k+1)=b.subs.take (k+1)):=list_split a.subs b.subs k HM.o.subs hlt HTK.o (by rw[hx,hy,hxy])
     have hne:=fun w=>neq56_eq w x y hxy
     clear hxy hx hy a17w
     exact zL2
    ·have hno:Hd (¬SameP a b):=fun e=>hxy (by rw[←hx,←hy];simp only[e.subs])
     have hne:=fun w=>neq56_ne w x y hxy
     clear hxy hx hy a17w
     exact zL3
   have hseq:Hd (a.subs=b.subs):=by
    have h:=HTK.o
    rwa [List.take_of_length_le (by omega),List.take_of_length_le (by have:=HM.o.subs;omega)] at h
   have hall:Hd (SameP a b):=⟨HH.o,hweq.o,HM.o.user,HM.o.pass,hceq.o,hseq.o,HM.o.props⟩
   clear a17w
   go_wp2_with fail
   go_ret
   exact⟨true,rfl,⟨fun _=>hall.o,fun _=>rfl⟩,HKW.o.trans HKW2.o (by simp)⟩
end Go.Proofs.YtkglmacaecmhdaaGreatDoor
