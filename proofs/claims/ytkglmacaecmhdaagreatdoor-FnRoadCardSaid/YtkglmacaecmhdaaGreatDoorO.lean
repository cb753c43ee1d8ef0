/- FnRoad, part O: the walks of L8h, L8p. -/
import Derived.Test.YtkglmacaecmhdaaGreatDoorNa
set_option linter.unusedVariables false
set_option linter.unusedSimpArgs false
namespace Go.Proofs.YtkglmacaecmhdaaGreatDoor
open Go Go.RowKit Tryz
structure SubOK (p:PkV) (u:SubP):Prop where
 f:TextOK u.filter∧0<u.filter.size∧u.filter.size≤200
 q:0≤u.qos∧u.qos≤2
 h:0≤u.handling∧u.handling≤2
 four:p.version=4∨p.kind=10→u.nl=false∧u.ap=false∧u.handling=0
 un:p.kind=10→u.qos=0
structure PkOK (p:PkV):Prop where
 ver:p.version=4∨p.version=5
 kind:1≤p.kind∧p.kind≤15
 v4:p.version=4→p.props=[]∧p.kind≠15
 props:ProperL p.kind p.props
 hdr:p.kind≠3→p.dup=false∧p.retain=false∧p.qos=0
 same:SameP p (kept p)
 k1:p.kind=1→ConnOK p
 k2:p.kind=2→0≤p.code∧p.code≤255
 k3:p.kind=3→TopicOK p.topic∧0≤p.qos∧p.qos≤2∧(0<p.qos→1≤p.id∧p.id≤65535)∧(p.qos=0→p.id=0∧p.dup=false)∧p.payload.length≤1000
 k4:4≤p.kind∧p.kind≤7→(1≤p.id∧p.id≤65535)∧0≤p.code∧p.code≤255∧(p.version=4→p.code=0)
 k8:p.kind=8∨p.kind=10→(1≤p.id∧p.id≤65535)∧p.subs.length≤10∧∀u∈p.subs,SubOK p u
 k9:p.kind=9∨p.kind=11→(1≤p.id∧p.id≤65535)∧p.codes.length≤10∧(∀c∈p.codes,0≤c∧c≤255)∧(p.kind=11→p.version=4→p.codes=[])
 k14:14≤p.kind→0≤p.code∧p.code≤255∧(p.version=4→p.code=0)
structure PkHd (p:PkV):Prop where
 ver:p.version=4∨p.version=5
 v4:p.version=4→p.props=[]∧p.kind≠15
 props:ProperL p.kind p.props
 hdr:p.kind≠3→p.dup=false∧p.retain=false∧p.qos=0
 same:SameP p (kept p)
theorem zO9 {p:Prop} (h:p:=by
 exact⟨h0.will,h0.user,h0.pass,h0.codes,h0.subs,h.props,h0.wills⟩
 ):p:=h
theorem lens_kept {p:PkV} (h:Lens p):Lens (kept p):=by
 have hz:∀k v l,l.length≤140737488355328→Lens (zeroP k v l):=fun k v l hl=>⟨by simp[zeroP],by simp[zeroP],by simp[zeroP],by simp[zeroP],by simp[zeroP],hl,by simp[zeroP]⟩
 have h0:=hz p.kind p.version p.props h.props
 unfold kept
 repeat' split
 ·exact⟨h.will,h.user,h.pass,h0.codes,h0.subs,h.props,h.wills⟩
 ·exact zO9
 ·exact zO9
 ·exact zO9
 ·exact⟨h0.will,h0.user,h0.pass,h0.codes,h.subs,h.props,h0.wills⟩
 ·exact⟨h0.will,h0.user,h0.pass,h.codes,h0.subs,h.props,h0.wills⟩
 ·exact zO9
 ·exact h0
theorem same_is (N:Nat→Prop) (w:World) (a b:PkV) (va vb:Nat→Value) (ha:PkMem N w a va) (hb:PkMem N w b vb) (hla:Lens a) (hlb:Lens b) (r:Bool) (hr:r=true↔SameP a b):
 Calls prog 12 #[.agg (a.sells va),.agg (b.sells vb)] w (Is w r):=
 (Same_c N w a b va vb ha hb hla hlb).mono (by
  rintro e w' ⟨r',rfl,h1,h2⟩
  have:r'=r:=by
   cases r<;>cases r'<;>simp_all
  exact⟨by rw[this],h2⟩)
def SubRel (p:PkV) (W:World) (gk:Nat) (i:Value) (wr:World):Prop:=∃k,i=.int .i64 ((k:Nat):Int)∧k≤p.subs.length∧p.subs.length<gk+k∧(∀u∈p.subs.take k,SubOK p u)∧Keeps [] W wr
def CodRel (p:PkV) (W:World) (gk:Nat) (i:Value) (wr:World):Prop:=∃k,i=.int .i64 ((k:Nat):Int)∧k≤p.codes.length∧p.codes.length<gk+k∧(∀u∈p.codes.take k,0≤u∧u≤255)∧Keeps [] W wr
theorem load35 {S:World→Prop} {d:Tmp} {ty:TypeId} {pos:String} {af:Array Edge} {gd:Option (Nat×Bool)} {a:Act} {g:Nat} {cs:Array Value} {x:Operand} {ds:TypeDesc} (hx:a.eval x=.pointer (some ⟨g,0,none⟩))
 (hS:∀w,S w→w.rangeAt g 0 cs.toList) (hd:ds.isRow=true) (hu:prog.underlying 35=some ds) (hi:(prog.info? 35).map (·.size)=some cs.size):∀w,S w→(execOp a.eval ⟨some d,.load 35 x,ty,pos,af,gd⟩).run prog w=.ok (.value (.agg cs)) w:=fun w hw=>by
 have h:=run_loadVar_mid (P:=prog) w g 0 35 cs.toList ds (hS w hw) hu hd (by simpa using hi)
 rw[Array.toArray_toList] at h
 unfold execOp
 simp only[hx,Instr.loadAt,Instr.sureAddr,Sem.run_bind,Sem.run_pure,Result.andThen_ok,h]
structure F1 (p:PkV):Prop where
 ver:p.version=4∨p.version=5
 kind:1≤p.kind∧p.kind≤15
 v4:p.version=4→p.props=[]∧p.kind≠15
 props:ProperL p.kind p.props
structure F3 (p:PkV):Prop where
 hdr:p.kind≠3→p.dup=false∧p.retain=false∧p.qos=0
 same:SameP p (kept p)
def Pk1 (W:World) (p:PkV) (s:Value) (wc:World):Prop:=∃r,s=.bool r∧(r=false→F1 p)∧Keeps [] W wc
def Pk3 (W:World) (p:PkV) (s:Value) (wc:World):Prop:=∃r,s=.bool r∧(r=false→F3 p)∧Keeps [] W wc
def Pk5 (W:World) (p:PkV) (s:Value) (wc:World):Prop:=∃r,s=.bool r∧(r=true→1≤p.id∧p.id≤65535)∧W=wc
theorem pk_yes {W wc:World} {R:Bool→Prop} (hR:R true) (k:Keeps [] W wc):∃r,Value.bool true=.bool r∧R r∧Keeps [] W wc:=⟨true,rfl,hR,k⟩
theorem eqs15 {a b:Int} (h:a=b):(a==1)=(b==1)∧(a==2)=(b==2)∧(a==3)=(b==3)∧(a==4)=(b==4)∧(a==5)=(b==5)∧(a==6)=(b==6)∧(a==7)=(b==7)∧(a==8)=(b==8)∧(a==9)=(b==9)∧(a==10)=(b==10)∧(a==11)=(b==11)∧(a==12)=(b==12)∧(a==13)=(b==13)∧(a==14)=(b==14)∧(a==15)=(b==15):=by subst h;simp only[and_self]
theorem eqT {a b:Int} (h:a=b):(a==b)=true∧(a !=b)=false:=by subst h;simp
theorem eqF {a b:Int} (h:¬a=b):(a==b)=false∧(a !=b)=true:=by
 have h1:(a==b)=false:=by rw[beq_eq_false_iff_ne];exact h
 exact⟨h1,by rw[bne,h1];rfl⟩
theorem PkOK.of {p:PkV} (a:F1 p) (b:F3 p) (k1:p.kind=1→ConnOK p:=by intro h;exfalso;have:=HKD.o;omega) (k2:p.kind=2→0≤p.code∧p.code≤255:=by intro h;exfalso;have:=HKD.o;omega) (k3:p.kind=3→TopicOK p.topic∧0≤p.qos∧p.qos≤2∧(0<p.qos→1≤p.id∧p.id≤65535)∧(p.qos=0→p.id=0∧p.dup=false)∧p.payload.length≤1000:=by intro h;exfalso;have:=HKD.o;omega) (k4:4≤p.kind∧p.kind≤7→(1≤p.id∧p.id≤65535)∧0≤p.code∧p.code≤255∧(p.version=4→p.code=0):=by intro h;exfalso;have:=HKD.o;omega) (k8:p.kind=8∨p.kind=10→(1≤p.id∧p.id≤65535)∧p.subs.length≤10∧∀u∈p.subs,SubOK p u:=by intro h;exfalso;have:=HKD.o;omega) (k9:p.kind=9∨p.kind=11→(1≤p.id∧p.id≤65535)∧p.codes.length≤10∧(∀c∈p.codes,0≤c∧c≤255)∧(p.kind=11→p.version=4→p.codes=[]):=by intro h;exfalso;have:=HKD.o;omega) (k14:14≤p.kind→0≤p.code∧p.code≤255∧(p.version=4→p.code=0):=by intro h;exfalso;have:=HKD.o;omega):PkOK p:=⟨a.ver,a.kind,a.v4,a.props,b.hdr,b.same,k1,k2,k3,k4,k8,k9,k14⟩
theorem zO2 {p:Prop} (h:p:=by
 refine tkSt hS hkd (by kernel_rfl) fun hHeld=>?_
 simp only[s4,s5,Nat.reduceAdd,s6,s7]
 repeat((first|refine tkW (op:=.load 35 _) (v:=.agg (p.sells v)) rfl (by kernel_rfl) (fun _ _ _ h=>h) (by rfl) (load35 rfl (fun w' h=>h.2.2.2.2.1) rfl underlying35 HI.o) (by assumption) ?_|refine tkx ?_|refine tku ?_);simp only[setN,Act.put,s1,s2,s3])
 refine tkc fun K hK=>?_
 go_simp
 refine(kept_c N _ p v (HM.o.keep hkd (by simp)) HF1.o.kind).mono ?_
 rintro e w2 ⟨v2,rfl,hm2,hk2⟩
 have hkk2:=hkd.trans hk2 (by simp)
 have HM2:=hH hm2
 clear hm2 hHeld
 refine hK.out _ _ (hS _ hkk2) (fun hHeld=>?_)
 clear hK K
 simp only[setN,Act.put,s1,s2,s3]
 by_cases hsm:SameP p (kept p)
 ·repeat((first|refine tkW (op:=.load 35 _) (v:=.agg (p.sells v)) rfl (by kernel_rfl) (fun _ _ _ h=>h) (by rfl) (load35 rfl (fun w' h=>h.2.2.2.2.1) rfl underlying35 HI.o) (by assumption) ?_|refine tkx ?_|refine tku ?_);simp only[setN,Act.put,s1,s2,s3])
  refine tkc fun K hK=>?_
  go_simp
  refine(same_is N _ p (kept p) v v2 (HM.o.keep hkk2 (by simp)) HM2.o HL.o.lens (lens_kept HL.o.lens) true (by simp[hsm])).mono ?_
  rintro e w3 ⟨rfl,hk3⟩
  have hkk3:=hkk2.trans hk3 (by simp)
  have HSM:=hH hsm
  clear hHeld hsm
  refine hK.out _ _ (hS _ hkk3) (fun hHeld=>?_)
  clear hK K
  simp only[setN,Act.put,s1,s2,s3]
  repeat((first|refine tkW (op:=.load 35 _) (v:=.agg (p.sells v)) rfl (by kernel_rfl) (fun _ _ _ h=>h) (by rfl) (load35 rfl (fun w' h=>h.2.2.2.2.1) rfl underlying35 HI.o) (by assumption) ?_|refine tkx ?_|refine tku ?_);simp only[setN,Act.put,s1,s2,s3])
  refine tkDone (by kernel_rfl) ?_
  clear hS hHeld
  go_wp2_with fail
  go_meet
  case rel=>exact⟨false,rfl,fun _=>⟨HDR.o,HSM.o⟩,hkk3⟩
 ·repeat((first|refine tkW (op:=.load 35 _) (v:=.agg (p.sells v)) rfl (by kernel_rfl) (fun _ _ _ h=>h) (by rfl) (load35 rfl (fun w' h=>h.2.2.2.2.1) rfl underlying35 HI.o) (by assumption) ?_|refine tkx ?_|refine tku ?_);simp only[setN,Act.put,s1,s2,s3])
  refine tkc fun K hK=>?_
  go_simp
  refine(same_is N _ p (kept p) v v2 (HM.o.keep hkk2 (by simp)) HM2.o HL.o.lens (lens_kept HL.o.lens) false (by simp[hsm])).mono ?_
  rintro e w3 ⟨rfl,hk3⟩
  have hkk3:=hkk2.trans hk3 (by simp)
  have HSM:=hH hsm
  clear hHeld hsm
  refine hK.out _ _ (hS _ hkk3) (fun hHeld=>?_)
  clear hK K
  simp only[setN,Act.put,s1,s2,s3]
  repeat((first|refine tkW (op:=.load 35 _) (v:=.agg (p.sells v)) rfl (by kernel_rfl) (fun _ _ _ h=>h) (by rfl) (load35 rfl (fun w' h=>h.2.2.2.2.1) rfl underlying35 HI.o) (by assumption) ?_|refine tkx ?_|refine tku ?_);simp only[setN,Act.put,s1,s2,s3])
  refine tkDone (by kernel_rfl) ?_
  clear hS hHeld
  go_wp2_with fail
  go_meet
  case rel=>exact⟨true,rfl,by simp,hkk3⟩
 ):p:=h
theorem zO4 {p:Prop} (h:p:=by
 refine tkSt hS hkd (by kernel_rfl) fun hHeld=>?_
 simp only[s4,s5,Nat.reduceAdd,s6,s7]
 repeat((first|refine tkW (op:=.load 35 _) (v:=.agg (p.sells v)) rfl (by kernel_rfl) (fun _ _ _ h=>h) (by rfl) (load35 rfl (fun w' h=>h.2.2.2.2.1) rfl underlying35 HI.o) (by assumption) ?_|refine tkx ?_|refine tku ?_);simp only[setN,Act.put,s1,s2,s3])
 refine tkDone (by kernel_rfl) ?_
 clear hS hHeld
 go_wp2_with fail
 go_meet
 case rel=>exact⟨true,rfl,by simp,hkd⟩
 ):p:=h
theorem zO5 {p:Prop} (h:p:=by
 go_wp2_with fail
 go_fit (PL.o _ (Keeps.refl _ _))
 rintro e w1 ⟨rfl,hk1⟩
 cases ep:plB p.kind p.props
 ·go_wp2_with fail
  go_meet
  case rel=>exact⟨true,rfl,by simp,hk1⟩
 ·have HPP:Hd (ProperL p.kind p.props):=plB_ok (fun x hx=>(HL.o.propl x hx).n) ep
  clear ep
  go_wp2_with fail
  go_meet
  case rel=>exact⟨false,rfl,fun _=>⟨HV45.o,⟨by omega,by omega⟩,HPE.o,HPP.o⟩,hk1⟩
 ):p:=h
theorem zO6 {p:Prop} (h:p:=by
 go_wp2_with fail
 go_meet
 case rel=>exact⟨true,rfl,by simp,Keeps.refl _ _⟩
 ):p:=h
theorem pkPre {q:Prop} (h:q:=by
 obtain⟨W,hW⟩:∃W,w.alloc (.cells (p.sells v) 35)=W:=⟨_,rfl⟩
 have HK:Hd (Keeps [] w W):=by rw[←hW];exact Keeps.alloc _ _
 have HBP:Hd (Blk W w.heap.size 35 (p.sells v)):=by rw[←hW];exact Blk.new _ _ _
 have HM:=hH (hm.keep HK.o (by simp))
 have HW:=hH hW
 have HL:=hH hl
 clear hm hl hW
 obtain⟨A7,c7,e7,_⟩:=HM.o.m7
 obtain⟨A16,c16,e16,r16,_⟩:=HM.o.m18
 obtain⟨A17,c17,e17,r17,_⟩:=HM.o.m19
 obtain⟨A18,c18,e18,_⟩:=HM.o.m20
 have R16:=hH r16
 have R17:=hH r17
 have hCELL:∀w',Keeps [] W w'→w'.cell? ⟨w.heap.size,0,none⟩=some (.int .i64 p.kind)∧w'.cell? ⟨w.heap.size,1,none⟩=some (.int .i64 p.version)∧w'.cell? ⟨w.heap.size,2,none⟩=some (.bool p.dup)∧w'.cell? ⟨w.heap.size,3,none⟩=some (.bool p.retain)∧w'.cell? ⟨w.heap.size,4,none⟩=some (.int .i64 p.qos)∧w'.cell? ⟨w.heap.size,5,none⟩=some (.int .i64 p.id)∧w'.cell? ⟨w.heap.size,6,none⟩=some (.string p.topic)∧w'.cell? ⟨w.heap.size,7,none⟩=some (.slice A7 p.payload.length c7)∧w'.cell? ⟨w.heap.size,14,none⟩=some (.bool p.present)∧w'.cell? ⟨w.heap.size,15,none⟩=some (.int .i64 p.code)∧w'.cell? ⟨w.heap.size,16,none⟩=some (.slice A16 p.codes.length c16)∧w'.cell? ⟨w.heap.size,17,none⟩=some (.slice A17 p.subs.length c17)∧w'.cell? ⟨w.heap.size,18,none⟩=some (.slice A18 p.props.length c18):=fun w' k=>by
  have h:=(HBP.o.keep k (by simp)).cell
  refine⟨by rw[h];rfl,by rw[h];rfl,by rw[h];rfl,by rw[h];rfl,by rw[h];rfl,by rw[h];rfl,by rw[h];rfl,by rw[h,←e7];rfl,by rw[h];rfl,by rw[h];rfl,by rw[h,←e16];rfl,by rw[h,←e17];rfl,by rw[h,←e18];rfl⟩
 have HCELL:=hH hCELL
 have hE18:∀w',Keeps [] W w'→PropsAt N w' (.slice A18 p.props.length c18) p.props:=fun w' k=>by rw[←e18];exact HM.o.m20.keep k (by simp)
 have HE18:=hH hE18
 have hl7:=HL.o.payload
 have hl16:=HL.o.codes
 have hl17:=HL.o.subs
 have hl18:=HL.o.props
 have PL:=hH (fun w' (k:Keeps [] W w')=>properList_c N w' p.kind _ p.props (HE18.o w' k) HL.o.props HL.o.propl)
 have HI:Hd ((prog.info? 35).map (·.size)=some (p.sells v).size):=by show _=some 19;kernel_rfl
 clear hCELL hE18 e7 e16 e17 e18 r16 r17
 go_enter func6,ntmps6
 go_upto_region 1 with fail
 rw[HW.o]
 clear HW
 obtain⟨c0,c1,c2,c3,c4,c5,c6,c7',c14,c15,c16',c17',c18'⟩:=HCELL.o W (Keeps.refl _ _)
 go_cut [49] from 8 to 49 (fun s wc=>Pk1 W p s wc)
 case first=>
  by_cases v4:p.version=4
  ·have d4:(p.version==4)=true:=by rw[beq_iff_eq];exact v4
   have d4n:(p.version !=4)=false:=by rw[bne,d4];rfl
   have d5:(p.version==5)=false:=by rw[beq_eq_false_iff_ne];omega
   have d5n:(p.version !=5)=true:=by rw[bne,d5];rfl
   have HV:=hH v4
   clear v4
   have HV45:Hd (p.version=4∨p.version=5):=.inl HV.o
   by_cases q3:p.kind<1
   ·have dq3:=decide_eq_true q3
    exact zO6
   ·have dq3:=decide_eq_false q3
    by_cases q4:15<p.kind
    ·have dq4:=decide_eq_true q4
     exact zO6
    ·have dq4:=decide_eq_false q4
     by_cases q5:0<p.props.length
     ·exact zO6
     ·have HPN:Hd (p.props=[]):=List.eq_nil_of_length_eq_zero (by omega)
      by_cases q6:p.kind=15
      ·obtain⟨dq6,eq6⟩:=eqT q6
       clear q6
       exact zO6
      ·obtain⟨dq6,eq6⟩:=eqF q6
       have HPE:Hd (p.version=4→p.props=[]∧p.kind≠15):=fun _=>⟨HPN.o,q6⟩
       clear q6
       exact zO5
  ·have d4:(p.version==4)=false:=by rw[beq_eq_false_iff_ne];exact v4
   have d4n:(p.version !=4)=true:=by rw[bne,d4];rfl
   by_cases v5:p.version=5
   ·have d5:(p.version==5)=true:=by rw[beq_iff_eq];exact v5
    have d5n:(p.version !=5)=false:=by rw[bne,d5];rfl
    have HV:=hH v5
    have HV45:Hd (p.version=4∨p.version=5):=.inr v5
    have HPE:Hd (p.version=4→p.props=[]∧p.kind≠15):=fun h=>absurd h v4
    clear v5 v4
    by_cases q4:p.kind<1
    ·have dq4:=decide_eq_true q4
     exact zO6
    ·have dq4:=decide_eq_false q4
     by_cases q5:15<p.kind
     ·have dq5:=decide_eq_true q5
      exact zO6
     ·have dq5:=decide_eq_false q5
      exact zO5
   ·have d5:(p.version==5)=false:=by rw[beq_eq_false_iff_ne];exact v5
    have d5n:(p.version !=5)=true:=by rw[bne,d5];rfl
    clear v5 v4
    exact zO6
 case rest=>
 obtain⟨r,rfl,hf1,hk1⟩:=hcut
 have HK1:=hH hk1
 clear hk1 PL HE18 c0 c1 c2 c3 c4 c5 c6 c7' c14 c15 c16' c17' c18'
 cases r
 case true=>
  go_wp2_with fail
  go_ret
  exact yes_no rfl (HK.o.trans HK1.o (by simp))
 case false=>
 have HF1:=hH (hf1 rfl)
 clear hf1
 obtain⟨c0,c1,c2,c3,c4,c5,c6,c7',c14,c15,c16',c17',c18'⟩:=HCELL.o wc HK1.o
 go_upto_region 3 with fail
 go_cut [72] from 50 to 72 (fun s wd=>Pk3 W p s wd)
 case first=>
  have hS:∀w',Keeps [] W w'→(w'.cell? ⟨w.heap.size,0,none⟩=some (.int .i64 p.kind)∧w'.cell? ⟨w.heap.size,2,none⟩=some (.bool p.dup)∧w'.cell? ⟨w.heap.size,3,none⟩=some (.bool p.retain)∧w'.cell? ⟨w.heap.size,4,none⟩=some (.int .i64 p.qos)∧w'.rangeAt w.heap.size 0 (p.sells v).toList∧Keeps [] W w'):=fun w' k=>⟨(HCELL.o _ k).1,(HCELL.o _ k).2.2.1,(HCELL.o _ k).2.2.2.1,(HCELL.o _ k).2.2.2.2.1,fun j u hj=>by rw[Nat.zero_add,(HBP.o.keep k (by simp)).cell];simpa using hj,k⟩
  have hkd:=HK1.o.trans (Keeps.drew wc) (by simp)
  by_cases q2:p.kind=3
  ·obtain⟨dq2,eq2⟩:=eqT q2
   have HK3:=hH q2
   clear q2
   have HDR:Hd (p.kind≠3→p.dup=false∧p.retain=false∧p.qos=0):=fun h=>absurd HK3.o h
   exact zO2
  ·obtain⟨dq2,eq2⟩:=eqF q2
   clear q2
   cases hd:p.dup
   ·cases hr:p.retain
    ·by_cases q5:p.qos=0
     ·obtain⟨dq5,eq5⟩:=eqT q5
      have HDR:Hd (p.kind≠3→p.dup=false∧p.retain=false∧p.qos=0):=fun _=>⟨hd,hr,q5⟩
      clear q5
      exact zO2
     ·obtain⟨dq5,eq5⟩:=eqF q5
      clear q5
      exact zO4
    ·exact zO4
   ·exact zO4
 case rest=>
 obtain⟨r,rfl,hf3,hk3⟩:=hcut
 have HK3:=hH hk3
 clear hk3 c0 c1 c2 c3 c4 c5 c6 c7' c14 c15 c16' c17' c18'
 cases r
 case true=>
  go_wp2_with fail
  go_ret
  exact yes_no rfl (HK.o.trans HK3.o (by simp))
 case false=>
 have HF3:=hH (hf3 rfl)
 clear hf3
 obtain⟨c0,c1,c2,c3,c4,c5,c6,c7',c14,c15,c16',c17',c18'⟩:=HCELL.o wc HK3.o
 go_upto_region 5 with fail
 go_cut [3] from 73 to 80 (fun s we=>Pk5 wc p s we)
 case first=>
  by_cases q2:1≤p.id
  ·have dq2:=decide_eq_true q2
   by_cases q3:p.id≤65535
   ·have dq3:=decide_eq_true q3
    go_wp2_with fail
    go_meet
    case rel=>exact⟨true,rfl,fun _=>⟨by omega,by omega⟩,rfl⟩
   ·have dq3:=decide_eq_false q3
    go_wp2_with fail
    go_meet
    case rel=>exact⟨false,rfl,by simp,rfl⟩
  ·have dq2:=decide_eq_false q2
   go_wp2_with fail
   go_meet
   case rel=>exact⟨false,rfl,by simp,rfl⟩
 case rest=>
 obtain⟨ib,rfl,hib,rfl⟩:=hcut
 have HIB:=hH hib
 clear hib
 have HF:=hH (HK.o.trans HK3.o (by simp))
 skip
 exact pkTail
 ):q:=h
theorem zO3 {p:Prop} (h:p:=by
 go_wp2_with fail
 all_goals
  go_ret
  exact yes_no rfl HF.o
 ):p:=h
theorem zO7 {p:Prop} (h:p:=by
 go_wp2_with fail
 all_goals
  go_ret
  exact⟨_,rfl,fun _=>HOK.o,HF.o⟩
 ):p:=h
theorem zO10 {p:Prop} (h:p:=by
 obtain⟨dq16,eq16⟩:=eqF q16
 clear q16
 exact zO3
 ):p:=h
theorem zO0 {p:Prop} (h:p:=by
 obtain⟨k,rfl,hk,hgk,hok,hkw⟩:=hrel
 have HOKK:=hH hok
 have HKW:=hH hkw
 clear hok hkw c0 c1 c2 c3 c4 c5 c6 c7' c14 c15 c16' c17' c18'
 have HF:=hH (HK.o.trans HKW.o (by simp))
 by_cases hlt:k<p.subs.length
 ·as_aux_lemma=>
  obtain⟨g',rfl⟩:∃g',gk=g'+1:=⟨gk-1,by omega⟩
  have hltz:(k:Int)<(p.subs.length:Int):=by omega
  obtain⟨u,hu⟩:∃u,p.subs[k]?=some u:=⟨_,List.getElem?_eq_getElem hlt⟩
  have HU:=hH hu
  have LU:=HL.o.filters u (List.mem_of_getElem? hu)
  have fx:=flat5_get p.subs k u hu
  obtain⟨b0,o0,rfl,hcl⟩:=R17.o.2 (by omega)
  clear hu
  have x0:wr.cell? ⟨b0,o0+k*5,none⟩=some (.string u.filter):=HKW.o.some_ (hcl _ _ (fx 0 (by omega))) (by simp)
  have x1:wr.cell? ⟨b0,o0+k*5+1,none⟩=some (.int .i64 u.qos):=HKW.o.some_ (by rw[Nat.add_assoc];exact hcl _ _ (fx 1 (by omega))) (by simp)
  have x2:wr.cell? ⟨b0,o0+k*5+2,none⟩=some (.bool u.nl):=HKW.o.some_ (by rw[Nat.add_assoc];exact hcl _ _ (fx 2 (by omega))) (by simp)
  have x3:wr.cell? ⟨b0,o0+k*5+3,none⟩=some (.bool u.ap):=HKW.o.some_ (by rw[Nat.add_assoc];exact hcl _ _ (fx 3 (by omega))) (by simp)
  have x4:wr.cell? ⟨b0,o0+k*5+4,none⟩=some (.int .i64 u.handling):=HKW.o.some_ (by rw[Nat.add_assoc];exact hcl _ _ (fx 4 (by omega))) (by simp)
  have TT:=hH (fun w=>text_c w u.filter LU)
  clear hcl fx
  go_upto_region 25 with fail
  have HNB:=hH (Blk.new wr 56 #[.string u.filter,.int .i64 u.qos,.bool u.nl,.bool u.ap,.int .i64 u.handling])
  have HKV:=hH (HKW.o.trans (Keeps.alloc wr (.cells #[.string u.filter,.int .i64 u.qos,.bool u.nl,.bool u.ap,.int .i64 u.handling] 56)) (by simp))
  generalize wr.alloc (.cells #[.string u.filter,.int .i64 u.qos,.bool u.nl,.bool u.ap,.int .i64 u.handling] 56)=W5 at*
  generalize wr.heap.size=nb at*
  clear x0 x1 x2 x3 x4
  have hY:∀w',Keeps [] W5 w'→w'.cell? ⟨nb,0,none⟩=some (.string u.filter)∧w'.cell? ⟨nb,1,none⟩=some (.int .i64 u.qos)∧w'.cell? ⟨nb,2,none⟩=some (.bool u.nl)∧w'.cell? ⟨nb,3,none⟩=some (.bool u.ap)∧w'.cell? ⟨nb,4,none⟩=some (.int .i64 u.handling)∧w'.cell? ⟨w.heap.size,0,none⟩=some (.int .i64 p.kind)∧w'.cell? ⟨w.heap.size,1,none⟩=some (.int .i64 p.version):=fun w' k=>⟨by rw[(HNB.o.keep k (by simp)).cell];rfl,by rw[(HNB.o.keep k (by simp)).cell];rfl,by rw[(HNB.o.keep k (by simp)).cell];rfl,by rw[(HNB.o.keep k (by simp)).cell];rfl,by rw[(HNB.o.keep k (by simp)).cell];rfl,(HCELL.o _ (HKV.o.trans k (by simp))).1,(HCELL.o _ (HKV.o.trans k (by simp))).2.1⟩
  have HY:=hH hY
  obtain⟨y0,y1,y2,y3,y4,yk,yv⟩:=hY W5 (Keeps.refl _ _)
  clear hY
  go_wp2_with fail
  go_fit (TT.o _)
  rintro e w6 ⟨rfl,hq2⟩
  obtain⟨y0,y1,y2,y3,y4,yk,yv⟩:=HY.o w6 hq2
  have HKX:=hH (HKV.o.trans hq2 (by simp))
  have HF:=hH (HK.o.trans HKX.o (by simp))
  clear hq2
  cases et:textB u.filter
  ·exact zO3
  ·have HTP:=hH (textB_ok et)
   clear et
   cases ez:u.filter.toList.isEmpty
   ·have HEZ:=hH ez
    by_cases q6:200<u.filter.size
    ·have d2:decide ((200:Int)<(u.filter.size:Int))=true:=decide_eq_true (by omega)
     exact zO3
    ·have d2:decide ((200:Int)<(u.filter.size:Int))=false:=decide_eq_false (by omega)
     by_cases q7:u.qos<0
     ·have dq7:=decide_eq_true q7
      exact zO3
     ·have dq7:=decide_eq_false q7
      by_cases q8:2<u.qos
      ·have dq8:=decide_eq_true q8
       exact zO3
      ·have dq8:=decide_eq_false q8
       by_cases q9:u.handling<0
       ·have dq9:=decide_eq_true q9
        exact zO3
       ·have dq9:=decide_eq_false q9
        by_cases q10:2<u.handling
        ·have dq10:=decide_eq_true q10
         exact zO3
        ·have dq10:=decide_eq_false q10
         have HQ:Hd (0≤u.qos∧u.qos≤2):=⟨by omega,by omega⟩
         have HH:Hd (0≤u.handling∧u.handling≤2):=⟨by omega,by omega⟩
         by_cases k10:p.kind=10
         ·try(exfalso;have h6:=HKE.o;omega)
          all_goals
           clear k10
           cases en:u.nl
           ·cases ea:u.ap
            ·by_cases q15:u.handling=0
             ·obtain⟨dq15,eq15⟩:=eqT q15
              have HZH:=hH q15
              clear q15
              by_cases q16:u.qos=0
              ·obtain⟨dq16,eq16⟩:=eqT q16
               have HZQ:=hH q16
               clear q16
               go_wp2_with fail
               all_goals
                go_roundg g'
                case measure=>omega
                case rel=>exact⟨k+1,by go_num,by omega,by omega,mem_take_succ HU.o HOKK.o ⟨⟨HTP.o,size_ne HEZ.o,by omega⟩,HQ.o,HH.o,fun _=>⟨en,ea,HZH.o⟩,fun _=>HZQ.o⟩,HKX.o⟩
              ·exact zO10
             ·obtain⟨dq15,eq15⟩:=eqF q15
              clear q15
              exact zO3
            ·exact zO3
           ·exact zO3
         ·try(exfalso;have h6:=HKE.o;omega)
          all_goals
           have HN10:=hH k10
           clear k10
           by_cases v4:p.version=4
           ·have d4:(p.version==4)=true:=by rw[beq_iff_eq];exact v4
            have d4n:(p.version !=4)=false:=by rw[bne,d4];rfl
            have d5:(p.version==5)=false:=by rw[beq_eq_false_iff_ne];omega
            have d5n:(p.version !=5)=true:=by rw[bne,d5];rfl
            have HV:=hH v4
            clear v4
            cases en:u.nl
            ·cases ea:u.ap
             ·by_cases q16:u.handling=0
              ·obtain⟨dq16,eq16⟩:=eqT q16
               have HZH:=hH q16
               clear q16
               go_wp2_with fail
               all_goals
                go_roundg g'
                case measure=>omega
                case rel=>exact⟨k+1,by go_num,by omega,by omega,mem_take_succ HU.o HOKK.o ⟨⟨HTP.o,size_ne HEZ.o,by omega⟩,HQ.o,HH.o,fun _=>⟨en,ea,HZH.o⟩,fun h=>absurd h HN10.o⟩,HKX.o⟩
              ·exact zO10
             ·exact zO3
            ·exact zO3
           ·have d4:(p.version==4)=false:=by rw[beq_eq_false_iff_ne];exact v4
            have d4n:(p.version !=4)=true:=by rw[bne,d4];rfl
            have HN4:=hH v4
            clear v4
            go_wp2_with fail
            all_goals
             go_roundg g'
             case measure=>omega
             case rel=>exact⟨k+1,by go_num,by omega,by omega,mem_take_succ HU.o HOKK.o ⟨⟨HTP.o,size_ne HEZ.o,by omega⟩,HQ.o,HH.o,fun h=>by exfalso;have h1:=HN4.o;have h2:=HN10.o;omega,fun h=>absurd h HN10.o⟩,HKX.o⟩
   ·exact zO3
 ·as_aux_lemma=>
  obtain⟨c0,c1,c2,c3,c4,c5,c6,c7',c14,c15,c16',c17',c18'⟩:=HCELL.o wr HKW.o
  have hwk:p.subs.take k=p.subs:=List.take_of_length_le (by omega)
  have hok:=HOKK.o
  rw[hwk] at hok
  have HOKS:=hH hok
  clear hok hwk HOKK
  cases ib
  ·exact zO3
  ·have HID:=hH (HIB.o rfl)
   by_cases q5:p.subs.length≤10
   ·have d2:decide ((p.subs.length:Int)≤10)=true:=decide_eq_true (by omega)
    have HOK:=hH (PkOK.of HF1.o HF3.o (k8:=fun _=>⟨HID.o,by omega,HOKS.o⟩))
    exact zO7
   ·have d2:decide ((p.subs.length:Int)≤10)=false:=decide_eq_false (by omega)
    exact zO3
 ):p:=h
theorem zO8 {p:Prop} (h:p:=by
 clear q1
 go_wp2_with fail
 go_loopg [216] (p.subs.length+1) (fun gk i wr=>SubRel p W gk i wr)
 case atStart=>exact⟨0,rfl,by omega,by omega,by simp,HK3.o⟩
 case round=>
  exact zO0
 ):p:=h
namespace Kc
theorem pkTail {q:Prop} (h:q:=by
 have hk:=HKG.o
 have HKD:Hd (p.kind=8∨p.kind=10):=by show _∨_;omega
 as_aux_lemma=>
 obtain⟨h1,h2,h3,h4,h5,h6,h7,h8,h9,h10,h11,h12,h13,h14,h15⟩:=eqs15 hk
 have g12:decide ((12:Int)≤p.kind)=false:=decide_eq_false (by omega)
 have HKE:=hH hk
 clear hk
 by_cases q1:p.id=0
 ·obtain⟨dq1,eq1⟩:=eqT q1
  exact zO8
 ·obtain⟨dq1,eq1⟩:=eqF q1
  exact zO8
 ):q:=h
end Kc
theorem zO11 {p:Prop} (h:p:=by
 have d2:decide ((p.codes.length:Int)≤10)=false:=decide_eq_false (by omega)
 exact zO3
 ):p:=h
theorem zO1 {p:Prop} (h:p:=by
 clear q1
 go_wp2_with fail
 go_loopg [306] (p.codes.length+1) (fun gk i wr=>CodRel p W gk i wr)
 case atStart=>exact⟨0,rfl,by omega,by omega,by simp,HK3.o⟩
 case round=>
  obtain⟨k,rfl,hk,hgk,hok,hkw⟩:=hrel
  have HOKK:=hH hok
  have HKW:=hH hkw
  clear hok hkw c0 c1 c2 c3 c4 c5 c6 c7' c14 c15 c16' c17' c18'
  have HF:=hH (HK.o.trans HKW.o (by simp))
  by_cases hlt:k<p.codes.length
  ·as_aux_lemma=>
   obtain⟨g',rfl⟩:∃g',gk=g'+1:=⟨gk-1,by omega⟩
   have hltz:(k:Int)<(p.codes.length:Int):=by omega
   obtain⟨u,hu⟩:∃u,p.codes[k]?=some u:=⟨_,List.getElem?_eq_getElem hlt⟩
   have HU:=hH hu
   obtain⟨b0,o0,rfl,hcl⟩:=R16.o.2 (by omega)
   have x0:wr.cell? ⟨b0,o0+k,none⟩=some (.int .i64 u):=HKW.o.some_ (hcl _ _ (by rw[nvs,List.getElem?_map,hu];rfl)) (by simp)
   clear hcl hu
   by_cases q4:u<0
   ·have dq4:=decide_eq_true q4
    exact zO3
   ·have dq4:=decide_eq_false q4
    by_cases q5:255<u
    ·have dq5:=decide_eq_true q5
     exact zO3
    ·have dq5:=decide_eq_false q5
     go_wp2_with fail
     go_roundg g'
     case measure=>omega
     case rel=>exact⟨k+1,by go_num,by omega,by omega,mem_take_succ HU.o HOKK.o ⟨by omega,by omega⟩,HKW.o⟩
  ·as_aux_lemma=>
   obtain⟨c0,c1,c2,c3,c4,c5,c6,c7',c14,c15,c16',c17',c18'⟩:=HCELL.o wr HKW.o
   have hwk:p.codes.take k=p.codes:=List.take_of_length_le (by omega)
   have hok:=HOKK.o
   rw[hwk] at hok
   have HOKS:=hH hok
   clear hok hwk HOKK
   cases ib
   ·exact zO3
   ·have HID:=hH (HIB.o rfl)
    by_cases v4:p.version=4
    ·have d4:(p.version==4)=true:=by rw[beq_iff_eq];exact v4
     have d4n:(p.version !=4)=false:=by rw[bne,d4];rfl
     have d5:(p.version==5)=false:=by rw[beq_eq_false_iff_ne];omega
     have d5n:(p.version !=5)=true:=by rw[bne,d5];rfl
     have HV:=hH v4
     clear v4
     by_cases q6:p.codes.length=0
     ·have z0:((p.codes.length:Int)==0)=true:=by rw[beq_iff_eq];omega
      have HCZ:Hd (p.codes=[]):=List.eq_nil_of_length_eq_zero q6
      have HL10:Hd (p.codes.length≤10):=by show _≤_;omega
      clear q6
      have HOK:=hH (PkOK.of HF1.o HF3.o (k9:=fun _=>⟨HID.o,HL10.o,HOKS.o,fun _ _=>HCZ.o⟩))
      exact zO7
     ·have z0:((p.codes.length:Int)==0)=false:=by rw[beq_eq_false_iff_ne];omega
      clear q6
      by_cases q7:p.codes.length≤10
      ·have d2:decide ((p.codes.length:Int)≤10)=true:=decide_eq_true (by omega)
       by_cases h11:p.kind=11
       ·exact zO3
       ·have HN11:=hH h11
        clear h11
        have HOK:=hH (PkOK.of HF1.o HF3.o (k9:=fun _=>⟨HID.o,by omega,HOKS.o,fun h=>absurd h HN11.o⟩))
        exact zO7
      ·exact zO11
    ·have d4:(p.version==4)=false:=by rw[beq_eq_false_iff_ne];exact v4
     have d4n:(p.version !=4)=true:=by rw[bne,d4];rfl
     have v5:p.version=5:=by have:=HF1.o.ver;omega
     have d5:(p.version==5)=true:=by rw[beq_iff_eq];exact v5
     have d5n:(p.version !=5)=false:=by rw[bne,d5];rfl
     have HV:=hH v5
     clear v5 v4
     by_cases q6:p.codes.length≤10
     ·have d2:decide ((p.codes.length:Int)≤10)=true:=decide_eq_true (by omega)
      have HOK:=hH (PkOK.of HF1.o HF3.o (k9:=fun _=>⟨HID.o,by omega,HOKS.o,fun _ h=>by have:=HV.o;omega⟩))
      exact zO7
     ·exact zO11
 ):p:=h
namespace Kd
theorem pkTail {q:Prop} (h:q:=by
 have hk:=HKG.o
 have HKD:Hd (p.kind=9∨p.kind=11):=by show _∨_;omega
 as_aux_lemma=>
 obtain⟨h1,h2,h3,h4,h5,h6,h7,h8,h9,h10,h11,h12,h13,h14,h15⟩:=eqs15 hk
 have g12:decide ((12:Int)≤p.kind)=false:=decide_eq_false (by omega)
 have HKE:=hH hk
 clear hk
 by_cases q1:p.id=0
 ·obtain⟨dq1,eq1⟩:=eqT q1
  exact zO1
 ·obtain⟨dq1,eq1⟩:=eqF q1
  exact zO1
 ):q:=h
end Kd
end Go.Proofs.YtkglmacaecmhdaaGreatDoor
