/- FnRoad, part G: the walks of T1. -/
import Derived.Deep.DeepCutAuto
import Derived.Test.YtkglmacaecmhdaaGreatDoorF
set_option linter.unusedVariables false
set_option linter.unusedSimpArgs false
set_option maxHeartbeats 16000000
set_option maxRecDepth 1000000
namespace Go.Proofs.YtkglmacaecmhdaaGreatDoor
open Go Go.RowKit Tryz
theorem and7_:∀X:Fin 256,bits .and .u8 ((X.val:Nat):Int) 7=((X.val % 8:Nat):Int):=by decide+kernel
theorem word_mask (xs:List UInt8) (h:8≤xs.length):(Lib.leNat (xs.take 8)&&&9259542123273814144=0)↔∀b∈xs.take 8,b.toNat<128:=by
 have h8:(xs.take 8).length=8:=by rw[List.length_take];omega
 have:=Lib.leNat_mask (xs.take 8)
 rwa [h8,Lib.maskN8] at this
theorem word_lt_ (xs:List UInt8) (h:8≤xs.length):Lib.leNat (xs.take 8)<18446744073709551616:=by
 have h8:(xs.take 8).length=8:=by rw[List.length_take];omega
 have:=Lib.leNat_lt (xs.take 8)
 rw[h8] at this
 simpa using this
theorem asc_take (xs:List UInt8) (a b:Nat) (h1:∀x∈xs.take a,x.toNat<128) (h2:∀x∈(xs.drop a).take b,x.toNat<128):∀x∈xs.take (a+b),x.toNat<128:=by
 rw[List.take_add]
 intro x hx
 rcases List.mem_append.1 hx with h|h
 ·exact h1 x h
 ·exact h2 x h
abbrev Tabs8 (w:World):Prop:=Lib.Utf8Tabs 28 29 w
theorem tabs8_keep {w w':World} {S:List Nat} (h:Tabs8 w) (k:Keeps S w w') (h28:28∉S) (h29:29∉S):Tabs8 w':=
 ⟨fun c hc=>k.some_ (h.1 c hc) h28,fun i hi=>⟨k.some_ (h.2 i hi).1 h29,k.some_ (h.2 i hi).2 h29⟩⟩
def VRel (w:World) (b N g:Nat) (s0:Value) (wr:World):Prop:=∃o t,s0=.slice (some ⟨b,o,none⟩) t.length t.length∧RB w b o t∧Lib.validD t=true∧t.length<g∧t.length≤N∧Keeps [] w wr
theorem lead2_of {t1:List UInt8} {LO HI:Nat} {x0:UInt8} (h:true=(match Lib.checkN (t1.length+1) (t1.getD 0 0).toNat (t1.getD 1 0).toNat (t1.getD 2 0).toNat 2 LO HI with|none=>false|some k=>Lib.validD (List.drop k (x0::t1)))):
 ∃x1 r,t1=x1::r∧LO≤x1.toNat∧x1.toNat≤HI∧Lib.validD r=true:=by
 simp only[Lib.checkN,Nat.reduceEqDiff,if_true,if_false] at h
 by_cases hb:t1.length+1<2∨(t1.getD 0 0).toNat<LO∨HI<(t1.getD 0 0).toNat
 ·rw[if_pos hb] at h;cases h
 ·rw[if_neg hb] at h
  match t1,hb with
  |x1::r,hb=>simp at hb h;exact⟨x1,r,rfl,by omega,by omega,h⟩
  |[],hb=>simp at hb
theorem lead3_of {t1:List UInt8} {LO HI:Nat} {x0:UInt8} (h:true=(match Lib.checkN (t1.length+1) (t1.getD 0 0).toNat (t1.getD 1 0).toNat (t1.getD 2 0).toNat 3 LO HI with|none=>false|some k=>Lib.validD (List.drop k (x0::t1)))):
 ∃x1 x2 r,t1=x1::x2::r∧LO≤x1.toNat∧x1.toNat≤HI∧128≤x2.toNat∧x2.toNat≤191∧Lib.validD r=true:=by
 simp only[Lib.checkN,Nat.reduceEqDiff,if_true,if_false] at h
 by_cases hb:t1.length+1<3∨(t1.getD 0 0).toNat<LO∨HI<(t1.getD 0 0).toNat∨(t1.getD 1 0).toNat<128∨191<(t1.getD 1 0).toNat
 ·rw[if_pos hb] at h;cases h
 ·rw[if_neg hb] at h
  match t1,hb with
  |x1::x2::r,hb=>simp at hb h;exact⟨x1,x2,r,rfl,by omega,by omega,by omega,by omega,h⟩
  |[_],hb=>simp at hb
  |[],hb=>simp at hb
theorem lead4_of {t1:List UInt8} {LO HI:Nat} {x0:UInt8} (h:true=(match Lib.checkN (t1.length+1) (t1.getD 0 0).toNat (t1.getD 1 0).toNat (t1.getD 2 0).toNat 4 LO HI with|none=>false|some k=>Lib.validD (List.drop k (x0::t1)))):
 ∃x1 x2 x3 r,t1=x1::x2::x3::r∧LO≤x1.toNat∧x1.toNat≤HI∧128≤x2.toNat∧x2.toNat≤191∧128≤x3.toNat∧x3.toNat≤191∧Lib.validD r=true:=by
 simp only[Lib.checkN,Nat.reduceEqDiff,if_true,if_false] at h
 by_cases hb:t1.length+1<4∨(t1.getD 0 0).toNat<LO∨HI<(t1.getD 0 0).toNat∨(t1.getD 1 0).toNat<128∨191<(t1.getD 1 0).toNat∨(t1.getD 2 0).toNat<128∨191<(t1.getD 2 0).toNat
 ·rw[if_pos hb] at h;cases h
 ·rw[if_neg hb] at h
  match t1,hb with
  |x1::x2::x3::r,hb=>simp at hb h;exact⟨x1,x2,x3,r,rfl,by omega,by omega,by omega,by omega,by omega,by omega,h⟩
  |[_,_],hb=>simp at hb
  |[_],hb=>simp at hb
  |[],hb=>simp at hb
theorem zG0 {p:Prop} (h:p:=by
 go_wp2_with fail
 go_quiet (fail)
 go_wp2_with fail
 go_roundg g'
 case measure=>omega
 case rel=>exact⟨o1,[],rfl,fun k u hu=>by simp at hu,HVR.o,by simp;omega,by simp,HKW.o.trans ((Keeps.alloc _ _).trans (Keeps.drewN _ _) (by simp)) (by simp)⟩
 ):p:=h
theorem zG1 {p:Prop} (h:p:=by
 go_wp2_with fail
 go_quiet (fail)
 go_wp2_with fail
 go_roundg g'
 case measure=>omega
 case rel=>exact⟨_,r,rfl,HR.o,HVR.o,by omega,by omega,HKW.o.trans ((Keeps.alloc _ _).trans (Keeps.drewN _ _) (by simp)) (by simp)⟩
 ):p:=h
theorem zG2 {p:Prop} (h:p:=by
 go_wp2_with fail
 go_roundg g'
 case measure=>omega
 case rel=>exact⟨_,u,rfl,HB4.o,V4.o,by omega,by omega,HK4.o.trans (Keeps.drewN _ _) (by simp)⟩
 ):p:=h
theorem zG3 {p:Prop} (h:p:=by
 go_wp2_with fail
 go_roundg g'
 case measure=>omega
 case rel=>exact⟨_,t2,rfl,HB2.o,V2.o,by omega,by omega,HKQ.o.trans (Keeps.drewN _ _) (by simp)⟩
 ):p:=h
theorem valid_c (w:World) (b o c:Nat) (xs:List UInt8) (hr:RB w b o xs) (hcap:xs.length≤c) (hl:xs.length≤1099511627776) (hv:Lib.validD xs=true) (hT:Tabs8 w):
 Calls prog 113 #[.slice (some ⟨b,o,none⟩) xs.length c] w fun e w'=>e=.returned (.bool true)∧Keeps [] w w':=by
 have HV:=hH hv
 have HT:=hH hT
 clear hv hT
 go_enter func113,ntmps113
 go_wp2_with fail
 go_loopg [0] (xs.length+1) (fun gk s0 wx=>VRel w b xs.length gk s0 wx)
 case atStart=>exact⟨o,xs,rfl,hr,HV.o,by omega,by omega,Keeps.refl _ _⟩
 case round=>
  obtain⟨o1,t,rfl,hb,hv,hg,hts,hkw⟩:=hrel
  rcases t with _|⟨x0,t1⟩
  ·go_wp2_with fail
   go_ret
   exact⟨rfl,hkw⟩
  ·obtain⟨g',rfl⟩:∃g',gk=g'+1:=⟨gk-1,by simp at hg;omega⟩
   simp only[List.length_cons] at hg hts
   have h0z:(0:Int)<(t1.length:Int)+1:=by omega
   have hx0lt:x0.toNat<256:=x0.toNat_lt
   have hbr:=hb.keep hkw (by simp)
   have c0:=hbr.at0 x0 rfl
   by_cases hasc:x0.toNat<128
   ·as_aux_lemma=>
    have hascz:(x0.toNat:Int)<128:=by omega
    have hb1:RB w b (o1+1) t1:=hb.drop 1
    have v1:Lib.validD t1=true:=by rw[←Lib.validD_cons x0 t1 hasc];exact hv
    have HB1:=hH hb1
    have V1:=hH v1
    have HKW:=hH hkw
    clear hv hb hbr v1 hb1 hkw
    by_cases c8:8<t1.length
    ·as_aux_lemma=>
     have c8z:(8:Int)<(t1.length:Int):=by omega
     have hne1:¬(t1.length=0):=by omega
     have hne8:¬(t1.length=8):=by omega
     obtain⟨A1,hA1⟩:∃A1,Lib.leNat (t1.take 8)=A1:=⟨_,rfl⟩
     have lA1:A1<18446744073709551616:=hA1▸word_lt_ t1 (by omega)
     have kA1:=word_mask t1 (by omega)
     rw[hA1] at kA1
     have cW1:=word_c wr b (o1+1) t1.length t1.length t1 (by omega) (by omega) (HB1.o.keep HKW.o (by simp))
     rw[hA1] at cW1
     have CW1:=hH cW1
     clear cW1 hA1
     have hand1:bits .and .u64 (A1:Int) 9259542123273814144=((A1&&&9259542123273814144:Nat):Int):=u64_and_nat A1 9259542123273814144 lA1 (by omega)
     obtain⟨Z1,hZ1⟩:∃Z1,A1&&&9259542123273814144=Z1:=⟨_,rfl⟩
     rw[hZ1] at hand1 kA1
     have KA1:=hH kA1
     clear kA1 hZ1
     by_cases hz1:Z1=0
     ·as_aux_lemma=>
      have hz1b:((Z1:Int)==0)=true:=by simp[hz1]
      have a8:=KA1.o.1 hz1
      have v2:Lib.validD (t1.drop 8)=true:=by rw[←Lib.validD_ascii 8 t1 a8];exact V1.o
      have V2:=hH v2
      have HB2:=hH (HB1.o.drop 8)
      clear a8 v2
      go_wp2_with fail
      refine CW1.o.mono ?_
      rintro e W1 ⟨rfl,q1,rfl⟩
      go_wp2_with fail
      obtain⟨t2,ht2⟩:∃t2,t1.drop 8=t2:=⟨_,rfl⟩
      have hz2:t1.length-8=t2.length:=by rw[←ht2,List.length_drop]
      rw[ht2] at HB2 V2
      have hkq:Keeps [] w (wr.drewN q1):=HKW.o.trans (Keeps.drewN _ _) (by simp)
      rw[hz2]
      generalize wr.drewN q1=wq at hkq ⊢
      have HKQ:=hH hkq
      have hts2:t2.length+9≤xs.length:=by omega
      have hg2:t2.length<g':=by omega
      clear hkq CW1 KA1 hand1 HKW HB1 V1 c0 hz1b hz1 ht2 hz2 lA1
      by_cases c16:16<t2.length
      ·as_aux_lemma=>
       have c16z:(16:Int)<(t2.length:Int):=by omega
       have c8z2:(8:Int)≤(t2.length:Int):=by omega
       have hne8b:¬(t2.length=8):=by omega
       have hne16b:¬(t2.length=16):=by omega
       obtain⟨A2,hA2⟩:∃A2,Lib.leNat (t2.take 8)=A2:=⟨_,rfl⟩
       obtain⟨A3,hA3⟩:∃A3,Lib.leNat ((t2.drop 8).take 8)=A3:=⟨_,rfl⟩
       have l8:8≤(t2.drop 8).length:=by rw[List.length_drop];omega
       have lA2:A2<18446744073709551616:=hA2▸word_lt_ t2 (by omega)
       have lA3:A3<18446744073709551616:=hA3▸word_lt_ (t2.drop 8) l8
       have kA2:=word_mask t2 (by omega)
       have kA3:=word_mask (t2.drop 8) l8
       rw[hA2] at kA2
       rw[hA3] at kA3
       have cW2:Hd (∀q,Calls prog 115 #[.slice (some ⟨b,o1+1+8,none⟩) t2.length t2.length] (wq.drewN q) fun e w'=>e=.returned (.int .u64 (A2:Int))∧∃m,w'=(wq.drewN q).drewN m):=by
        intro q;rw[←hA2];exact word_c _ b _ _ _ t2 (by omega) (by omega) ((HB2.o.keep HKQ.o (by simp)).drewN q)
       have cW3:Hd (∀q,Calls prog 115 #[.slice (some ⟨b,o1+1+8+8,none⟩) (t2.length-8) (t2.length-8)] (wq.drewN q) fun e w'=>e=.returned (.int .u64 (A3:Int))∧∃m,w'=(wq.drewN q).drewN m):=by
        intro q;rw[←hA3];exact word_c _ b _ _ _ (t2.drop 8) (by omega) l8 (((HB2.o.drop 8).keep HKQ.o (by simp)).drewN q)
       have hor2:bits .or .u64 (A2:Int) (A3:Int)=((A2|||A3:Nat):Int):=u64_or_nat A2 A3 lA2 lA3
       have lor2:A2|||A3<18446744073709551616:=Nat.or_lt_two_pow (n:=64) lA2 lA3
       have hand2:bits .and .u64 ((A2|||A3:Nat):Int) 9259542123273814144=(((A2|||A3)&&&9259542123273814144:Nat):Int):=u64_and_nat _ 9259542123273814144 lor2 (by omega)
       have k2:(A2|||A3)&&&9259542123273814144=0→∀x∈t2.take (8+8),x.toNat<128:=fun h0'=>by
        obtain⟨e1,e2⟩:=(Lib.or_mask A2 A3 _).1 h0'
        exact asc_take t2 8 8 (kA2.1 e1) (kA3.1 e2)
       obtain⟨O2,hO2⟩:∃O2,A2|||A3=O2:=⟨_,rfl⟩
       rw[hO2] at hor2 hand2 k2
       obtain⟨Z2,hZ2⟩:∃Z2,O2&&&9259542123273814144=Z2:=⟨_,rfl⟩
       rw[hZ2] at hand2 k2
       have K2:=hH k2
       clear kA2 kA3 lor2 hO2 hZ2 hA2 hA3 k2 l8
       by_cases hz2:Z2=0
       ·as_aux_lemma=>
        have hz2b:((Z2:Int)==0)=true:=by simp[hz2]
        have V3:=hH (show Lib.validD (t2.drop 16)=true by rw[←Lib.validD_ascii 16 t2 (K2.o hz2)];exact V2.o)
        have HB3:=hH (HB2.o.drop 16)
        clear K2
        go_quiet ((first|(go_at_call 115;with_reducible refine Calls.quiet_of (cW2.o _))|(go_at_call 115;with_reducible refine Calls.quiet_of (cW3.o _))))
        go_wp2_with fail
        obtain⟨t3,ht3⟩:∃t3,t2.drop 16=t3:=⟨_,rfl⟩
        have hz3:t2.length-16=t3.length:=by rw[←ht3,List.length_drop]
        rw[ht3] at HB3 V3
        have hkq:Keeps [] w (wq.drewN nq):=HKQ.o.trans (Keeps.drewN _ _) (by simp)
        rw[hz3]
        generalize wq.drewN nq=wq2 at hkq ⊢
        have HKQ2:=hH hkq
        have hts3:t3.length+9≤xs.length:=by omega
        have hg3:t3.length<g':=by omega
        clear hkq cW2 cW3 hand2 hor2 HKQ HB2 V2 hz2b hz2 ht3 hz3 lA2 lA3
        go_loopg [0] (t3.length+1) (fun g2 s0 wx=>VRel w b t3.length g2 s0 wx)
        case atStart=>exact⟨_,t3,rfl,HB3.o,V3.o,by omega,by omega,HKQ2.o⟩
        case round=>
         obtain⟨o4,u,rfl,hb4,v4,hg4,hts4,hkw4⟩:=hrel
         by_cases c32:32<u.length
         ·obtain⟨g3,rfl⟩:∃g3,gk=g3+1:=⟨gk-1,by omega⟩
          have c32z:(32:Int)<(u.length:Int):=by omega
          have s8u:(8:Int)≤(u.length:Int):=by omega
          have s16u:(16:Int)≤(u.length:Int):=by omega
          have s24u:(24:Int)≤(u.length:Int):=by omega
          have n8:¬(u.length=8):=by omega
          have n16:¬(u.length=16):=by omega
          have n24:¬(u.length=24):=by omega
          have n32:¬(u.length=32):=by omega
          obtain⟨B0,hB0⟩:∃B0,Lib.leNat (u.take 8)=B0:=⟨_,rfl⟩
          have m0:8≤u.length:=by omega
          have lB0:B0<18446744073709551616:=hB0▸word_lt_ u m0
          have kB0:=word_mask u m0
          rw[hB0] at kB0
          have cB0:Hd (∀q,Calls prog 115 #[.slice (some ⟨b,o4,none⟩) u.length u.length] (wr.drewN q) fun e w'=>e=.returned (.int .u64 (B0:Int))∧∃m,w'=(wr.drewN q).drewN m):=by
           intro q;rw[←hB0];exact word_c _ b _ _ _ u (by omega) m0 ((hb4.keep hkw4 (by simp)).drewN q)
          obtain⟨B1,hB1⟩:∃B1,Lib.leNat ((u.drop 8).take 8)=B1:=⟨_,rfl⟩
          have m1:8≤(u.drop 8).length:=by rw[List.length_drop];omega
          have lB1:B1<18446744073709551616:=hB1▸word_lt_ (u.drop 8) m1
          have kB1:=word_mask (u.drop 8) m1
          rw[hB1] at kB1
          have cB1:Hd (∀q,Calls prog 115 #[.slice (some ⟨b,o4+8,none⟩) (u.length-8) (u.length-8)] (wr.drewN q) fun e w'=>e=.returned (.int .u64 (B1:Int))∧∃m,w'=(wr.drewN q).drewN m):=by
           intro q;rw[←hB1];exact word_c _ b _ _ _ (u.drop 8) (by omega) m1 (((hb4.drop 8).keep hkw4 (by simp)).drewN q)
          obtain⟨B2,hB2⟩:∃B2,Lib.leNat ((u.drop 16).take 8)=B2:=⟨_,rfl⟩
          have m2:8≤(u.drop 16).length:=by rw[List.length_drop];omega
          have lB2:B2<18446744073709551616:=hB2▸word_lt_ (u.drop 16) m2
          have kB2:=word_mask (u.drop 16) m2
          rw[hB2] at kB2
          have cB2:Hd (∀q,Calls prog 115 #[.slice (some ⟨b,o4+16,none⟩) (u.length-16) (u.length-16)] (wr.drewN q) fun e w'=>e=.returned (.int .u64 (B2:Int))∧∃m,w'=(wr.drewN q).drewN m):=by
           intro q;rw[←hB2];exact word_c _ b _ _ _ (u.drop 16) (by omega) m2 (((hb4.drop 16).keep hkw4 (by simp)).drewN q)
          obtain⟨B3,hB3⟩:∃B3,Lib.leNat ((u.drop 24).take 8)=B3:=⟨_,rfl⟩
          have m3:8≤(u.drop 24).length:=by rw[List.length_drop];omega
          have lB3:B3<18446744073709551616:=hB3▸word_lt_ (u.drop 24) m3
          have kB3:=word_mask (u.drop 24) m3
          rw[hB3] at kB3
          have cB3:Hd (∀q,Calls prog 115 #[.slice (some ⟨b,o4+24,none⟩) (u.length-24) (u.length-24)] (wr.drewN q) fun e w'=>e=.returned (.int .u64 (B3:Int))∧∃m,w'=(wr.drewN q).drewN m):=by
           intro q;rw[←hB3];exact word_c _ b _ _ _ (u.drop 24) (by omega) m3 (((hb4.drop 24).keep hkw4 (by simp)).drewN q)
          have ho1:bits .or .u64 (B0:Int) (B1:Int)=((B0|||B1:Nat):Int):=u64_or_nat B0 B1 lB0 lB1
          have ho2:bits .or .u64 (B2:Int) (B3:Int)=((B2|||B3:Nat):Int):=u64_or_nat B2 B3 lB2 lB3
          have lo1:B0|||B1<18446744073709551616:=Nat.or_lt_two_pow (n:=64) lB0 lB1
          have lo2:B2|||B3<18446744073709551616:=Nat.or_lt_two_pow (n:=64) lB2 lB3
          have ho3:bits .or .u64 ((B0|||B1:Nat):Int) ((B2|||B3:Nat):Int)=(((B0|||B1)|||(B2|||B3):Nat):Int):=u64_or_nat _ _ lo1 lo2
          have lo3:(B0|||B1)|||(B2|||B3)<18446744073709551616:=Nat.or_lt_two_pow (n:=64) lo1 lo2
          have hand3:bits .and .u64 (((B0|||B1)|||(B2|||B3):Nat):Int) 9259542123273814144=((((B0|||B1)|||(B2|||B3))&&&9259542123273814144:Nat):Int):=u64_and_nat _ 9259542123273814144 lo3 (by omega)
          have k3:((B0|||B1)|||(B2|||B3))&&&9259542123273814144=0→∀x∈u.take (8+8+8+8),x.toNat<128:=fun h0'=>by
           obtain⟨e01,e23⟩:=(Lib.or_mask _ _ _).1 h0'
           obtain⟨e0,e1⟩:=(Lib.or_mask _ _ _).1 e01
           obtain⟨e2,e3⟩:=(Lib.or_mask _ _ _).1 e23
           exact asc_take u 24 8 (asc_take u 16 8 (asc_take u 8 8 (kB0.1 e0) (kB1.1 e1)) (kB2.1 e2)) (kB3.1 e3)
          obtain⟨P1,hP1⟩:∃P1,B0|||B1=P1:=⟨_,rfl⟩
          obtain⟨P2,hP2⟩:∃P2,B2|||B3=P2:=⟨_,rfl⟩
          rw[hP1,hP2] at ho3 hand3 k3
          rw[hP1] at ho1
          rw[hP2] at ho2
          obtain⟨P3,hP3⟩:∃P3,P1|||P2=P3:=⟨_,rfl⟩
          rw[hP3] at ho3 hand3 k3
          obtain⟨Z3,hZ3⟩:∃Z3,P3&&&9259542123273814144=Z3:=⟨_,rfl⟩
          rw[hZ3] at hand3 k3
          have K3:=hH k3
          have HB4:=hH hb4
          have V4:=hH v4
          have HK4:=hH hkw4
          clear kB0 kB1 kB2 kB3 lo1 lo2 lo3 hP1 hP2 hP3 hZ3 k3 hb4 v4 hkw4 hB0 hB1 hB2 hB3 m0 m1 m2 m3
          by_cases hz3:Z3=0
          ·as_aux_lemma=>
           have hz3b:((Z3:Int)==0)=true:=by simp[hz3]
           have V5:=hH (show Lib.validD (u.drop 32)=true by rw[←Lib.validD_ascii 32 u (K3.o hz3)];exact V4.o)
           have HB5:=hH (HB4.o.drop 32)
           clear K3
           go_wp2_with fail
           go_quiet ((first|(go_at_call 115;with_reducible refine Calls.quiet_of (cB0.o _))|(go_at_call 115;with_reducible refine Calls.quiet_of (cB1.o _))|(go_at_call 115;with_reducible refine Calls.quiet_of (cB2.o _))|(go_at_call 115;with_reducible refine Calls.quiet_of (cB3.o _))))
           go_wp2_with fail
           go_roundg g3
           case measure=>omega
           case rel=>exact⟨_,u.drop 32,by rw[List.length_drop],HB5.o,V5.o,by rw[List.length_drop];omega,by rw[List.length_drop];omega,HK4.o.trans (Keeps.drewN _ _) (by simp)⟩
          ·as_aux_lemma=>
           have hz3b:((Z3:Int)==0)=false:=by simp;omega
           go_wp2_with fail
           go_quiet ((first|(go_at_call 115;with_reducible refine Calls.quiet_of (cB0.o _))|(go_at_call 115;with_reducible refine Calls.quiet_of (cB1.o _))|(go_at_call 115;with_reducible refine Calls.quiet_of (cB2.o _))|(go_at_call 115;with_reducible refine Calls.quiet_of (cB3.o _))))
           exact zG2
         ·as_aux_lemma=>
          have c32z:¬((32:Int)<(u.length:Int)):=by omega
          have c32b:decide ((32:Int)<(u.length:Int))=false:=decide_eq_false c32z
          have HB4:=hH hb4
          have V4:=hH v4
          have HK4:=hH hkw4
          clear hb4 v4 hkw4
          go_wp2_with fail
          go_quiet (fail)
          exact zG2
       ·as_aux_lemma=>
        have hz2b:((Z2:Int)==0)=false:=by simp;omega
        go_quiet ((first|(go_at_call 115;with_reducible refine Calls.quiet_of (cW2.o _))|(go_at_call 115;with_reducible refine Calls.quiet_of (cW3.o _))))
        exact zG3
      ·as_aux_lemma=>
       have c16z:¬((16:Int)<(t2.length:Int)):=by omega
       have c16b:decide ((16:Int)<(t2.length:Int))=false:=decide_eq_false c16z
       go_quiet (fail)
       exact zG3
     ·as_aux_lemma=>
      have hz1b:((Z1:Int)==0)=false:=by simp;omega
      go_wp2_with fail
      refine CW1.o.mono ?_
      rintro e W1 ⟨rfl,q1,rfl⟩
      go_wp2_with fail
      go_roundg g'
      case measure=>omega
      case rel=>exact⟨_,t1,rfl,HB1.o,V1.o,by omega,by omega,HKW.o.trans (Keeps.drewN _ _) (by simp)⟩
    ·as_aux_lemma=>
     have c8z:¬((8:Int)<(t1.length:Int)):=by omega
     have c8b:decide ((8:Int)<(t1.length:Int))=false:=decide_eq_false c8z
     by_cases hne1:t1.length=0
     ·have ht:t1=[]:=List.eq_nil_of_length_eq_zero hne1
      subst ht
      clear c8z c8b hne1 c8
      simp only[List.length_nil] at*
      go_wp2_with fail
      go_roundg g'
      case measure=>omega
      case rel=>exact⟨o1,[],rfl,fun k u hu=>by simp at hu,V1.o,by simp;omega,by simp,HKW.o⟩
     ·go_wp2_with fail
      go_roundg g'
      case measure=>omega
      case rel=>exact⟨_,t1,rfl,HB1.o,V1.o,by omega,by omega,HKW.o⟩
   ·as_aux_lemma=>
    have hge:128≤x0.toNat:=by omega
    have hascz:¬((x0.toNat:Int)<128):=by omega
    have hlead:=Lib.validD_lead (x0::t1) (by simp) (by simpa using hge)
    simp only[List.getD_cons_zero,List.length_cons,List.getD_cons_succ] at hlead
    rw[hv] at hlead
    have hTr:=tabs8_keep HT.o hkw (by simp) (by simp)
    have hc0:=hTr.1 x0.toNat hx0lt
    have hXlt:Lib.firstT x0.toNat<256:=by rcases Lib.firstT_cases x0.toNat with h|h|h|h|h|h|h|h|h<;>omega
    obtain⟨X,hX⟩:∃X,Lib.firstT x0.toNat=X:=⟨_,rfl⟩
    rw[hX] at hc0 hXlt hlead
    have h7:=and7_ ⟨X,hXlt⟩
    simp only at h7
    have ha0:wr.cell? ⟨29,X / 16*2,none⟩=some (.int .u8 (Lib.accLo (X / 16))):=by rw[Nat.mul_comm];exact(hTr.2 (X / 16) (by omega)).1
    have ha1:wr.cell? ⟨29,X / 16*2+1,none⟩=some (.int .u8 (Lib.accHi (X / 16))):=by rw[Nat.mul_comm];exact(hTr.2 (X / 16) (by omega)).2
    obtain⟨LO,hLO⟩:∃LO,Lib.accLo (X / 16)=LO:=⟨_,rfl⟩
    obtain⟨HI,hHI⟩:∃HI,Lib.accHi (X / 16)=HI:=⟨_,rfl⟩
    rw[hLO] at ha0 hlead
    rw[hHI] at ha1 hlead
    obtain⟨SZ,hSZ⟩:∃SZ,X % 8=SZ:=⟨_,rfl⟩
    rw[hSZ] at hlead
    have HKW:=hH hkw
    have HB:=hH hb
    clear hTr hX hv hLO hHI hkw hb
    by_cases s2:SZ=2
    ·as_aux_lemma=>
     subst s2
     have hSZz:(X:Int) % 8=2:=by omega
     have hk:=lead2_of hlead
     obtain⟨x1,r,rfl,p1,p2,hvr⟩:=hk
     have z1:x1.toNat<256:=x1.toNat_lt
     have d1:=(hbr.keep (Keeps.alloc wr (.cells #[.int .u8 (LO:Int),.int .u8 (HI:Int)] 168)) (by simp)).at_ 1 x1 rfl
     have q0z:¬((r.length:Int)+1+1<2):=by omega
     have qz1:(1:Int)<(r.length:Int)+1+1:=by omega
     have e1:¬((x1.toNat:Int)<(LO:Int)):=by omega
     have f1:decide ((x1.toNat:Int)<(LO:Int))=false:=decide_eq_false e1
     have e2:¬((HI:Int)<(x1.toNat:Int)):=by omega
     have f2:decide ((HI:Int)<(x1.toNat:Int))=false:=decide_eq_false e2
     have f0:decide ((r.length:Int)+1+1<2)=false:=decide_eq_false q0z
     have HVR:=hH hvr
     have HR:=hH (HB.o.drop 2)
     clear hlead hbr hvr HB
     by_cases hr0:r.length=0
     ·have ht:r=[]:=List.eq_nil_of_length_eq_zero hr0
      subst ht
      clear hr0
      simp only[List.length_cons,List.length_nil] at hts hg q0z f0 h0z qz1 ⊢
      exact zG0
     ·simp only[List.length_cons] at hts hg q0z f0 h0z qz1 ⊢
      exact zG1
    by_cases s3:SZ=3
    ·as_aux_lemma=>
     subst s3
     have hSZz:(X:Int) % 8=3:=by omega
     have hk:=lead3_of hlead
     obtain⟨x1,x2,r,rfl,p1,p2,p3,p4,hvr⟩:=hk
     have z1:x1.toNat<256:=x1.toNat_lt
     have d1:=(hbr.keep (Keeps.alloc wr (.cells #[.int .u8 (LO:Int),.int .u8 (HI:Int)] 168)) (by simp)).at_ 1 x1 rfl
     have z2:x2.toNat<256:=x2.toNat_lt
     have d2:=(hbr.keep (Keeps.alloc wr (.cells #[.int .u8 (LO:Int),.int .u8 (HI:Int)] 168)) (by simp)).at_ 2 x2 rfl
     have q0z:¬((r.length:Int)+1+1+1<3):=by omega
     have qz1:(1:Int)<(r.length:Int)+1+1+1:=by omega
     have qz2:(2:Int)<(r.length:Int)+1+1+1:=by omega
     have e1:¬((x1.toNat:Int)<(LO:Int)):=by omega
     have f1:decide ((x1.toNat:Int)<(LO:Int))=false:=decide_eq_false e1
     have e2:¬((HI:Int)<(x1.toNat:Int)):=by omega
     have f2:decide ((HI:Int)<(x1.toNat:Int))=false:=decide_eq_false e2
     have e3:¬((x2.toNat:Int)<(128:Int)):=by omega
     have f3:decide ((x2.toNat:Int)<(128:Int))=false:=decide_eq_false e3
     have e4:¬((191:Int)<(x2.toNat:Int)):=by omega
     have f4:decide ((191:Int)<(x2.toNat:Int))=false:=decide_eq_false e4
     have f0:decide ((r.length:Int)+1+1+1<3)=false:=decide_eq_false q0z
     have HVR:=hH hvr
     have HR:=hH (HB.o.drop 3)
     clear hlead hbr hvr HB
     by_cases hr0:r.length=0
     ·have ht:r=[]:=List.eq_nil_of_length_eq_zero hr0
      subst ht
      clear hr0
      simp only[List.length_cons,List.length_nil] at hts hg q0z f0 h0z qz1 qz2 ⊢
      exact zG0
     ·simp only[List.length_cons] at hts hg q0z f0 h0z qz1 qz2 ⊢
      exact zG1
    by_cases s4:SZ=4
    ·as_aux_lemma=>
     subst s4
     have hSZz:(X:Int) % 8=4:=by omega
     have hk:=lead4_of hlead
     obtain⟨x1,x2,x3,r,rfl,p1,p2,p3,p4,p5,p6,hvr⟩:=hk
     have z1:x1.toNat<256:=x1.toNat_lt
     have d1:=(hbr.keep (Keeps.alloc wr (.cells #[.int .u8 (LO:Int),.int .u8 (HI:Int)] 168)) (by simp)).at_ 1 x1 rfl
     have z2:x2.toNat<256:=x2.toNat_lt
     have d2:=(hbr.keep (Keeps.alloc wr (.cells #[.int .u8 (LO:Int),.int .u8 (HI:Int)] 168)) (by simp)).at_ 2 x2 rfl
     have z3:x3.toNat<256:=x3.toNat_lt
     have d3:=(hbr.keep (Keeps.alloc wr (.cells #[.int .u8 (LO:Int),.int .u8 (HI:Int)] 168)) (by simp)).at_ 3 x3 rfl
     have q0z:¬((r.length:Int)+1+1+1+1<4):=by omega
     have qz1:(1:Int)<(r.length:Int)+1+1+1+1:=by omega
     have qz2:(2:Int)<(r.length:Int)+1+1+1+1:=by omega
     have qz3:(3:Int)<(r.length:Int)+1+1+1+1:=by omega
     have e1:¬((x1.toNat:Int)<(LO:Int)):=by omega
     have f1:decide ((x1.toNat:Int)<(LO:Int))=false:=decide_eq_false e1
     have e2:¬((HI:Int)<(x1.toNat:Int)):=by omega
     have f2:decide ((HI:Int)<(x1.toNat:Int))=false:=decide_eq_false e2
     have e3:¬((x2.toNat:Int)<(128:Int)):=by omega
     have f3:decide ((x2.toNat:Int)<(128:Int))=false:=decide_eq_false e3
     have e4:¬((191:Int)<(x2.toNat:Int)):=by omega
     have f4:decide ((191:Int)<(x2.toNat:Int))=false:=decide_eq_false e4
     have e5:¬((x3.toNat:Int)<(128:Int)):=by omega
     have f5:decide ((x3.toNat:Int)<(128:Int))=false:=decide_eq_false e5
     have e6:¬((191:Int)<(x3.toNat:Int)):=by omega
     have f6:decide ((191:Int)<(x3.toNat:Int))=false:=decide_eq_false e6
     have f0:decide ((r.length:Int)+1+1+1+1<4)=false:=decide_eq_false q0z
     have HVR:=hH hvr
     have HR:=hH (HB.o.drop 4)
     clear hlead hbr hvr HB
     by_cases hr0:r.length=0
     ·have ht:r=[]:=List.eq_nil_of_length_eq_zero hr0
      subst ht
      clear hr0
      simp only[List.length_cons,List.length_nil] at hts hg q0z f0 h0z qz1 qz2 qz3 ⊢
      exact zG0
     ·simp only[List.length_cons] at hts hg q0z f0 h0z qz1 qz2 qz3 ⊢
      exact zG1
    ·exfalso
     simp[Lib.checkN,s2,s3,s4] at hlead
end Go.Proofs.YtkglmacaecmhdaaGreatDoor
