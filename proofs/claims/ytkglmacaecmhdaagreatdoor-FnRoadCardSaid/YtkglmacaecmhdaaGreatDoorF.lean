/- FnRoad, part F: the walks of R0, R1, T0. -/
import Derived.Laws.BitsAllLaws
import Derived.BigQuiet
import Derived.Deep.QuietTactic
import Derived.Deep.DeepFit
import Derived.IntWalk
import Derived.Laws.BytesString
import Derived.Shelf.Unicode.WordAny
import Derived.Lib.ValidAsc
import Derived.Test.YtkglmacaecmhdaaGreatDoorA
set_option linter.unusedVariables false
set_option linter.unusedSimpArgs false
set_option maxHeartbeats 8000000
set_option maxRecDepth 100000
namespace Go.Proofs.YtkglmacaecmhdaaGreatDoor
open Go Go.RowKit Tryz
theorem or_high (a b i m:Nat) (hm:m=2^ i) (h:a<m):a|||(b*m)=b*m+a:=by
 subst hm
 rw[Nat.or_comm,←Nat.shiftLeft_eq,Nat.shiftLeft_add_eq_or_of_lt h]
theorem or16 (h l:Nat) (hh:h<256) (hl:l<256):bits BinOp.or IntKind.u16 (l:Int) ((h:Int)*256)=((h*256+l:Nat):Int):=by
 rw[show((h:Int)*256)=((h*256:Nat):Int) by omega,u16_or_nat l (h*256) (by omega) (by omega),or_high l h 8 256 (by decide) (by omega)]
theorem or32 (n0 n1 n2 n3:Nat) (b0:n0<256) (b1:n1<256) (b2:n2<256) (b3:n3<256):
 bits BinOp.or IntKind.u32 (bits BinOp.or IntKind.u32 (bits BinOp.or IntKind.u32 (n3:Int) ((n2:Int)*256)) ((n1:Int)*65536)) ((n0:Int)*16777216)=((n0*16777216+n1*65536+n2*256+n3:Nat):Int):=by
 rw[show((n2:Int)*256)=((n2*256:Nat):Int) by omega,show((n1:Int)*65536)=((n1*65536:Nat):Int) by omega,show((n0:Int)*16777216)=((n0*16777216:Nat):Int) by omega,
  u32_or_nat n3 (n2*256) (by omega) (by omega),or_high n3 n2 8 256 (by decide) (by omega),u32_or_nat _ (n1*65536) (by omega) (by omega),or_high _ n1 16 65536 (by decide) (by omega),u32_or_nat _ (n0*16777216) (by omega) (by omega),or_high _ n0 24 16777216 (by decide) (by omega)]
 omega
def Reads (w:World) (v:Value) (e:Ending) (w':World):Prop:=e=.returned v∧∃m,w'=w.drewN m
theorem Reads.keeps {w w':World} {v:Value} {e:Ending} (h:Reads w v e w'):Keeps [] w w':=by
 obtain⟨_,m,rfl⟩:=h
 exact Keeps.drewN w m
theorem beUint16_c (w:World) (b o c:Nat) (h l:UInt8) (h0:w.cell? ⟨b,o,none⟩=some (bv h)) (h1:w.cell? ⟨b,o+1,none⟩=some (bv l)):
 Calls prog 106 #[.slice (some ⟨b,o,none⟩) 2 c] w (Reads w (.int .u16 ((h.toNat*256+l.toNat:Nat):Int))):=by
 have hh:=h.toNat_lt
 have hl:=l.toNat_lt
 unfold bv at h0 h1
 go_enter func106,ntmps106
 go_wp2_with fail
 go_quiet (fail)
 go_wp2_with fail
 go_ret
 refine⟨?_,nq,rfl⟩
 simp only[or16 _ _ hh hl]
 rfl
theorem beUint32_c (w:World) (b o c:Nat) (x0 x1 x2 x3:UInt8) (h0:w.cell? ⟨b,o,none⟩=some (bv x0)) (h1:w.cell? ⟨b,o+1,none⟩=some (bv x1)) (h2:w.cell? ⟨b,o+2,none⟩=some (bv x2)) (h3:w.cell? ⟨b,o+3,none⟩=some (bv x3)):
 Calls prog 112 #[.slice (some ⟨b,o,none⟩) 4 c] w (Reads w (.int .u32 ((x0.toNat*16777216+x1.toNat*65536+x2.toNat*256+x3.toNat:Nat):Int))):=by
 have b0:=x0.toNat_lt
 have b1:=x1.toNat_lt
 have b2:=x2.toNat_lt
 have b3:=x3.toNat_lt
 unfold bv at h0 h1 h2 h3
 go_enter func112,ntmps112
 go_wp2_with fail
 go_quiet (fail)
 go_wp2_with fail
 go_ret
 refine⟨?_,nq,rfl⟩
 simp only[or32 _ _ _ _ b0 b1 b2 b3]
 rfl
theorem rd_at {w:World} {A:Option Addr} {xs:List UInt8} (hr:Rd w 1 A xs.length (bvs xs)) (h0:0<xs.length):∃b o,A=some ⟨b,o,none⟩∧∀k u,xs[k]?=some u→w.cell? ⟨b,o+k,none⟩=some (bv u):=by
 obtain⟨b,o,rfl,hc⟩:=hr.2 h0
 exact⟨b,o,rfl,fun k u hu=>hc k _ (by rw[bvs_get,hu];rfl)⟩
theorem drop_at {xs ys rest:List UInt8} {k:Nat} (h:xs.drop k=ys++rest) (j:Nat) (u:UInt8) (hj:ys[j]?=some u):xs[k+j]?=some u:=by
 rw[←List.getElem?_drop,h,List.getElem?_append_left (by exact(List.getElem?_eq_some_iff.1 hj).1),hj]
theorem drop_le {xs ys rest:List UInt8} {k:Nat} (h:xs.drop k=ys++rest) (hy:0<ys.length):k+ys.length≤xs.length:=by
 have:=congrArg List.length h
 rw[List.length_drop,List.length_append] at this
 omega
theorem decodeByte_c (w:World) (A:Option Addr) (c:Nat) (xs rest:List UInt8) (k:Nat) (u:UInt8) (hr:Rd w 1 A xs.length (bvs xs)) (hx:xs.drop k=[u]++rest) (hl:xs.length≤1099511627776):
 Calls prog 92 #[.slice A xs.length c,.int .i64 (k:Int)] w fun e w'=>e=.returned (.tuple #[.int .u8 (u.toNat:Int),.int .i64 ((k+1:Nat):Int),.nilIface])∧w=w':=by
 have hk:=drop_le hx (by simp)
 simp only[List.length_singleton] at hk
 have hz:¬((xs.length:Int)≤(k:Int)):=by omega
 have hz2:(k:Int)<(xs.length:Int):=by omega
 obtain⟨b,o,rfl,hc⟩:=rd_at hr (by omega)
 have h0:=hc (k+0) u (drop_at hx 0 u rfl)
 unfold bv at h0
 simp only[Nat.add_zero] at h0
 clear hc hr hx
 go_enter func92,ntmps92
 go_wp2_with fail
 go_ret3
 exact⟨by simp,rfl⟩
theorem zF0 {p:Prop} (h:p:=by
 rintro e w' ⟨rfl,m,rfl⟩
 go_wp2_with fail
 go_ret3
 exact⟨by simp,m,rfl⟩
 ):p:=h
theorem decodeUint16_c (w:World) (A:Option Addr) (c:Nat) (xs rest:List UInt8) (k v:Nat) (hr:Rd w 1 A xs.length (bvs xs)) (hx:xs.drop k=be2 v++rest) (hv:v<65536) (hl:xs.length≤1099511627776) (hcap:xs.length≤c):
 Calls prog 93 #[.slice A xs.length c,.int .i64 (k:Int)] w (Reads w (.tuple #[.int .u16 (v:Int),.int .i64 ((k+2:Nat):Int),.nilIface])):=by
 have hk:=drop_le hx (by simp[be2])
 simp only[be2_length] at hk
 have hz:¬((xs.length:Int)<(k:Int)+2):=by omega
 obtain⟨b,o,rfl,hc⟩:=rd_at hr (by omega)
 have h0:=hc (k+0) _ (drop_at hx 0 _ rfl)
 have h1:=hc (k+1) _ (drop_at hx 1 _ rfl)
 rw[Nat.add_zero] at h0
 rw[←Nat.add_assoc] at h1
 have hck:¬(c=k):=by omega
 have hbe:=beUint16_c w b (o+k) (c-k) _ _ h0 h1
 have e:(UInt8.ofNat (v / 256)).toNat*256+(UInt8.ofNat v).toNat=v:=by rw[UInt8.toNat_ofNat',UInt8.toNat_ofNat'];omega
 rw[e] at hbe
 have HBE:=hH hbe
 clear hc hr hx hbe h0 h1 e
 go_enter func93,ntmps93
 go_wp2_with fail
 refine HBE.o.mono ?_
 exact zF0
theorem decodeUint32_c (w:World) (A:Option Addr) (c:Nat) (xs rest:List UInt8) (k v:Nat) (hr:Rd w 1 A xs.length (bvs xs)) (hx:xs.drop k=be4 v++rest) (hv:v<4294967296) (hl:xs.length≤1099511627776) (hcap:xs.length≤c):
 Calls prog 108 #[.slice A xs.length c,.int .i64 (k:Int)] w (Reads w (.tuple #[.int .u32 (v:Int),.int .i64 ((k+4:Nat):Int),.nilIface])):=by
 have hk:=drop_le hx (by simp[be4])
 simp only[be4_length] at hk
 have hz:¬((xs.length:Int)<(k:Int)+4):=by omega
 obtain⟨b,o,rfl,hc⟩:=rd_at hr (by omega)
 have h0:=hc (k+0) _ (drop_at hx 0 _ rfl)
 have h1:=hc (k+1) _ (drop_at hx 1 _ rfl)
 have h2:=hc (k+2) _ (drop_at hx 2 _ rfl)
 have h3:=hc (k+3) _ (drop_at hx 3 _ rfl)
 rw[Nat.add_zero] at h0
 rw[←Nat.add_assoc] at h1 h2 h3
 have hck:¬(c=k):=by omega
 have hbe:=beUint32_c w b (o+k) (c-k) _ _ _ _ h0 h1 h2 h3
 have e:(UInt8.ofNat (v / 16777216)).toNat*16777216+(UInt8.ofNat (v / 65536)).toNat*65536+(UInt8.ofNat (v / 256)).toNat*256+(UInt8.ofNat v).toNat=v:=by rw[UInt8.toNat_ofNat',UInt8.toNat_ofNat',UInt8.toNat_ofNat',UInt8.toNat_ofNat'];omega
 rw[e] at hbe
 have HBE:=hH hbe
 clear hc hr hx hbe h0 h1 h2 h3 e
 go_enter func108,ntmps108
 go_wp2_with fail
 refine HBE.o.mono ?_
 exact zF0
theorem decodeBytes_c (w:World) (b o:Nat) (c:Nat) (xs ys rest:List UInt8) (k:Nat) (hr:Rd w 1 (some ⟨b,o,none⟩) xs.length (bvs xs)) (hx:xs.drop k=lp ys++rest) (hv:ys.length<65536) (hl:xs.length≤1099511627776) (hcap:xs.length≤c):
 Calls prog 91 #[.slice (some ⟨b,o,none⟩) xs.length c,.int .i64 (k:Int)] w (Reads w (.tuple #[.slice (if c=k+2 then some ⟨b,o,none⟩ else some ⟨b,o+(k+2),none⟩) ys.length (c-(k+2)),.int .i64 ((k+2+ys.length:Nat):Int),.nilIface])):=by
 have hk:=drop_le hx (by simp[lp,be2])
 simp only[lp_length] at hk
 have hx2:xs.drop k=be2 ys.length++(ys++rest):=by rw[hx,lp,List.append_assoc]
 have hu:=hH (decodeUint16_c w (some ⟨b,o,none⟩) c xs _ k ys.length hr hx2 hv hl hcap)
 have hz:¬((xs.length:Int)<(k:Int)+2+(ys.length:Int)):=by omega
 have hz0:¬((xs.length:Int)<((k+2+ys.length:Nat):Int)):=by omega
 obtain⟨n,hn⟩:∃n,ys.length=n:=⟨_,rfl⟩
 rw[hn] at hu hz hz0 hv hk ⊢
 clear hr hx hx2 hn
 by_cases hck:c=k+2
 ·rw[if_pos hck]
  subst hck
  go_enter func91,ntmps91
  go_wp2_with fail
  go_fit (hu.o)
  exact zF0
 ·rw[if_neg hck]
  go_enter func91,ntmps91
  go_wp2_with fail
  go_fit (hu.o)
  exact zF0
theorem decodeByteBool_c (w:World) (A:Option Addr) (c:Nat) (xs rest:List UInt8) (k:Nat) (u:Bool) (hr:Rd w 1 A xs.length (bvs xs)) (hx:xs.drop k=[UInt8.ofNat (bit u)]++rest) (hl:xs.length≤1099511627776):
 Calls prog 96 #[.slice A xs.length c,.int .i64 (k:Int)] w fun e w'=>e=.returned (.tuple #[.bool u,.int .i64 ((k+1:Nat):Int),.nilIface])∧w=w':=by
 have hk:=drop_le hx (by simp)
 simp only[List.length_singleton] at hk
 have hz:¬((xs.length:Int)≤(k:Int)):=by omega
 have hz2:(k:Int)<(xs.length:Int):=by omega
 obtain⟨b,o,rfl,hc⟩:=rd_at hr (by omega)
 have h0:=hc (k+0) _ (drop_at hx 0 _ rfl)
 unfold bv at h0
 simp only[Nat.add_zero] at h0
 clear hc hr hx
 cases u
 all_goals
  have h0':w.cell? ⟨b,o+k,none⟩=some (.int .u8 _):=h0
  clear h0
  simp only[bit] at h0'
  go_enter func96,ntmps96
  go_wp2_with fail
  go_ret3
  exact⟨by simp<;>decide,rfl⟩
theorem hasNull_c (w:World) (A:Option Addr) (c:Nat) (xs:List UInt8) (hr:Rd w 1 A xs.length (bvs xs)) (hl:xs.length≤1099511627776) (h0:∀u∈xs,u≠0):
 Calls prog 114 #[.slice A xs.length c] w fun e w'=>e=.returned (.bool false)∧w=w':=by
 have HR:=hH hr
 have H0:=hH h0
 clear hr h0
 go_enter func114,ntmps114
 go_wp2_with fail
 go_loopg [7] (xs.length+1) (fun gk i wr=>∃k,i=.int .i64 ((k:Nat):Int)∧k≤xs.length∧xs.length<gk+k∧w=wr)
 case atStart=>exact⟨0,rfl,by omega,by omega,rfl⟩
 case round=>
  obtain⟨k,rfl,hk,hgk,rfl⟩:=hrel
  by_cases hlt:k<xs.length
  ·obtain⟨g',rfl⟩:∃g',gk=g'+1:=⟨gk-1,by omega⟩
   have hltz:(k:Int)<(xs.length:Int):=by omega
   obtain⟨x,hx⟩:∃x,xs[k]=x:=⟨_,rfl⟩
   have hxn:=H0.o x (by rw[←hx];exact List.getElem_mem _)
   obtain⟨b,o,rfl,hc⟩:=rd_at HR.o (by omega)
   have hcx:=hc k x (by rw[List.getElem?_eq_getElem hlt,hx])
   unfold bv at hcx
   have hne:((x.toNat:Int)==0)=false:=by
    rw[beq_eq_false_iff_ne]
    intro e
    exact hxn (UInt8.toNat_inj.1 (by simpa using e))
   clear hc hx hxn
   go_wp2_with fail
   go_roundg g'
   case measure=>omega
   case rel=>exact⟨k+1,by go_num,by omega,by omega,rfl⟩
  ·go_wp2_with fail
   go_ret
   exact⟨rfl,rfl⟩
theorem foldl_push (xs:List UInt8) (s:ByteArray):(xs.map fun u=>((u.toNat:Nat):Int)).foldl (fun r n=>r.push (UInt8.ofNat n.toNat)) s=⟨s.data++xs.toArray⟩:=by
 induction xs generalizing s with
 |nil=>simp
 |cons u l ih=>
  rw[List.map_cons,List.foldl_cons,ih]
  have e:UInt8.ofNat ((u.toNat:Int)).toNat=u:=by simp
  rw[e]
  congr 1
  simp[ByteArray.push]
theorem conv_bytes (w:World) (A:Option Addr) (c:Nat) (xs:List UInt8) (hr:Rd w 1 A xs.length (bvs xs)):
 (convert 22 9 (.slice A xs.length c)).run prog w=.ok (.string ⟨xs.toArray⟩) w:=by
 rw[run_convert_bytes_string w 22 9 5 A xs.length c underlying22 underlying5 underlying9]
 rcases A with _|a
 ·have h0:xs=[]:=by
   rcases Nat.eq_zero_or_pos xs.length with h|h
   ·exact List.eq_nil_of_length_eq_zero h
   ·obtain⟨b,o,h1,_⟩:=hr.2 h;cases h1
  subst h0
  rfl
 ·have hl:=run_loadCells_list (P:=prog) w a (bvs xs) (fun j v hv=>by
   have hj:0<xs.length:=by
    have:=(List.getElem?_eq_some_iff.1 hv).1
    rw[bvs_length] at this
    omega
   obtain⟨b,o,h1,hc⟩:=hr.2 hj
   injection h1 with h1
   subst h1
   rw[add_lit]
   exact hc j v hv)
  rw[bvs_length] at hl
  have hm:bvs xs=(xs.map fun u=>((u.toNat:Nat):Int)).map (Value.int .u8):=by rw[List.map_map];rfl
  rw[hm] at hl
  rw[run_bytesToString w a xs.length c _ hl,foldl_push]
  simp
theorem bytesToString_c (w:World) (A:Option Addr) (c:Nat) (xs:List UInt8) (hr:Rd w 1 A xs.length (bvs xs)):
 Calls prog 110 #[.slice A xs.length c] w fun e w'=>e=.returned (.string ⟨xs.toArray⟩)∧w=w':=by
 have hcv:=conv_bytes w A c xs hr
 go_enter func110,ntmps110
 go_wp2_with fail
 go_ret
 exact⟨rfl,rfl⟩
def RB (w:World) (b o:Nat) (xs:List UInt8):Prop:=∀(k:Nat) (u:UInt8),xs[k]?=some u→w.cell? ⟨b,o+k,none⟩=some (bv u)
theorem RB.keep {w w':World} {b o:Nat} {xs:List UInt8} {S:List Nat} (h:RB w b o xs) (hk:Keeps S w w') (hn:b∉S):RB w' b o xs:=fun k u hu=>hk.some_ (h k u hu) hn
theorem RB.drewN {w:World} {b o:Nat} {xs:List UInt8} (h:RB w b o xs) (q:Nat):RB (w.drewN q) b o xs:=h.keep (Keeps.drewN w q) (by simp)
theorem RB.drew {w:World} {b o:Nat} {xs:List UInt8} (h:RB w b o xs):RB w.drew b o xs:=h.keep (Keeps.drew w) (by simp)
theorem RB.drop {w:World} {b o:Nat} {xs:List UInt8} (h:RB w b o xs) (k:Nat):RB w b (o+k) (xs.drop k):=fun j u hu=>by
 rw[Nat.add_assoc];exact h _ u (by rw[←hu,List.getElem?_drop])
theorem RB.at_ {w:World} {b o:Nat} {xs:List UInt8} (h:RB w b o xs) (k:Nat) (u:UInt8) (hu:xs[k]?=some u):w.cell? ⟨b,o+k,none⟩=some (.int .u8 (u.toNat:Int)):=h k u hu
theorem RB.at0 {w:World} {b o:Nat} {xs:List UInt8} (h:RB w b o xs) (u:UInt8) (hu:xs[0]?=some u):w.cell? ⟨b,o,none⟩=some (.int .u8 (u.toNat:Int)):=h 0 u hu
theorem word_c (w:World) (b o n c:Nat) (xs:List UInt8) (hn:8≤n) (hx:8≤xs.length) (hr:RB w b o xs):
 Calls prog 115 #[.slice (some ⟨b,o,none⟩) n c] w fun e w'=>e=.returned (.int .u64 ((Lib.leNat (xs.take 8):Nat):Int))∧∃q,w'=w.drewN q:=by
 obtain⟨x0,x1,x2,x3,x4,x5,x6,x7,r,rfl⟩:∃x0 x1 x2 x3 x4 x5 x6 x7 r,xs=x0::x1::x2::x3::x4::x5::x6::x7::r:=by
  match xs,hx with
  |a0::a1::a2::a3::a4::a5::a6::a7::r,_=>exact⟨_,_,_,_,_,_,_,_,_,rfl⟩
 have c0:=hr.at0 x0 rfl
 have c1:=hr.at_ 1 x1 rfl
 have c2:=hr.at_ 2 x2 rfl
 have c3:=hr.at_ 3 x3 rfl
 have c4:=hr.at_ 4 x4 rfl
 have c5:=hr.at_ 5 x5 rfl
 have c6:=hr.at_ 6 x6 rfl
 have c7:=hr.at_ 7 x7 rfl
 clear hr hx
 have h0:x0.toNat<256:=x0.toNat_lt
 have h1:x1.toNat<256:=x1.toNat_lt
 have h2:x2.toNat<256:=x2.toNat_lt
 have h3:x3.toNat<256:=x3.toNat_lt
 have h4:x4.toNat<256:=x4.toNat_lt
 have h5:x5.toNat<256:=x5.toNat_lt
 have h6:x6.toNat<256:=x6.toNat_lt
 have h7:x7.toNat<256:=x7.toNat_lt
 have et:(x0::x1::x2::x3::x4::x5::x6::x7::r).take 8=[x0,x1,x2,x3,x4,x5,x6,x7]:=rfl
 rw[et]
 have hv:Hd (((Lib.leNat [x0,x1,x2,x3,x4,x5,x6,x7]:Nat):Int)=(x0.toNat:Int)+(x1.toNat:Int)*256+(x2.toNat:Int)*65536+(x3.toNat:Int)*16777216+(x4.toNat:Int)*4294967296+(x5.toNat:Int)*1099511627776+(x6.toNat:Int)*281474976710656+(x7.toNat:Int)*72057594037927936):=by
  show _=_
  simp only[Lib.leNat]
  push_cast
  omega
 have q0:(0:Int)<(n:Int):=by omega
 have q1:(1:Int)<(n:Int):=by omega
 have q2:(2:Int)<(n:Int):=by omega
 have q3:(3:Int)<(n:Int):=by omega
 have q4:(4:Int)<(n:Int):=by omega
 have q5:(5:Int)<(n:Int):=by omega
 have q6:(6:Int)<(n:Int):=by omega
 have q7:(7:Int)<(n:Int):=by omega
 go_enter func115,ntmps115
 go_wp2_with fail
 go_quiet (fail)
 go_wp2_with fail
 go_ret
 refine⟨?_,_,rfl⟩
 simp(disch:=omega) only[u64_wrap_id,u64_or8,u64_or16,u64_or24,u64_or32,u64_or40,u64_or48,u64_or56]
 rw[hv.o]
 rfl
end Go.Proofs.YtkglmacaecmhdaaGreatDoor
