/- FnRoad, part V: the walks of E3. -/
import Derived.Test.YtkglmacaecmhdaaGreatDoorUa
set_option linter.unusedVariables false
set_option linter.unusedSimpArgs false
set_option maxHeartbeats 8000000
set_option maxRecDepth 100000
namespace Go.Proofs.YtkglmacaecmhdaaGreatDoor
open Go Go.RowKit Tryz
theorem zV1 {p:Prop} (h:p:=by
 obtain⟨g',rfl⟩:∃g',gk=g'+1:=⟨gk-1,by omega⟩
 have hltz:(off:Int)<(n:Int):=by have:=hiff.2 hlt;omega
 obtain⟨u,hu⟩:∃u,subs[k]?=some u:=⟨_,List.getElem?_eq_getElem hlt⟩
 have hxu:=u_drop hu HX.o
 have hum:=List.mem_of_getElem? hu
 have hut:=HS.o u hum
 have huz:=HS0.o u hum
 obtain⟨off2,e2,hx2,hoff2⟩:=pos_step (2+u.filter.size) hxu (by simp[lp_length]) (by omega) HDr.o.hn
 have HXU:=hH hxu
 have HX2:=hH hx2
 have HE2:=hH e2
 have HU:=hH hu
 have HUT:=hH hut
 have HUZ:=hH huz
 clear hxu hx2 e2 hu hut huz hum hiff
 go_wp2_with fail
 go_fit (HDr.o.text u.filter HXU.o HE2.o HUT.o)
 rintro e wq ⟨rfl,D,kk⟩
 have HDq:=hH D
 have HKQ:=hH kk
 have HOq:=hH (ownsRow_keep HO.o kk (by simp))
 clear D kk
 have c89:wq.cell? ⟨g,89,none⟩=some (.slice A k cc):=(HDq.o.cell 89).trans (congrArg some rfl)
 have f89:=HDq.o.frozen 89
 have HRN:Hd (Rd (wq.alloc (.cells #[.slice none 0 0,.string u.filter,.int .i64 0,.map none,.int .u8 0,.int .u8 0,.bool false,.bool false,.bool false] 108)) 9 (some ⟨wq.heap.size,0,none⟩) 1 (toV 0 u).cells):=by rw[HUZ.o];exact rd_new wq 108 #[.slice none 0 0,.string u.filter,.int .i64 0,.map none,.int .u8 0,.int .u8 0,.bool false,.bool false,.bool false] 9 1 rfl
 have HON:=hH (HOq.o.alloc (.cells #[.slice none 0 0,.string u.filter,.int .i64 0,.map none,.int .u8 0,.int .u8 0,.bool false,.bool false,.bool false] 108))
 have HBN:=hH (HDq.o.keep (Keeps.alloc wq (.cells #[.slice none 0 0,.string u.filter,.int .i64 0,.map none,.int .u8 0,.int .u8 0,.bool false,.bool false,.bool false] 108)))
 go_wp2_with (at_builtin;refine wpList_append_rd _ rfl (.tmp 75) (.tmp 78) 80 rfl 108 i0 _ 9 64 underlying80 HI0.o HZ0.o HZ1.o HZ2.o rfl (by decide) (.slice A k cc) k _ rfl HON.o _ 1 1 _ rfl HRN.o (by intro x hx;simp[SubV.cells] at hx;rcases hx with rfl|rfl|rfl|rfl|rfl|rfl|rfl|rfl|rfl<;>rfl) (by omega) (by unfold maxLen;omega) ?_;intro A2 c2 wz ho2 hkz hd2;have D3:=HBN.o.keep2 _ hkz (by rw[own_slice];intro x hx;have:=HA.o x (Option.mem_toList.1 hx);have:=HLE.o;omega);have c89z:wz.cell? ⟨g,89,none⟩=some (.slice A k cc):=(D3.cell 89).trans (congrArg some rfl);have f89z:=D3.frozen 89;have HQ:=hH (u_next (g':=g') (enc:=(fun s=>lp s.filter.data.toList)) HU.o hlt hgk HX2.o hoff2 HDr.o HA.o HKW.o (HLE.o) (HKQ.o.trans (Keeps.alloc wq _) (by simp)) ho2 hkz hd2);clear D3 ho2 hkz hd2)
 go_roundg g'
 case measure=>omega
 case rel=>exact HQ.o
 ):p:=h
theorem zV4 {p:Prop} (h:p:=by
 have hkl:k=subs.length:=by omega
 have hgez:¬(off:Int)<(n:Int):=by intro h;exact hlt (hiff.1 (by omega))
 subst hkl
 have ho:=HO.o
 rw[List.take_length] at ho
 have HO2:=hH ho
 clear ho
 go_wp2_with fail
 have hkf:=HDr.o.keeps
 go_ret
 rw[←HQ.o]
 refine⟨rfl,_,HDr.o.blk,?_,hkf⟩
 exact PkGot.of HDr.o.one (subs:=⟨A,cc,0,rfl,own_rd HO2.o,fun a ha=>Nat.le_trans HLE.o (HA.o a.block (by rw[ha];rfl))⟩)
 ):p:=h
theorem unsubDec4_c (w:World) (g xb o c n rem:Nat) (xs:List UInt8) (qs:Int) (dup ret:Bool) (id:Nat) (subs:List SubP) (D:DSt w g xb o c n xs (dz 10 qs dup ret 4 rem) w) (hxs:xs=be2 id++(subs.flatMap (fun s=>lp s.filter.data.toList))) (hid:id<65536) (hs:∀u∈subs,TextOK u.filter) (hs0:∀u∈subs,u=⟨u.filter,0,false,false,0⟩) (hsl:subs.length≤1000) (hbl:(subs.flatMap (fun s=>lp s.filter.data.toList)).length≤1000000):
 Calls prog 72 #[.pointer (some ⟨g,0,none⟩),.slice (some ⟨xb,o,none⟩) n c] w (DOut w g xb ({zp 10 4 [] with qos:=qs,dup:=dup,retain:=ret,id:=(id:Int),subs:=subs})):=by
 have d0:xs.drop 0=be2 id++(subs.flatMap (fun s=>lp s.filter.data.toList)):=hxs
 have hcap:=D.cap
 have hxl:=D.len
 have hn:=D.hn
 have HD0:=hH D
 clear D hxs
 obtain⟨k1,e1,d1,l1⟩:=pos_step (2) d0 (rfl) (by omega) hn
 have HX0:=hH d0
 have HX1:=hH d1
 have HE1:=hH e1
 clear d0 d1 e1
 obtain⟨q,hq⟩:∃q,({zp 10 4 [] with qos:=qs,dup:=dup,retain:=ret,id:=(id:Int),subs:=subs}:PkV)=q:=⟨_,rfl⟩
 rw[hq]
 have HQ:=hH hq
 have HNN:=hH hn
 clear hq hn
 have HS:=hH hs
 have HS0:=hH hs0
 have HBL:=hH hbl
 clear hs hs0 hbl
 obtain⟨i0,hi0,hz0,hz1,hz2⟩:=info_parts info108
 have HI0:=hH hi0
 have HZ0:=hH hz0
 have HZ1:=hH hz1
 have HZ2:=hH hz2
 clear hi0 hz0 hz1 hz2
 go_enter func72,ntmps72
 go_wp2_with fail
 go_fit (HD0.o.word id HX0.o HE1.o hid)
 rintro e w1 ⟨rfl,D,kk⟩
 have HD1:=hH D
 clear D kk
 have cw1_102:=HD1.o.cell 102
 have fw1_102:=HD1.o.frozen 102
 have cw1_103:=HD1.o.cl 103 (.int .u8 4)
 have HD1b:=hH (HD1.o.set 102 (.int .u16 (id:Int)))
 have HDa:=hH (HD1b.o.keep (Keeps.alloc (w1.setCell ⟨g,102,none⟩ (.int .u16 (id:Int))) (.cells #[] 108)))
 have ca89:=HDa.o.cell 89
 have fa89:=HDa.o.frozen 89
 go_wp2_with fail
 have hst:=u_start (subs:=subs) (enc:=(fun s=>lp s.filter.data.toList)) (id:=0) HD1b.o HX1.o l1
 try rw[World.size_setCell] at hst
 have HU0:=hH hst
 clear hst
 have HLE:Hd (w.heap.size≤(w1.setCell ⟨g,102,none⟩ (.int .u16 (id:Int))).heap.size):=HD1b.o.keeps.size
 go_loopg [5,6,9] (subs.length+1) (fun gk s5 s6 _s9 wr=>UnRel w (w1.setCell ⟨g,102,none⟩ (.int .u16 (id:Int))) g xb o c n xs _ subs (fun s=>lp s.filter.data.toList) 0 gk s5 s6 wr)
 case atStart=>exact HU0.o
 case round=>
  obtain⟨k,off,A,cc,rfl,rfl,hk,hgk,hx,hoff,D,ho,hA,hkw⟩:=hrel
  have hiff:=u_done (enc:=(fun s=>lp s.filter.data.toList)) (fun u _=>by simp[lp_length];omega) D.hn hk hx
  have HX:=hH hx
  have HDr:=hH D
  have HO:=hH ho
  have HA:=hH hA
  have HKW:=hH hkw
  clear hx D ho hA hkw
  by_cases hlt:k<subs.length
  ·exact zV1
  ·exact zV4
theorem zV3 {p:Prop} (h:p:=by
 have hkl:k=subs.length:=by omega
 have hgez:¬(off:Int)<(n:Int):=by intro h;exact hlt (hiff.1 (by omega))
 subst hkl
 have ho:=HO.o
 rw[List.take_length] at ho
 have HO2:=hH ho
 clear ho
 go_wp2_with fail
 have HSTe:=hH ((HST1.o.keep HKW.o (by simpa using HDr.o.ne) (by simp;exact .inl HDr.o.hg)).upd (i:=89) (v:=.slice A subs.length cc) (by omega) (by omega))
 have hkf:=HDr.o.keeps
 go_ret
 rw[←HQ.o]
 refine⟨rfl,_,HDr.o.blk,?_,hkf⟩
 exact PkGot.of HDr.o.one (st:=HSTe.o) (subs:=⟨A,cc,0,rfl,own_rd HO2.o,fun a ha=>Nat.le_trans HLE.o (HA.o a.block (by rw[ha];rfl))⟩)
 ):p:=h
theorem unsubDec5_c (w:World) (g xb o c n rem:Nat) (xs:List UInt8) (qs:Int) (dup ret:Bool) (id:Nat) (l:List PropV) (subs:List SubP) (D:DSt w g xb o c n xs (dz 10 qs dup ret 5 rem) w) (hxs:xs=be2 id++(encPL l++(subs.flatMap (fun s=>lp s.filter.data.toList)))) (hid:id<65536) (hP:ProperL 10 l) (hs:∀u∈subs,TextOK u.filter) (hs0:∀u∈subs,u=⟨u.filter,0,false,false,0⟩) (hsl:subs.length≤1000) (hbl:(subs.flatMap (fun s=>lp s.filter.data.toList)).length≤1000000):
 Calls prog 72 #[.pointer (some ⟨g,0,none⟩),.slice (some ⟨xb,o,none⟩) n c] w (DOut w g xb ({zp 10 5 l with qos:=qs,dup:=dup,retain:=ret,id:=(id:Int),subs:=subs})):=by
 have d0:xs.drop 0=be2 id++(encPL l++(subs.flatMap (fun s=>lp s.filter.data.toList))):=hxs
 have hcap:=D.cap
 have hxl:=D.len
 have hn:=D.hn
 have HD0:=hH D
 clear D hxs
 obtain⟨k1,e1,d1,l1⟩:=pos_step (2) d0 (rfl) (by omega) hn
 obtain⟨k2,e2,d2,l2⟩:=pos_step ((encPL l).length) d1 (rfl) (encPL_pos _) hn
 have HX0:=hH d0
 have HX1:=hH d1
 have HX2:=hH d2
 have HE1:=hH e1
 have HE2:=hH e2
 clear d0 d1 d2 e1 e2
 obtain⟨q,hq⟩:∃q,({zp 10 5 l with qos:=qs,dup:=dup,retain:=ret,id:=(id:Int),subs:=subs}:PkV)=q:=⟨_,rfl⟩
 rw[hq]
 have HQ:=hH hq
 have HNN:=hH hn
 clear hq hn
 have HP:=hH hP
 clear hP
 have HS:=hH hs
 have HS0:=hH hs0
 have HBL:=hH hbl
 clear hs hs0 hbl
 obtain⟨i0,hi0,hz0,hz1,hz2⟩:=info_parts info108
 have HI0:=hH hi0
 have HZ0:=hH hz0
 have HZ1:=hH hz1
 have HZ2:=hH hz2
 clear hi0 hz0 hz1 hz2
 go_enter func72,ntmps72
 go_wp2_with fail
 go_fit (HD0.o.word id HX0.o HE1.o hid)
 rintro e w1 ⟨rfl,D,kk⟩
 have HD1:=hH D
 clear D kk
 have cw1_102:=HD1.o.cell 102
 have fw1_102:=HD1.o.frozen 102
 have cw1_103:=HD1.o.cl 103 (.int .u8 5)
 go_wp2_with fail
 have HD2:=hH ((HD1.o.set 102 (.int .u16 (id:Int))))
 generalize (w1).setCell ⟨g,102,none⟩ (.int .u16 (id:Int))=w2 at*
 have hS:∀{f:Nat→Value} {w':World},DSt w g xb o c n xs f w'→f 93=.int .u8 10→w'.cell? ⟨g,93,none⟩=some (.int .u8 10):=fun D h=>by rw[D.cell 93,h]
 have hln:k1<n:=by have h1:=drop_le HX1.o (encPL_pos _);have h2:=encPL_pos (l);have:=HNN.o;omega
 have hnc:¬c=k1:=by omega
 obtain⟨pm,hpm⟩:∃m,(encPL (l)).length=m:=⟨_,rfl⟩
 have HPM:=hH hpm
 have hka:(k1:Int)+(pm:Int)=(k2:Int):=by have:=HE2.o;omega
 clear hpm
 refine tkStart (S:=fun w'=>w'.cell? ⟨g,93,none⟩=some (.int .u8 10)) (by kernel_rfl) (hS (HD2.o.keep (Keeps.drew w2)) (rfl)) (fun hHeld=>?_)
 simp only[s4,s5,Nat.reduceAdd,s6,s7]
 repeat((first|refine tkx ?_|refine tku ?_);simp only[setN,Act.put,s1,s2,s3])
 refine tkc fun K hK=>?_
 go_simp
 refine(DSt.newbuf (HD2.o.keep (Keeps.drew w2)) l1 HX1.o).mono ?_
 rintro e w3 ⟨bb,rfl,rb,hbb,D,kk1⟩
 have HRB:=hH rb
 have HD3:=hH D
 have HK1:=hH kk1
 clear D rb kk1
 refine hK.out _ _ (hS HD3.o (rfl)) (fun hHeld=>?_)
 clear hK K
 simp only[setN,Act.put,s1,s2,s3]
 repeat((first|refine tkx ?_|refine tku ?_);simp only[setN,Act.put,s1,s2,s3])
 refine tkc fun K hK=>?_
 go_simp
 refine(DSt.props HD3.o 50 10 HP.o (by omega) (pz (.inl rfl) (fun j h1 h2=>by simp only[dz,upd];repeat rw[if_neg (by omega)])) HRB.o (Nat.le_trans HD2.o.keeps.size hbb) (by have:=HBL.o;omega) (pk:=10) (by rfl) HPM.o).mono ?_
 rintro e w4 ⟨rfl,f1,D,hfar,hst,kk2⟩
 have hf1:=hH hfar
 have HST1:=hH hst
 have HD4:=hH D
 clear D hfar hst kk2
 refine hK.out _ _ (hS HD4.o ((hf1.o 93 (by omega) (by omega)).trans (rfl))) (fun hHeld=>?_)
 clear hK K
 simp only[setN,Act.put,s1,s2,s3]
 repeat((first|refine tkx ?_|refine tku ?_);simp only[setN,Act.put,s1,s2,s3])
 refine tkDone (by kernel_rfl) ?_
 clear hHeld hS
 have HDa:=hH (HD4.o.keep (Keeps.alloc w4 (.cells #[] 108)))
 have ca89:=HDa.o.cell 89
 have fa89:=HDa.o.frozen 89
 go_wp2_with fail
 have hst:=u_start (subs:=subs) (enc:=(fun s=>lp s.filter.data.toList)) (id:=0) HD4.o HX2.o l2
 try rw[World.size_setCell] at hst
 have HU0:=hH hst
 clear hst
 have HLE:Hd (w.heap.size≤w4.heap.size):=HD4.o.keeps.size
 go_loopg [5,6,9] (subs.length+1) (fun gk s5 s6 _s9 wr=>UnRel w w4 g xb o c n xs _ subs (fun s=>lp s.filter.data.toList) 0 gk s5 s6 wr)
 case atStart=>exact HU0.o
 case round=>
  obtain⟨k,off,A,cc,rfl,rfl,hk,hgk,hx,hoff,D,ho,hA,hkw⟩:=hrel
  have hiff:=u_done (enc:=(fun s=>lp s.filter.data.toList)) (fun u _=>by simp[lp_length];omega) D.hn hk hx
  have HX:=hH hx
  have HDr:=hH D
  have HO:=hH ho
  have HA:=hH hA
  have HKW:=hH hkw
  clear hx D ho hA hkw
  by_cases hlt:k<subs.length
  ·exact zV1
  ·exact zV3
theorem zV6 {p:Prop} (h:p:=by
 generalize wz.setCell ⟨g,89,none⟩ (.slice A2 (k+1) c2)=wy at*
 clear hHeld hbz D3 ho2 hkz hd2 hbs hnbo hcs hS hcw hb0
 go_wp2_with fail
 go_roundg g'
 case measure=>omega
 case rel=>exact HQ.o
 ):p:=h
theorem zV2 {p:Prop} (h:p:=by
 refine tkc fun K hK=>?_
 refine wp_append_rd ws (.tmp 132) (.tmp 136) 80 rfl 108 i0 _ 9 64 underlying80 HI0.o HZ0.o HZ1.o HZ2.o rfl (by decide) (.slice A k cc) k _ rfl (ownsRow_keep HO.o HKs.o (by simp)) (some ⟨nb,0,none⟩) 1 1 _ rfl HRN.o (by intro x hx;simp[SubV.cells] at hx;rcases hx with rfl|rfl|rfl|rfl|rfl|rfl|rfl|rfl|rfl<;>rfl) (by omega) (by unfold maxLen;omega) (fun A2 c2 wz ho2 hkz hd2=>?_)
 have hnbo:sb∉(Value.slice A k cc).ownBlock.toList:=fun hm=>by rw[own_slice] at hm;have:=own_lt HO.o sb (Option.mem_toList.1 hm);have:=HSB.o;have:=HSBE.o;omega
 have hbz:=hbs.keep hkz hnbo
 have D3:=HDs.o.keep2 _ hkz (by rw[own_slice];intro x hx;have:=HA.o x (Option.mem_toList.1 hx);have:=HLE.o;omega)
 clear hHeld
 refine hK.out _ _ (hS _ hbz) (fun hHeld=>?_)
 clear hK K
 simp only[setN,Act.put,s1,s2,s3]
 repeat((first|refine tkx ?_|refine tku ?_);simp only[setN,Act.put,s1,s2,s3])
 refine tkc fun K hK=>?_
 refine wp_one (gg:=g) (off:=89) (v:=.slice A2 (k+1) c2) D3.blk (by rw[arr_size];omega) 80 (.tmp 139) (.tmp 137) rfl rfl rfl (by kernel_rfl) rfl ?_
 refine hK.out _ _ (hS _ (hbz.far (p:=⟨g,89,none⟩) (by have:=HDr.o.blk.lt;have:=HSB.o;have:=HSBE.o;simp;omega) _)) (fun hHeld=>?_)
 clear hK K
 simp only[setN,Act.put,s1,s2,s3]
 refine tkDone (by kernel_rfl) ?_
 have HQ:=hH (u_next (g':=g') (enc:=(fun s=>encS4 (toV 0 s))) HU.o hlt hgk HX3.o hoff3 HDr.o HA.o HKW.o (HLE.o) HKs.o ho2 hkz hd2)
 exact zV6
 ):p:=h
theorem subDec4_c (w:World) (g xb o c n rem:Nat) (xs:List UInt8) (qs:Int) (dup ret:Bool) (id:Nat) (subs:List SubP) (D:DSt w g xb o c n xs (dz 8 qs dup ret 4 rem) w) (hxs:xs=be2 id++(subs.flatMap (fun s=>encS4 (toV 0 s)))) (hid:id<65536) (hs:∀u∈subs,TextOK u.filter∧(0≤u.qos∧u.qos≤2)∧0≤u.handling∧u.handling≤2) (hs0:∀u∈subs,u.nl=false∧u.ap=false∧u.handling=0) (hsl:subs.length≤1000) (hbl:(subs.flatMap (fun s=>encS4 (toV 0 s))).length≤1000000):
 Calls prog 70 #[.pointer (some ⟨g,0,none⟩),.slice (some ⟨xb,o,none⟩) n c] w (DOut w g xb ({zp 8 4 [] with qos:=qs,dup:=dup,retain:=ret,id:=(id:Int),subs:=subs})):=by
 have d0:xs.drop 0=be2 id++(subs.flatMap (fun s=>encS4 (toV 0 s))):=hxs
 have hcap:=D.cap
 have hxl:=D.len
 have hn:=D.hn
 have HD0:=hH D
 clear D hxs
 obtain⟨k1,e1,d1,l1⟩:=pos_step (2) d0 (rfl) (by omega) hn
 have HX0:=hH d0
 have HX1:=hH d1
 have HE1:=hH e1
 clear d0 d1 e1
 obtain⟨q,hq⟩:∃q,({zp 8 4 [] with qos:=qs,dup:=dup,retain:=ret,id:=(id:Int),subs:=subs}:PkV)=q:=⟨_,rfl⟩
 rw[hq]
 have HQ:=hH hq
 have HNN:=hH hn
 clear hq hn
 have HS0:=hH hs0
 clear hs0
 have HS:=hH hs
 have HBL:=hH hbl
 clear hs hbl
 obtain⟨i0,hi0,hz0,hz1,hz2⟩:=info_parts info108
 have HI0:=hH hi0
 have HZ0:=hH hz0
 have HZ1:=hH hz1
 have HZ2:=hH hz2
 clear hi0 hz0 hz1 hz2
 go_enter func70,ntmps70
 go_wp2_with fail
 go_fit (HD0.o.word id HX0.o HE1.o hid)
 rintro e w1 ⟨rfl,D,kk⟩
 have HD1:=hH D
 clear D kk
 have cw1_102:=HD1.o.cell 102
 have fw1_102:=HD1.o.frozen 102
 have cw1_103:=HD1.o.cl 103 (.int .u8 4)
 have HD1b:=hH (HD1.o.set 102 (.int .u16 (id:Int)))
 have HDa:=hH (HD1b.o.keep (Keeps.alloc (w1.setCell ⟨g,102,none⟩ (.int .u16 (id:Int))) (.cells #[] 108)))
 have ca89:=HDa.o.cell 89
 have fa89:=HDa.o.frozen 89
 go_wp2_with fail
 have hst:=u_start (subs:=subs) (enc:=(fun s=>encS4 (toV 0 s))) (id:=0) HD1b.o HX1.o l1
 try rw[World.size_setCell] at hst
 have HU0:=hH hst
 clear hst
 have HLE:Hd (w.heap.size≤(w1.setCell ⟨g,102,none⟩ (.int .u16 (id:Int))).heap.size):=HD1b.o.keeps.size
 go_loopg [5,6,9,10,11] (subs.length+1) (fun gk s5 s6 _s9 _s10 _s11 wr=>UnRel w (w1.setCell ⟨g,102,none⟩ (.int .u16 (id:Int))) g xb o c n xs _ subs (fun s=>encS4 (toV 0 s)) 0 gk s5 s6 wr)
 case atStart=>exact HU0.o
 case round=>
  obtain⟨k,off,A,cc,rfl,rfl,hk,hgk,hx,hoff,D,ho,hA,hkw⟩:=hrel
  have hiff:=u_done (enc:=(fun s=>encS4 (toV 0 s))) (fun u _=>by simp[encS4,lp_length]) D.hn hk hx
  have HX:=hH hx
  have HDr:=hH D
  have HO:=hH ho
  have HA:=hH hA
  have HKW:=hH hkw
  clear hx D ho hA hkw
  by_cases hlt:k<subs.length
  ·obtain⟨g',rfl⟩:∃g',gk=g'+1:=⟨gk-1,by omega⟩
   have hltz:(off:Int)<(n:Int):=by have:=hiff.2 hlt;omega
   obtain⟨u,hu⟩:∃u,subs[k]?=some u:=⟨_,List.getElem?_eq_getElem hlt⟩
   have hxu:=u_drop hu HX.o
   have hum:=List.mem_of_getElem? hu
   have hut:=HS.o u hum
   have hu0:=HS0.o u hum
   obtain⟨q1,hq1⟩:∃q,u.qos.toNat=q:=⟨_,rfl⟩
   obtain⟨h1,hh1⟩:∃q,u.handling.toNat=q:=⟨_,rfl⟩
   have hq3:q1<3:=by omega
   have hh3:h1<3:=by omega
   have hxu:xs.drop off=lp u.filter.data.toList++([UInt8.ofNat q1]++(subs.drop (k+1)).flatMap (fun s=>encS4 (toV 0 s))):=by rw[hxu];simp[encS4,toV,hq1,hh1]
   obtain⟨off2,e2,hx2,hoff2⟩:=pos_step (2+u.filter.size) hxu (by simp[lp_length]) (by omega) HDr.o.hn
   obtain⟨off3,e3,hx3,hoff3⟩:=pos_step 1 hx2 rfl (by omega) HDr.o.hn
   have HTV:Hd ((#[.slice none 0 0,.string u.filter,.int .i64 0,.map none,.int .u8 0,.int .u8 (q1:Int),.bool false,.bool false,.bool false]:Array Value).toList=(toV 0 u).cells):=by show _=_;simp[toV,SubV.cells,hq1,hh1,hu0.1,hu0.2.1,show h1=0 by omega]
   have h23:off2<n:=by omega
   have HXU:=hH hxu
   have HX2:=hH hx2
   have HX3:=hH hx3
   have HE2:=hH e2
   have HE3:=hH e3
   have HU:=hH hu
   have HUT:=hH hut.1
   have HUM:=hH hum
   clear hxu hx2 hx3 e2 hu hut hum hiff hq1 hh1 hu0
   clear e3
   go_wp2_with fail
   go_fit (HDr.o.text u.filter HXU.o HE2.o HUT.o)
   rintro e wq ⟨rfl,D,kk⟩
   have HKQ:=hH (kk.trans (Keeps.alloc wq (.cells #[.slice none 0 0,.string u.filter,.int .i64 0,.map none,.int .u8 0,.int .u8 0,.bool false,.bool false,.bool false] 108)) (by simp))
   have HDq:=hH (D.keep (Keeps.alloc wq (.cells #[.slice none 0 0,.string u.filter,.int .i64 0,.map none,.int .u8 0,.int .u8 0,.bool false,.bool false,.bool false] 108)))
   have HBS:=hH (Blk.new wq 108 #[.slice none 0 0,.string u.filter,.int .i64 0,.map none,.int .u8 0,.int .u8 0,.bool false,.bool false,.bool false])
   have HSB:Hd (wr.heap.size≤wq.heap.size):=kk.size
   clear D kk
   have q103:=HDq.o.cl 103 (.int .u8 4)
   have hub:((UInt8.ofNat q1).toNat:Int)=(q1:Int):=ofNat_lo (by omega)
   have HB:=HDq.o.byte (UInt8.ofNat q1) HX2.o HE3.o
   rw[hub] at HB
   have HBY:=hH HB
   clear HB hub
   go_wp2_with fail
   go_fit (HBY.o)
   rintro e wd ⟨rfl,D,kk⟩
   have HD2:=hH D
   have HBT:=hH (HBS.o.keep kk (by simp))
   have HK2:=hH (HKQ.o.trans kk (by simp))
   clear D kk
   have z5:wd.cell? ⟨wq.heap.size,5,none⟩=some (.int .u8 0):=by rw[HBT.o.cell];rfl
   have fz5:=HBT.o.frozen 5
   have hsbg:g≠wq.heap.size:=by have:=HDr.o.blk.lt;have:=HSB.o;omega
   obtain⟨sb,hsb⟩:∃sb,wq.heap.size=sb:=⟨_,rfl⟩
   have HSBE:=hH hsb
   rw[hsb] at HBT z5 fz5 hsbg
   have hq2:¬(2:Int)<(q1:Int):=by omega
   have x103:=HD2.o.cell 103
   have x51:wd.cell? ⟨g,51,none⟩=some (.slice none 0 0):=(HD2.o.cell 51).trans (congrArg some rfl)
   rw[hsb]
   go_wp2_with fail
   have hset:=Keeps.setCell wd ⟨sb,5,none⟩ (.int .u8 (q1:Int))
   have HBU:=hH (HBT.o.set_ 5 (.int .u8 (q1:Int)))
   have HD3:=hH (HD2.o.keep2 _ hset (by simp;have:=HSB.o;have:=HSBE.o;have:=HDr.o.keeps.size;omega))
   have HK3:=hH (HK2.o.trans hset (by simp;have:=HSB.o;have:=HSBE.o;omega))
   clear hset z5 fz5
   generalize wd.setCell ⟨sb,5,none⟩ (.int .u8 (q1:Int))=we at*
   have hS:∀w',Blk w' sb 108 #[.slice none 0 0,.string u.filter,.int .i64 0,.map none,.int .u8 0,.int .u8 (q1:Int),.bool false,.bool false,.bool false]→(w'.cell? ⟨sb,0,none⟩=some (.slice none 0 0)∧w'.cell? ⟨sb,1,none⟩=some (.string u.filter)∧w'.cell? ⟨sb,2,none⟩=some (.int .i64 0)∧w'.cell? ⟨sb,3,none⟩=some (.map none)∧w'.cell? ⟨sb,4,none⟩=some (.int .u8 0)∧w'.cell? ⟨sb,5,none⟩=some (.int .u8 (q1:Int))∧w'.cell? ⟨sb,6,none⟩=some (.bool false)∧w'.cell? ⟨sb,7,none⟩=some (.bool false)∧w'.cell? ⟨sb,8,none⟩=some (.bool false)):=fun w' b=>⟨by rw[b.cell];rfl,by rw[b.cell];rfl,by rw[b.cell];rfl,by rw[b.cell];rfl,by rw[b.cell];rfl,by rw[b.cell];rfl,by rw[b.cell];rfl,by rw[b.cell];rfl,by rw[b.cell];rfl⟩
   have hb0:Blk we.drew sb 108 #[.slice none 0 0,.string u.filter,.int .i64 0,.map none,.int .u8 0,.int .u8 (q1:Int),.bool false,.bool false,.bool false]:=HBU.o.drew
   have HDw:=hH (HD3.o.keep (Keeps.drew we))
   have hkw0:=HK3.o.trans (Keeps.drew we) (by simp)
   have HKW0:=hH hkw0
   clear hkw0
   refine tkSt hS hb0 (by kernel_rfl) fun hHeld=>?_
   simp only[s4,s5,Nat.reduceAdd,s6,s7]
   generalize we.drew=wb at*
   repeat((first|refine tkx ?_|refine tku ?_);simp only[setN,Act.put,s1,s2,s3])
   refine tki 5 133 ?_
   simp only[setN,Act.put,s1,s2,s3]
   refine tki 6 134 ?_
   simp only[setN,Act.put,s1,s2,s3]
   refine tki 7 135 ?_
   simp only[setN,Act.put,s1,s2,s3]
   have hcw:wb.cell? ⟨g,89,none⟩=some (.slice A k cc):=(HDw.o.cell 89).trans (congrArg some rfl)
   refine wpAnyH_ready (rs:=[4,8]) (by kernel_rfl) (by simp) ?_
   refine AllReadyH.cons (o:=⟨some 132,_,_,_,_,_⟩) rfl (fun K hK=>?_) (AllReadyH.cons (o:=⟨some 136,_,_,_,_,_⟩) rfl (fun K hK=>?_) AllReadyH.nil)
   ·rw[if_pos (by rfl)]
    go_simp
    refine hK.out _ _ hHeld (fun hHeld=>?_)
    clear hK K
    simp only[setN,Act.put,s1,s2,s3]
    refine tkc fun K hK=>?_
    go_simp
    have HRN:=hH (show Rd (wb.alloc (.cells #[.slice none 0 0,.string u.filter,.int .i64 0,.map none,.int .u8 0,.int .u8 (q1:Int),.bool false,.bool false,.bool false] 108)) 9 (some ⟨wb.heap.size,0,none⟩) 1 (toV 0 u).cells from by rw[←HTV.o];exact rd_new wb 108 #[.slice none 0 0,.string u.filter,.int .i64 0,.map none,.int .u8 0,.int .u8 (q1:Int),.bool false,.bool false,.bool false] 9 1 rfl)
    have hbs:=hb0.alloc (.cells #[.slice none 0 0,.string u.filter,.int .i64 0,.map none,.int .u8 0,.int .u8 (q1:Int),.bool false,.bool false,.bool false] 108)
    have HDs:=hH (HDw.o.keep (Keeps.alloc wb (.cells #[.slice none 0 0,.string u.filter,.int .i64 0,.map none,.int .u8 0,.int .u8 (q1:Int),.bool false,.bool false,.bool false] 108)))
    have HKs:=hH (HKW0.o.trans (Keeps.alloc wb (.cells #[.slice none 0 0,.string u.filter,.int .i64 0,.map none,.int .u8 0,.int .u8 (q1:Int),.bool false,.bool false,.bool false] 108)) (by simp))
    have hcs:(wb.alloc (.cells #[.slice none 0 0,.string u.filter,.int .i64 0,.map none,.int .u8 0,.int .u8 (q1:Int),.bool false,.bool false,.bool false] 108)).cell? ⟨g,89,none⟩=some (.slice A k cc):=(HDs.o.cell 89).trans (congrArg some rfl)
    clear hHeld
    refine hK.out _ _ (hS _ hbs) (fun hHeld=>?_)
    clear hK K
    simp only[setN,Act.put,s1,s2,s3]
    generalize wb.alloc (.cells #[.slice none 0 0,.string u.filter,.int .i64 0,.map none,.int .u8 0,.int .u8 (q1:Int),.bool false,.bool false,.bool false] 108)=ws at*
    generalize wb.heap.size=nb at*
    exact zV2
   ·rw[if_pos (by rfl)]
    go_simp
    have HRN:=hH (show Rd (wb.alloc (.cells #[.slice none 0 0,.string u.filter,.int .i64 0,.map none,.int .u8 0,.int .u8 (q1:Int),.bool false,.bool false,.bool false] 108)) 9 (some ⟨wb.heap.size,0,none⟩) 1 (toV 0 u).cells from by rw[←HTV.o];exact rd_new wb 108 #[.slice none 0 0,.string u.filter,.int .i64 0,.map none,.int .u8 0,.int .u8 (q1:Int),.bool false,.bool false,.bool false] 9 1 rfl)
    have hbs:=hb0.alloc (.cells #[.slice none 0 0,.string u.filter,.int .i64 0,.map none,.int .u8 0,.int .u8 (q1:Int),.bool false,.bool false,.bool false] 108)
    have HDs:=hH (HDw.o.keep (Keeps.alloc wb (.cells #[.slice none 0 0,.string u.filter,.int .i64 0,.map none,.int .u8 0,.int .u8 (q1:Int),.bool false,.bool false,.bool false] 108)))
    have HKs:=hH (HKW0.o.trans (Keeps.alloc wb (.cells #[.slice none 0 0,.string u.filter,.int .i64 0,.map none,.int .u8 0,.int .u8 (q1:Int),.bool false,.bool false,.bool false] 108)) (by simp))
    have hcs:(wb.alloc (.cells #[.slice none 0 0,.string u.filter,.int .i64 0,.map none,.int .u8 0,.int .u8 (q1:Int),.bool false,.bool false,.bool false] 108)).cell? ⟨g,89,none⟩=some (.slice A k cc):=(HDs.o.cell 89).trans (congrArg some rfl)
    clear hHeld
    refine hK.out _ _ (hS _ hbs) (fun hHeld=>?_)
    clear hK K
    simp only[setN,Act.put,s1,s2,s3]
    generalize wb.alloc (.cells #[.slice none 0 0,.string u.filter,.int .i64 0,.map none,.int .u8 0,.int .u8 (q1:Int),.bool false,.bool false,.bool false] 108)=ws at*
    generalize wb.heap.size=nb at*
    refine tkc fun K hK=>?_
    go_simp
    refine hK.out _ _ hHeld (fun hHeld=>?_)
    clear hK K
    simp only[setN,Act.put,s1,s2,s3]
    exact zV2
  ·exact zV4
theorem zV0 {p:Prop} (h:p:=by
 refine tkc fun K hK=>?_
 refine wp_append_rd ws (.tmp 132) (.tmp 136) 80 rfl 108 i0 _ 9 64 underlying80 HI0.o HZ0.o HZ1.o HZ2.o rfl (by decide) (.slice A k cc) k _ rfl (ownsRow_keep HO.o HKs.o (by simp)) (some ⟨nb,0,none⟩) 1 1 _ rfl HRN.o (by intro x hx;simp[SubV.cells] at hx;rcases hx with rfl|rfl|rfl|rfl|rfl|rfl|rfl|rfl|rfl<;>rfl) (by omega) (by unfold maxLen;omega) (fun A2 c2 wz ho2 hkz hd2=>?_)
 have hnbo:sb∉(Value.slice A k cc).ownBlock.toList:=fun hm=>by rw[own_slice] at hm;have:=own_lt HO.o sb (Option.mem_toList.1 hm);have:=HSB.o;have:=HSBE.o;omega
 have hbz:=hbs.keep hkz hnbo
 have D3:=HDs.o.keep2 _ hkz (by rw[own_slice];intro x hx;have:=HA.o x (Option.mem_toList.1 hx);have:=HLE.o;omega)
 clear hHeld
 refine hK.out _ _ (hS _ hbz) (fun hHeld=>?_)
 clear hK K
 simp only[setN,Act.put,s1,s2,s3]
 repeat((first|refine tkx ?_|refine tku ?_);simp only[setN,Act.put,s1,s2,s3])
 refine tkc fun K hK=>?_
 refine wp_one (gg:=g) (off:=89) (v:=.slice A2 (k+1) c2) D3.blk (by rw[arr_size];omega) 80 (.tmp 139) (.tmp 137) rfl rfl rfl (by kernel_rfl) rfl ?_
 refine hK.out _ _ (hS _ (hbz.far (p:=⟨g,89,none⟩) (by have:=HDr.o.blk.lt;have:=HSB.o;have:=HSBE.o;simp;omega) _)) (fun hHeld=>?_)
 clear hK K
 simp only[setN,Act.put,s1,s2,s3]
 refine tkDone (by kernel_rfl) ?_
 have HQ:=hH (u_next (g':=g') (enc:=(fun s=>encS5 (toV 0 s))) HU.o hlt hgk HX3.o hoff3 HDr.o HA.o HKW.o (HLE.o) HKs.o ho2 hkz hd2)
 exact zV6
 ):p:=h
theorem zV5 {p:Prop} (h:p:=by
 generalize wb.heap.size=nb at*
 refine tkc fun K hK=>?_
 go_simp
 refine hK.out _ _ hHeld (fun hHeld=>?_)
 clear hK K
 simp only[setN,Act.put,s1,s2,s3]
 exact zV0
 ):p:=h
theorem subDec5n_c (w:World) (g xb o c n rem:Nat) (xs:List UInt8) (qs:Int) (dup ret:Bool) (id:Nat) (l:List PropV) (subs:List SubP) (D:DSt w g xb o c n xs (dz 8 qs dup ret 5 rem) w) (hxs:xs=be2 id++(encPL l++(subs.flatMap (fun s=>encS5 (toV 0 s))))) (hid:id<65536) (hP:ProperL 8 l) (hnm:numsOf l=[]) (hs:∀u∈subs,TextOK u.filter∧(0≤u.qos∧u.qos≤2)∧0≤u.handling∧u.handling≤2) (hsl:subs.length≤1000) (hbl:(subs.flatMap (fun s=>encS5 (toV 0 s))).length≤1000000):
 Calls prog 70 #[.pointer (some ⟨g,0,none⟩),.slice (some ⟨xb,o,none⟩) n c] w (DOut w g xb ({zp 8 5 l with qos:=qs,dup:=dup,retain:=ret,id:=(id:Int),subs:=subs})):=by
 have d0:xs.drop 0=be2 id++(encPL l++(subs.flatMap (fun s=>encS5 (toV 0 s)))):=hxs
 have hcap:=D.cap
 have hxl:=D.len
 have hn:=D.hn
 have HD0:=hH D
 clear D hxs
 obtain⟨k1,e1,d1,l1⟩:=pos_step (2) d0 (rfl) (by omega) hn
 obtain⟨k2,e2,d2,l2⟩:=pos_step ((encPL l).length) d1 (rfl) (encPL_pos _) hn
 have HX0:=hH d0
 have HX1:=hH d1
 have HX2:=hH d2
 have HE1:=hH e1
 have HE2:=hH e2
 clear d0 d1 d2 e1 e2
 obtain⟨q,hq⟩:∃q,({zp 8 5 l with qos:=qs,dup:=dup,retain:=ret,id:=(id:Int),subs:=subs}:PkV)=q:=⟨_,rfl⟩
 rw[hq]
 have HQ:=hH hq
 have HNN:=hH hn
 clear hq hn
 have HP:=hH hP
 clear hP
 have HNM:=hH hnm
 clear hnm
 have HS:=hH hs
 have HBL:=hH hbl
 clear hs hbl
 obtain⟨i0,hi0,hz0,hz1,hz2⟩:=info_parts info108
 have HI0:=hH hi0
 have HZ0:=hH hz0
 have HZ1:=hH hz1
 have HZ2:=hH hz2
 clear hi0 hz0 hz1 hz2
 go_enter func70,ntmps70
 go_wp2_with fail
 go_fit (HD0.o.word id HX0.o HE1.o hid)
 rintro e w1 ⟨rfl,D,kk⟩
 have HD1:=hH D
 clear D kk
 have cw1_102:=HD1.o.cell 102
 have fw1_102:=HD1.o.frozen 102
 have cw1_103:=HD1.o.cl 103 (.int .u8 5)
 go_wp2_with fail
 have HD2:=hH ((HD1.o.set 102 (.int .u16 (id:Int))))
 generalize (w1).setCell ⟨g,102,none⟩ (.int .u16 (id:Int))=w2 at*
 have hS:∀{f:Nat→Value} {w':World},DSt w g xb o c n xs f w'→f 93=.int .u8 8→w'.cell? ⟨g,93,none⟩=some (.int .u8 8):=fun D h=>by rw[D.cell 93,h]
 have hln:k1<n:=by have h1:=drop_le HX1.o (encPL_pos _);have h2:=encPL_pos (l);have:=HNN.o;omega
 have hnc:¬c=k1:=by omega
 obtain⟨pm,hpm⟩:∃m,(encPL (l)).length=m:=⟨_,rfl⟩
 have HPM:=hH hpm
 have hka:(k1:Int)+(pm:Int)=(k2:Int):=by have:=HE2.o;omega
 clear hpm
 refine tkStart (S:=fun w'=>w'.cell? ⟨g,93,none⟩=some (.int .u8 8)) (by kernel_rfl) (hS (HD2.o.keep (Keeps.drew w2)) (rfl)) (fun hHeld=>?_)
 simp only[s4,s5,Nat.reduceAdd,s6,s7]
 repeat((first|refine tkx ?_|refine tku ?_);simp only[setN,Act.put,s1,s2,s3])
 refine tkc fun K hK=>?_
 go_simp
 refine(DSt.newbuf (HD2.o.keep (Keeps.drew w2)) l1 HX1.o).mono ?_
 rintro e w3 ⟨bb,rfl,rb,hbb,D,kk1⟩
 have HRB:=hH rb
 have HD3:=hH D
 have HK1:=hH kk1
 clear D rb kk1
 refine hK.out _ _ (hS HD3.o (rfl)) (fun hHeld=>?_)
 clear hK K
 simp only[setN,Act.put,s1,s2,s3]
 repeat((first|refine tkx ?_|refine tku ?_);simp only[setN,Act.put,s1,s2,s3])
 refine tkc fun K hK=>?_
 go_simp
 refine(DSt.props HD3.o 50 8 HP.o (by omega) (pz (.inl rfl) (fun j h1 h2=>by simp only[dz,upd];repeat rw[if_neg (by omega)])) HRB.o (Nat.le_trans HD2.o.keeps.size hbb) (by have:=HBL.o;omega) (pk:=8) (by rfl) HPM.o).mono ?_
 rintro e w4 ⟨rfl,f1,D,hfar,hst,kk2⟩
 have hf1:=hH hfar
 have HST1:=hH hst
 have HD4:=hH D
 clear D hfar hst kk2
 refine hK.out _ _ (hS HD4.o ((hf1.o 93 (by omega) (by omega)).trans (rfl))) (fun hHeld=>?_)
 clear hK K
 simp only[setN,Act.put,s1,s2,s3]
 repeat((first|refine tkx ?_|refine tku ?_);simp only[setN,Act.put,s1,s2,s3])
 refine tkDone (by kernel_rfl) ?_
 clear hHeld hS
 have HDa:=hH (HD4.o.keep (Keeps.alloc w4 (.cells #[] 108)))
 have ca89:=HDa.o.cell 89
 have fa89:=HDa.o.frozen 89
 go_wp2_with fail
 have hst:=u_start (subs:=subs) (enc:=(fun s=>encS5 (toV 0 s))) (id:=0) HD4.o HX2.o l2
 try rw[World.size_setCell] at hst
 have HU0:=hH hst
 clear hst
 have HLE:Hd (w.heap.size≤w4.heap.size):=HD4.o.keeps.size
 go_loopg [5,6,9,10,11] (subs.length+1) (fun gk s5 s6 _s9 _s10 _s11 wr=>UnRel w w4 g xb o c n xs _ subs (fun s=>encS5 (toV 0 s)) 0 gk s5 s6 wr)
 case atStart=>exact HU0.o
 case round=>
  obtain⟨k,off,A,cc,rfl,rfl,hk,hgk,hx,hoff,D,ho,hA,hkw⟩:=hrel
  have hiff:=u_done (enc:=(fun s=>encS5 (toV 0 s))) (fun u _=>by simp[encS5,lp_length]) D.hn hk hx
  have HX:=hH hx
  have HDr:=hH D
  have HO:=hH ho
  have HA:=hH hA
  have HKW:=hH hkw
  clear hx D ho hA hkw
  by_cases hlt:k<subs.length
  ·obtain⟨g',rfl⟩:∃g',gk=g'+1:=⟨gk-1,by omega⟩
   have hltz:(off:Int)<(n:Int):=by have:=hiff.2 hlt;omega
   obtain⟨u,hu⟩:∃u,subs[k]?=some u:=⟨_,List.getElem?_eq_getElem hlt⟩
   have hxu:=u_drop hu HX.o
   have hum:=List.mem_of_getElem? hu
   have hut:=HS.o u hum
   obtain⟨q1,hq1⟩:∃q,u.qos.toNat=q:=⟨_,rfl⟩
   obtain⟨h1,hh1⟩:∃q,u.handling.toNat=q:=⟨_,rfl⟩
   have hq3:q1<3:=by omega
   have hh3:h1<3:=by omega
   have hxu:xs.drop off=lp u.filter.data.toList++([optB q1 h1 u.nl u.ap]++(subs.drop (k+1)).flatMap (fun s=>encS5 (toV 0 s))):=by rw[hxu];simp[encS5,toV,hq1,hh1]
   obtain⟨off2,e2,hx2,hoff2⟩:=pos_step (2+u.filter.size) hxu (by simp[lp_length]) (by omega) HDr.o.hn
   obtain⟨off3,e3,hx3,hoff3⟩:=pos_step 1 hx2 rfl (by omega) HDr.o.hn
   have HTV:Hd ((#[.slice none 0 0,.string u.filter,.int .i64 0,.map none,.int .u8 (h1:Int),.int .u8 (q1:Int),.bool u.ap,.bool u.nl,.bool false]:Array Value).toList=(toV 0 u).cells):=by show _=_;simp[toV,SubV.cells,hq1,hh1]
   have h23:off2<n:=by omega
   have HXU:=hH hxu
   have HX2:=hH hx2
   have HX3:=hH hx3
   have HE2:=hH e2
   have HE3:=hH e3
   have HU:=hH hu
   have HUT:=hH hut.1
   have HUM:=hH hum
   clear hxu hx2 hx3 e2 hu hut hum hiff hq1 hh1
   have he3:(off2:Int)+1=(off3:Int):=by omega
   clear e3
   go_wp2_with fail
   go_fit (HDr.o.text u.filter HXU.o HE2.o HUT.o)
   rintro e wq ⟨rfl,D,kk⟩
   have HKQ:=hH (kk.trans (Keeps.alloc wq (.cells #[.slice none 0 0,.string u.filter,.int .i64 0,.map none,.int .u8 0,.int .u8 0,.bool false,.bool false,.bool false] 108)) (by simp))
   have HDq:=hH (D.keep (Keeps.alloc wq (.cells #[.slice none 0 0,.string u.filter,.int .i64 0,.map none,.int .u8 0,.int .u8 0,.bool false,.bool false,.bool false] 108)))
   have HBS:=hH (Blk.new wq 108 #[.slice none 0 0,.string u.filter,.int .i64 0,.map none,.int .u8 0,.int .u8 0,.bool false,.bool false,.bool false])
   have HSB:Hd (wr.heap.size≤wq.heap.size):=kk.size
   clear D kk
   have q103:=HDq.o.cl 103 (.int .u8 5) ((hf1.o 103 (by omega) (by omega)).trans rfl)
   have qb:(wq.alloc (.cells #[.slice none 0 0,.string u.filter,.int .i64 0,.map none,.int .u8 0,.int .u8 0,.bool false,.bool false,.bool false] 108)).cell? ⟨xb,o+off2,none⟩=some (.int .u8 ((optB q1 h1 u.nl u.ap).toNat:Int)):=HDq.o.rb off2 _ (by rw[show off2=off2+0 by omega,←List.getElem?_drop,HX2.o];rfl)
   go_wp2_with fail
   go_fit (subDec_c _ wq.heap.size u.filter q1 h1 u.nl u.ap hh3 hq3 HBS.o)
   rintro e wd ⟨rfl,hbs,hks⟩
   have HD2:=hH (HDq.o.keep2 _ hks (by simp;have:=HSB.o;have:=HDr.o.keeps.size;omega))
   have HBT:=hH hbs
   have HK2:=hH (HKQ.o.trans hks (by simp;have:=HSB.o;omega))
   clear hbs hks
   obtain⟨sb,hsb⟩:∃sb,wq.heap.size=sb:=⟨_,rfl⟩
   have HSBE:=hH hsb
   have hq2:¬(2:Int)<(q1:Int):=by omega
   obtain⟨An,cn,x51⟩:∃A c,wd.cell? ⟨g,51,none⟩=some (.slice A 0 c):=by
    obtain⟨A,c,h1,_⟩:=HST1.o.nm
    rw[HNM.o,arr_get _ _ (by omega)] at h1
    exact⟨A,c,(HD2.o.cell 51).trans h1⟩
   rw[hsb] at HBT
   have z5:wd.cell? ⟨sb,5,none⟩=some (.int .u8 (q1:Int)):=by rw[HBT.o.cell];rfl
   rw[hsb]
   go_wp2_with fail
   have hS:∀w',Blk w' sb 108 #[.slice none 0 0,.string u.filter,.int .i64 0,.map none,.int .u8 (h1:Int),.int .u8 (q1:Int),.bool u.ap,.bool u.nl,.bool false]→(w'.cell? ⟨sb,0,none⟩=some (.slice none 0 0)∧w'.cell? ⟨sb,1,none⟩=some (.string u.filter)∧w'.cell? ⟨sb,2,none⟩=some (.int .i64 0)∧w'.cell? ⟨sb,3,none⟩=some (.map none)∧w'.cell? ⟨sb,4,none⟩=some (.int .u8 (h1:Int))∧w'.cell? ⟨sb,5,none⟩=some (.int .u8 (q1:Int))∧w'.cell? ⟨sb,6,none⟩=some (.bool u.ap)∧w'.cell? ⟨sb,7,none⟩=some (.bool u.nl)∧w'.cell? ⟨sb,8,none⟩=some (.bool false)):=fun w' b=>⟨by rw[b.cell];rfl,by rw[b.cell];rfl,by rw[b.cell];rfl,by rw[b.cell];rfl,by rw[b.cell];rfl,by rw[b.cell];rfl,by rw[b.cell];rfl,by rw[b.cell];rfl,by rw[b.cell];rfl⟩
   have hb0:Blk wd.drew sb 108 #[.slice none 0 0,.string u.filter,.int .i64 0,.map none,.int .u8 (h1:Int),.int .u8 (q1:Int),.bool u.ap,.bool u.nl,.bool false]:=HBT.o.drew
   have HDw:=hH (HD2.o.keep (Keeps.drew wd))
   have hkw0:=HK2.o.trans (Keeps.drew wd) (by simp)
   have HKW0:=hH hkw0
   clear hkw0
   refine tkSt hS hb0 (by kernel_rfl) fun hHeld=>?_
   simp only[s4,s5,Nat.reduceAdd,s6,s7]
   generalize wd.drew=wb at*
   repeat((first|refine tkx ?_|refine tku ?_);simp only[setN,Act.put,s1,s2,s3])
   refine tki 5 133 ?_
   simp only[setN,Act.put,s1,s2,s3]
   refine tki 6 134 ?_
   simp only[setN,Act.put,s1,s2,s3]
   refine tki 7 135 ?_
   simp only[setN,Act.put,s1,s2,s3]
   have hcw:wb.cell? ⟨g,89,none⟩=some (.slice A k cc):=(HDw.o.cell 89).trans (congrArg some rfl)
   refine wpAnyH_ready (rs:=[4,8]) (by kernel_rfl) (by simp) ?_
   refine AllReadyH.cons (o:=⟨some 132,_,_,_,_,_⟩) rfl (fun K hK=>?_) (AllReadyH.cons (o:=⟨some 136,_,_,_,_,_⟩) rfl (fun K hK=>?_) AllReadyH.nil)
   ·rw[if_pos (by rfl)]
    go_simp
    refine hK.out _ _ hHeld (fun hHeld=>?_)
    clear hK K
    simp only[setN,Act.put,s1,s2,s3]
    refine tkc fun K hK=>?_
    go_simp
    have HRN:=hH (show Rd (wb.alloc (.cells #[.slice none 0 0,.string u.filter,.int .i64 0,.map none,.int .u8 (h1:Int),.int .u8 (q1:Int),.bool u.ap,.bool u.nl,.bool false] 108)) 9 (some ⟨wb.heap.size,0,none⟩) 1 (toV 0 u).cells from by rw[←HTV.o];exact rd_new wb 108 #[.slice none 0 0,.string u.filter,.int .i64 0,.map none,.int .u8 (h1:Int),.int .u8 (q1:Int),.bool u.ap,.bool u.nl,.bool false] 9 1 rfl)
    have hbs:=hb0.alloc (.cells #[.slice none 0 0,.string u.filter,.int .i64 0,.map none,.int .u8 (h1:Int),.int .u8 (q1:Int),.bool u.ap,.bool u.nl,.bool false] 108)
    have HDs:=hH (HDw.o.keep (Keeps.alloc wb (.cells #[.slice none 0 0,.string u.filter,.int .i64 0,.map none,.int .u8 (h1:Int),.int .u8 (q1:Int),.bool u.ap,.bool u.nl,.bool false] 108)))
    have HKs:=hH (HKW0.o.trans (Keeps.alloc wb (.cells #[.slice none 0 0,.string u.filter,.int .i64 0,.map none,.int .u8 (h1:Int),.int .u8 (q1:Int),.bool u.ap,.bool u.nl,.bool false] 108)) (by simp))
    have hcs:(wb.alloc (.cells #[.slice none 0 0,.string u.filter,.int .i64 0,.map none,.int .u8 (h1:Int),.int .u8 (q1:Int),.bool u.ap,.bool u.nl,.bool false] 108)).cell? ⟨g,89,none⟩=some (.slice A k cc):=(HDs.o.cell 89).trans (congrArg some rfl)
    clear hHeld
    refine hK.out _ _ (hS _ hbs) (fun hHeld=>?_)
    clear hK K
    simp only[setN,Act.put,s1,s2,s3]
    generalize wb.alloc (.cells #[.slice none 0 0,.string u.filter,.int .i64 0,.map none,.int .u8 (h1:Int),.int .u8 (q1:Int),.bool u.ap,.bool u.nl,.bool false] 108)=ws at*
    generalize wb.heap.size=nb at*
    exact zV0
   ·rw[if_pos (by rfl)]
    go_simp
    have HRN:=hH (show Rd (wb.alloc (.cells #[.slice none 0 0,.string u.filter,.int .i64 0,.map none,.int .u8 (h1:Int),.int .u8 (q1:Int),.bool u.ap,.bool u.nl,.bool false] 108)) 9 (some ⟨wb.heap.size,0,none⟩) 1 (toV 0 u).cells from by rw[←HTV.o];exact rd_new wb 108 #[.slice none 0 0,.string u.filter,.int .i64 0,.map none,.int .u8 (h1:Int),.int .u8 (q1:Int),.bool u.ap,.bool u.nl,.bool false] 9 1 rfl)
    have hbs:=hb0.alloc (.cells #[.slice none 0 0,.string u.filter,.int .i64 0,.map none,.int .u8 (h1:Int),.int .u8 (q1:Int),.bool u.ap,.bool u.nl,.bool false] 108)
    have HDs:=hH (HDw.o.keep (Keeps.alloc wb (.cells #[.slice none 0 0,.string u.filter,.int .i64 0,.map none,.int .u8 (h1:Int),.int .u8 (q1:Int),.bool u.ap,.bool u.nl,.bool false] 108)))
    have HKs:=hH (HKW0.o.trans (Keeps.alloc wb (.cells #[.slice none 0 0,.string u.filter,.int .i64 0,.map none,.int .u8 (h1:Int),.int .u8 (q1:Int),.bool u.ap,.bool u.nl,.bool false] 108)) (by simp))
    have hcs:(wb.alloc (.cells #[.slice none 0 0,.string u.filter,.int .i64 0,.map none,.int .u8 (h1:Int),.int .u8 (q1:Int),.bool u.ap,.bool u.nl,.bool false] 108)).cell? ⟨g,89,none⟩=some (.slice A k cc):=(HDs.o.cell 89).trans (congrArg some rfl)
    clear hHeld
    refine hK.out _ _ (hS _ hbs) (fun hHeld=>?_)
    clear hK K
    simp only[setN,Act.put,s1,s2,s3]
    generalize wb.alloc (.cells #[.slice none 0 0,.string u.filter,.int .i64 0,.map none,.int .u8 (h1:Int),.int .u8 (q1:Int),.bool u.ap,.bool u.nl,.bool false] 108)=ws at*
    exact zV5
  ·exact zV3
theorem subDec5s_c (w:World) (g xb o c n rem:Nat) (xs:List UInt8) (qs:Int) (dup ret:Bool) (id:Nat) (l:List PropV) (a0:Nat) (at0:List Nat) (subs:List SubP) (D:DSt w g xb o c n xs (dz 8 qs dup ret 5 rem) w) (hxs:xs=be2 id++(encPL l++(subs.flatMap (fun s=>encS5 (toV 0 s))))) (hid:id<65536) (hP:ProperL 8 l) (hnm:numsOf l=a0::at0) (hs:∀u∈subs,TextOK u.filter∧(0≤u.qos∧u.qos≤2)∧0≤u.handling∧u.handling≤2) (hsl:subs.length≤1000) (hbl:(subs.flatMap (fun s=>encS5 (toV 0 s))).length≤1000000):
 Calls prog 70 #[.pointer (some ⟨g,0,none⟩),.slice (some ⟨xb,o,none⟩) n c] w (DOut w g xb ({zp 8 5 l with qos:=qs,dup:=dup,retain:=ret,id:=(id:Int),subs:=subs})):=by
 have d0:xs.drop 0=be2 id++(encPL l++(subs.flatMap (fun s=>encS5 (toV 0 s)))):=hxs
 have hcap:=D.cap
 have hxl:=D.len
 have hn:=D.hn
 have HD0:=hH D
 clear D hxs
 obtain⟨k1,e1,d1,l1⟩:=pos_step (2) d0 (rfl) (by omega) hn
 obtain⟨k2,e2,d2,l2⟩:=pos_step ((encPL l).length) d1 (rfl) (encPL_pos _) hn
 have HX0:=hH d0
 have HX1:=hH d1
 have HX2:=hH d2
 have HE1:=hH e1
 have HE2:=hH e2
 clear d0 d1 d2 e1 e2
 obtain⟨q,hq⟩:∃q,({zp 8 5 l with qos:=qs,dup:=dup,retain:=ret,id:=(id:Int),subs:=subs}:PkV)=q:=⟨_,rfl⟩
 rw[hq]
 have HQ:=hH hq
 have HNN:=hH hn
 clear hq hn
 have HP:=hH hP
 clear hP
 have HNM:=hH hnm
 clear hnm
 have HS:=hH hs
 have HBL:=hH hbl
 clear hs hbl
 obtain⟨i0,hi0,hz0,hz1,hz2⟩:=info_parts info108
 have HI0:=hH hi0
 have HZ0:=hH hz0
 have HZ1:=hH hz1
 have HZ2:=hH hz2
 clear hi0 hz0 hz1 hz2
 go_enter func70,ntmps70
 go_wp2_with fail
 go_fit (HD0.o.word id HX0.o HE1.o hid)
 rintro e w1 ⟨rfl,D,kk⟩
 have HD1:=hH D
 clear D kk
 have cw1_102:=HD1.o.cell 102
 have fw1_102:=HD1.o.frozen 102
 have cw1_103:=HD1.o.cl 103 (.int .u8 5)
 go_wp2_with fail
 have HD2:=hH ((HD1.o.set 102 (.int .u16 (id:Int))))
 generalize (w1).setCell ⟨g,102,none⟩ (.int .u16 (id:Int))=w2 at*
 have hS:∀{f:Nat→Value} {w':World},DSt w g xb o c n xs f w'→f 93=.int .u8 8→w'.cell? ⟨g,93,none⟩=some (.int .u8 8):=fun D h=>by rw[D.cell 93,h]
 have hln:k1<n:=by have h1:=drop_le HX1.o (encPL_pos _);have h2:=encPL_pos (l);have:=HNN.o;omega
 have hnc:¬c=k1:=by omega
 obtain⟨pm,hpm⟩:∃m,(encPL (l)).length=m:=⟨_,rfl⟩
 have HPM:=hH hpm
 have hka:(k1:Int)+(pm:Int)=(k2:Int):=by have:=HE2.o;omega
 clear hpm
 refine tkStart (S:=fun w'=>w'.cell? ⟨g,93,none⟩=some (.int .u8 8)) (by kernel_rfl) (hS (HD2.o.keep (Keeps.drew w2)) (rfl)) (fun hHeld=>?_)
 simp only[s4,s5,Nat.reduceAdd,s6,s7]
 repeat((first|refine tkx ?_|refine tku ?_);simp only[setN,Act.put,s1,s2,s3])
 refine tkc fun K hK=>?_
 go_simp
 refine(DSt.newbuf (HD2.o.keep (Keeps.drew w2)) l1 HX1.o).mono ?_
 rintro e w3 ⟨bb,rfl,rb,hbb,D,kk1⟩
 have HRB:=hH rb
 have HD3:=hH D
 have HK1:=hH kk1
 clear D rb kk1
 refine hK.out _ _ (hS HD3.o (rfl)) (fun hHeld=>?_)
 clear hK K
 simp only[setN,Act.put,s1,s2,s3]
 repeat((first|refine tkx ?_|refine tku ?_);simp only[setN,Act.put,s1,s2,s3])
 refine tkc fun K hK=>?_
 go_simp
 refine(DSt.props HD3.o 50 8 HP.o (by omega) (pz (.inl rfl) (fun j h1 h2=>by simp only[dz,upd];repeat rw[if_neg (by omega)])) HRB.o (Nat.le_trans HD2.o.keeps.size hbb) (by have:=HBL.o;omega) (pk:=8) (by rfl) HPM.o).mono ?_
 rintro e w4 ⟨rfl,f1,D,hfar,hst,kk2⟩
 have hf1:=hH hfar
 have HST1:=hH hst
 have HD4:=hH D
 clear D hfar hst kk2
 refine hK.out _ _ (hS HD4.o ((hf1.o 93 (by omega) (by omega)).trans (rfl))) (fun hHeld=>?_)
 clear hK K
 simp only[setN,Act.put,s1,s2,s3]
 repeat((first|refine tkx ?_|refine tku ?_);simp only[setN,Act.put,s1,s2,s3])
 refine tkDone (by kernel_rfl) ?_
 clear hHeld hS
 have HDa:=hH (HD4.o.keep (Keeps.alloc w4 (.cells #[] 108)))
 have ca89:=HDa.o.cell 89
 have fa89:=HDa.o.frozen 89
 go_wp2_with fail
 have hst:=u_start (subs:=subs) (enc:=(fun s=>encS5 (toV 0 s))) (id:=(a0:Int)) HD4.o HX2.o l2
 try rw[World.size_setCell] at hst
 have HU0:=hH hst
 clear hst
 have HLE:Hd (w.heap.size≤w4.heap.size):=HD4.o.keeps.size
 go_loopg [5,6,9,10,11] (subs.length+1) (fun gk s5 s6 _s9 _s10 _s11 wr=>UnRel w w4 g xb o c n xs _ subs (fun s=>encS5 (toV 0 s)) (a0:Int) gk s5 s6 wr)
 case atStart=>exact HU0.o
 case round=>
  obtain⟨k,off,A,cc,rfl,rfl,hk,hgk,hx,hoff,D,ho,hA,hkw⟩:=hrel
  have hiff:=u_done (enc:=(fun s=>encS5 (toV 0 s))) (fun u _=>by simp[encS5,lp_length]) D.hn hk hx
  have HX:=hH hx
  have HDr:=hH D
  have HO:=hH ho
  have HA:=hH hA
  have HKW:=hH hkw
  clear hx D ho hA hkw
  by_cases hlt:k<subs.length
  ·obtain⟨g',rfl⟩:∃g',gk=g'+1:=⟨gk-1,by omega⟩
   have hltz:(off:Int)<(n:Int):=by have:=hiff.2 hlt;omega
   obtain⟨u,hu⟩:∃u,subs[k]?=some u:=⟨_,List.getElem?_eq_getElem hlt⟩
   have hxu:=u_drop hu HX.o
   have hum:=List.mem_of_getElem? hu
   have hut:=HS.o u hum
   obtain⟨q1,hq1⟩:∃q,u.qos.toNat=q:=⟨_,rfl⟩
   obtain⟨h1,hh1⟩:∃q,u.handling.toNat=q:=⟨_,rfl⟩
   have hq3:q1<3:=by omega
   have hh3:h1<3:=by omega
   have hxu:xs.drop off=lp u.filter.data.toList++([optB q1 h1 u.nl u.ap]++(subs.drop (k+1)).flatMap (fun s=>encS5 (toV 0 s))):=by rw[hxu];simp[encS5,toV,hq1,hh1]
   obtain⟨off2,e2,hx2,hoff2⟩:=pos_step (2+u.filter.size) hxu (by simp[lp_length]) (by omega) HDr.o.hn
   obtain⟨off3,e3,hx3,hoff3⟩:=pos_step 1 hx2 rfl (by omega) HDr.o.hn
   have HTV:Hd ((#[.slice none 0 0,.string u.filter,.int .i64 (a0:Int),.map none,.int .u8 (h1:Int),.int .u8 (q1:Int),.bool u.ap,.bool u.nl,.bool false]:Array Value).toList=(toV (a0:Int) u).cells):=by show _=_;simp[toV,SubV.cells,hq1,hh1]
   have h23:off2<n:=by omega
   have HXU:=hH hxu
   have HX2:=hH hx2
   have HX3:=hH hx3
   have HE2:=hH e2
   have HE3:=hH e3
   have HU:=hH hu
   have HUT:=hH hut.1
   have HUM:=hH hum
   clear hxu hx2 hx3 e2 hu hut hum hiff hq1 hh1
   have he3:(off2:Int)+1=(off3:Int):=by omega
   clear e3
   go_wp2_with fail
   go_fit (HDr.o.text u.filter HXU.o HE2.o HUT.o)
   rintro e wq ⟨rfl,D,kk⟩
   have HKQ:=hH (kk.trans (Keeps.alloc wq (.cells #[.slice none 0 0,.string u.filter,.int .i64 0,.map none,.int .u8 0,.int .u8 0,.bool false,.bool false,.bool false] 108)) (by simp))
   have HDq:=hH (D.keep (Keeps.alloc wq (.cells #[.slice none 0 0,.string u.filter,.int .i64 0,.map none,.int .u8 0,.int .u8 0,.bool false,.bool false,.bool false] 108)))
   have HBS:=hH (Blk.new wq 108 #[.slice none 0 0,.string u.filter,.int .i64 0,.map none,.int .u8 0,.int .u8 0,.bool false,.bool false,.bool false])
   have HSB:Hd (wr.heap.size≤wq.heap.size):=kk.size
   clear D kk
   have q103:=HDq.o.cl 103 (.int .u8 5) ((hf1.o 103 (by omega) (by omega)).trans rfl)
   have qb:(wq.alloc (.cells #[.slice none 0 0,.string u.filter,.int .i64 0,.map none,.int .u8 0,.int .u8 0,.bool false,.bool false,.bool false] 108)).cell? ⟨xb,o+off2,none⟩=some (.int .u8 ((optB q1 h1 u.nl u.ap).toNat:Int)):=HDq.o.rb off2 _ (by rw[show off2=off2+0 by omega,←List.getElem?_drop,HX2.o];rfl)
   go_wp2_with fail
   go_fit (subDec_c _ wq.heap.size u.filter q1 h1 u.nl u.ap hh3 hq3 HBS.o)
   rintro e wd ⟨rfl,hbs,hks⟩
   have HD2:=hH (HDq.o.keep2 _ hks (by simp;have:=HSB.o;have:=HDr.o.keeps.size;omega))
   have HBT:=hH hbs
   have HK2:=hH (HKQ.o.trans hks (by simp;have:=HSB.o;omega))
   clear hbs hks
   obtain⟨sb,hsb⟩:∃sb,wq.heap.size=sb:=⟨_,rfl⟩
   have HSBE:=hH hsb
   have hq2:¬(2:Int)<(q1:Int):=by omega
   obtain⟨An,cn,x51,hrn⟩:∃A c,wd.cell? ⟨g,51,none⟩=some (.slice A (at0.length+1) c)∧Rd wd 1 A (at0.length+1) ((a0::at0).map fun (n:Nat)=>.int .i64 (n:Int)):=by
    obtain⟨A,c,h1,h2,h3⟩:=HST1.o.nm
    rw[HNM.o,arr_get _ _ (by omega)] at h1
    rw[HNM.o] at h2
    refine⟨A,c,(HD2.o.cell 51).trans h1,(own_rd h2).keep (HKW.o.trans HK2.o (by simp)) (fun a ha=>?_)⟩
    have:=h3 a.block (by rw[ha];rfl)
    have:=HDr.o.hg
    simp;omega
   obtain⟨bn,on,rfl,hcn⟩:=hrn.2 (by omega)
   have xn0:wd.cell? ⟨bn,on,none⟩=some (.int .i64 (a0:Int)):=hcn 0 _ rfl
   have hnl:(0:Int)<(at0.length:Int)+1:=by omega
   clear hrn hcn
   rw[hsb] at HBT
   have z5:wd.cell? ⟨sb,5,none⟩=some (.int .u8 (q1:Int)):=by rw[HBT.o.cell];rfl
   have z2:wd.cell? ⟨sb,2,none⟩=some (.int .i64 0):=by rw[HBT.o.cell];rfl
   have fz2:=HBT.o.frozen 2
   rw[hsb]
   go_wp2_with fail
   have hsbg:g≠sb:=by have:=HDr.o.blk.lt;have:=HSB.o;have:=HSBE.o;omega
   have hset:=Keeps.setCell wd ⟨sb,2,none⟩ (.int .i64 (a0:Int))
   have HBU:=hH (HBT.o.set_ 2 (.int .i64 (a0:Int)))
   have HD3:=hH (HD2.o.keep2 _ hset (by simp;have:=HSB.o;have:=HSBE.o;have:=HDr.o.keeps.size;omega))
   have HK3:=hH (HK2.o.trans hset (by simp;have:=HSB.o;have:=HSBE.o;omega))
   clear hset z5 z2 fz2
   generalize wd.setCell ⟨sb,2,none⟩ (.int .i64 (a0:Int))=we at*
   have hS:∀w',Blk w' sb 108 #[.slice none 0 0,.string u.filter,.int .i64 (a0:Int),.map none,.int .u8 (h1:Int),.int .u8 (q1:Int),.bool u.ap,.bool u.nl,.bool false]→(w'.cell? ⟨sb,0,none⟩=some (.slice none 0 0)∧w'.cell? ⟨sb,1,none⟩=some (.string u.filter)∧w'.cell? ⟨sb,2,none⟩=some (.int .i64 (a0:Int))∧w'.cell? ⟨sb,3,none⟩=some (.map none)∧w'.cell? ⟨sb,4,none⟩=some (.int .u8 (h1:Int))∧w'.cell? ⟨sb,5,none⟩=some (.int .u8 (q1:Int))∧w'.cell? ⟨sb,6,none⟩=some (.bool u.ap)∧w'.cell? ⟨sb,7,none⟩=some (.bool u.nl)∧w'.cell? ⟨sb,8,none⟩=some (.bool false)):=fun w' b=>⟨by rw[b.cell];rfl,by rw[b.cell];rfl,by rw[b.cell];rfl,by rw[b.cell];rfl,by rw[b.cell];rfl,by rw[b.cell];rfl,by rw[b.cell];rfl,by rw[b.cell];rfl,by rw[b.cell];rfl⟩
   have hb0:Blk we.drew sb 108 #[.slice none 0 0,.string u.filter,.int .i64 (a0:Int),.map none,.int .u8 (h1:Int),.int .u8 (q1:Int),.bool u.ap,.bool u.nl,.bool false]:=HBU.o.drew
   have HDw:=hH (HD3.o.keep (Keeps.drew we))
   have hkw0:=HK3.o.trans (Keeps.drew we) (by simp)
   have HKW0:=hH hkw0
   clear hkw0
   refine tkSt hS hb0 (by kernel_rfl) fun hHeld=>?_
   simp only[s4,s5,Nat.reduceAdd,s6,s7]
   generalize we.drew=wb at*
   repeat((first|refine tkx ?_|refine tku ?_);simp only[setN,Act.put,s1,s2,s3])
   refine tki 5 133 ?_
   simp only[setN,Act.put,s1,s2,s3]
   refine tki 6 134 ?_
   simp only[setN,Act.put,s1,s2,s3]
   refine tki 7 135 ?_
   simp only[setN,Act.put,s1,s2,s3]
   have hcw:wb.cell? ⟨g,89,none⟩=some (.slice A k cc):=(HDw.o.cell 89).trans (congrArg some rfl)
   refine wpAnyH_ready (rs:=[4,8]) (by kernel_rfl) (by simp) ?_
   refine AllReadyH.cons (o:=⟨some 132,_,_,_,_,_⟩) rfl (fun K hK=>?_) (AllReadyH.cons (o:=⟨some 136,_,_,_,_,_⟩) rfl (fun K hK=>?_) AllReadyH.nil)
   ·rw[if_pos (by rfl)]
    go_simp
    refine hK.out _ _ hHeld (fun hHeld=>?_)
    clear hK K
    simp only[setN,Act.put,s1,s2,s3]
    refine tkc fun K hK=>?_
    go_simp
    have HRN:=hH (show Rd (wb.alloc (.cells #[.slice none 0 0,.string u.filter,.int .i64 (a0:Int),.map none,.int .u8 (h1:Int),.int .u8 (q1:Int),.bool u.ap,.bool u.nl,.bool false] 108)) 9 (some ⟨wb.heap.size,0,none⟩) 1 (toV (a0:Int) u).cells from by rw[←HTV.o];exact rd_new wb 108 #[.slice none 0 0,.string u.filter,.int .i64 (a0:Int),.map none,.int .u8 (h1:Int),.int .u8 (q1:Int),.bool u.ap,.bool u.nl,.bool false] 9 1 rfl)
    have hbs:=hb0.alloc (.cells #[.slice none 0 0,.string u.filter,.int .i64 (a0:Int),.map none,.int .u8 (h1:Int),.int .u8 (q1:Int),.bool u.ap,.bool u.nl,.bool false] 108)
    have HDs:=hH (HDw.o.keep (Keeps.alloc wb (.cells #[.slice none 0 0,.string u.filter,.int .i64 (a0:Int),.map none,.int .u8 (h1:Int),.int .u8 (q1:Int),.bool u.ap,.bool u.nl,.bool false] 108)))
    have HKs:=hH (HKW0.o.trans (Keeps.alloc wb (.cells #[.slice none 0 0,.string u.filter,.int .i64 (a0:Int),.map none,.int .u8 (h1:Int),.int .u8 (q1:Int),.bool u.ap,.bool u.nl,.bool false] 108)) (by simp))
    have hcs:(wb.alloc (.cells #[.slice none 0 0,.string u.filter,.int .i64 (a0:Int),.map none,.int .u8 (h1:Int),.int .u8 (q1:Int),.bool u.ap,.bool u.nl,.bool false] 108)).cell? ⟨g,89,none⟩=some (.slice A k cc):=(HDs.o.cell 89).trans (congrArg some rfl)
    clear hHeld
    refine hK.out _ _ (hS _ hbs) (fun hHeld=>?_)
    clear hK K
    simp only[setN,Act.put,s1,s2,s3]
    generalize wb.alloc (.cells #[.slice none 0 0,.string u.filter,.int .i64 (a0:Int),.map none,.int .u8 (h1:Int),.int .u8 (q1:Int),.bool u.ap,.bool u.nl,.bool false] 108)=ws at*
    generalize wb.heap.size=nb at*
    exact zV0
   ·rw[if_pos (by rfl)]
    go_simp
    have HRN:=hH (show Rd (wb.alloc (.cells #[.slice none 0 0,.string u.filter,.int .i64 (a0:Int),.map none,.int .u8 (h1:Int),.int .u8 (q1:Int),.bool u.ap,.bool u.nl,.bool false] 108)) 9 (some ⟨wb.heap.size,0,none⟩) 1 (toV (a0:Int) u).cells from by rw[←HTV.o];exact rd_new wb 108 #[.slice none 0 0,.string u.filter,.int .i64 (a0:Int),.map none,.int .u8 (h1:Int),.int .u8 (q1:Int),.bool u.ap,.bool u.nl,.bool false] 9 1 rfl)
    have hbs:=hb0.alloc (.cells #[.slice none 0 0,.string u.filter,.int .i64 (a0:Int),.map none,.int .u8 (h1:Int),.int .u8 (q1:Int),.bool u.ap,.bool u.nl,.bool false] 108)
    have HDs:=hH (HDw.o.keep (Keeps.alloc wb (.cells #[.slice none 0 0,.string u.filter,.int .i64 (a0:Int),.map none,.int .u8 (h1:Int),.int .u8 (q1:Int),.bool u.ap,.bool u.nl,.bool false] 108)))
    have HKs:=hH (HKW0.o.trans (Keeps.alloc wb (.cells #[.slice none 0 0,.string u.filter,.int .i64 (a0:Int),.map none,.int .u8 (h1:Int),.int .u8 (q1:Int),.bool u.ap,.bool u.nl,.bool false] 108)) (by simp))
    have hcs:(wb.alloc (.cells #[.slice none 0 0,.string u.filter,.int .i64 (a0:Int),.map none,.int .u8 (h1:Int),.int .u8 (q1:Int),.bool u.ap,.bool u.nl,.bool false] 108)).cell? ⟨g,89,none⟩=some (.slice A k cc):=(HDs.o.cell 89).trans (congrArg some rfl)
    clear hHeld
    refine hK.out _ _ (hS _ hbs) (fun hHeld=>?_)
    clear hK K
    simp only[setN,Act.put,s1,s2,s3]
    generalize wb.alloc (.cells #[.slice none 0 0,.string u.filter,.int .i64 (a0:Int),.map none,.int .u8 (h1:Int),.int .u8 (q1:Int),.bool u.ap,.bool u.nl,.bool false] 108)=ws at*
    exact zV5
  ·have hkl:k=subs.length:=by omega
   have hgez:¬(off:Int)<(n:Int):=by intro h;exact hlt (hiff.1 (by omega))
   subst hkl
   have ho:=HO.o
   rw[List.take_length] at ho
   have HO2:=hH ho
   clear ho
   go_wp2_with fail
   have HSTe:=hH ((HST1.o.keep HKW.o (by simpa using HDr.o.ne) (by simp;exact .inl HDr.o.hg)).upd (i:=89) (v:=.slice A subs.length cc) (by omega) (by omega))
   have hkf:=HDr.o.keeps
   go_ret
   rw[←HQ.o]
   refine⟨rfl,_,HDr.o.blk,?_,hkf⟩
   exact PkGot.of HDr.o.one (st:=HSTe.o) (subs:=⟨A,cc,(a0:Int),rfl,own_rd HO2.o,fun a ha=>Nat.le_trans HLE.o (HA.o a.block (by rw[ha];rfl))⟩)
end Go.Proofs.YtkglmacaecmhdaaGreatDoor
