/- FnRoad, part K: the walks of T3, L1, L2. -/
import Derived.Laws.RangeAny
import Derived.Laws.RangeString
import Derived.Deep.CutBlock
import Derived.Laws.StructEq
import Derived.Test.YtkglmacaecmhdaaGreatDoorH
set_option linter.unusedVariables false
set_option linter.unusedSimpArgs false
set_option maxHeartbeats 8000000
set_option maxRecDepth 100000
namespace Go.Proofs.YtkglmacaecmhdaaGreatDoor
open Go Go.RowKit Tryz
def Yes (w:World) (Pr:Prop) (e:Ending) (w':World):Prop:=∃b,e=.returned (.bool b)∧(b=true→Pr)∧Keeps [] w w'
def Is (w:World) (b:Bool) (e:Ending) (w':World):Prop:=e=.returned (.bool b)∧Keeps [] w w'
theorem is_of {w w':World} {b c:Bool} {e:Ending} (he:e=.returned (.bool c)) (h:c=b) (k:Keeps [] w w'):Is w b e w':=⟨by rw[he,h],k⟩
theorem yes_no {w w':World} {Pr:Prop} {e:Ending} (he:e=.returned (.bool false)) (k:Keeps [] w w'):Yes w Pr e w':=⟨false,he,by simp,k⟩
theorem Is.yes {w w':World} {b:Bool} {e:Ending} {Pr:Prop} (h:Is w b e w') (hp:b=true→Pr):Yes w Pr e w':=⟨b,h.1,hp,h.2⟩
theorem keeps_iter (w:World) (s:ByteArray) (pos:Nat):Keeps [] w (w.iter s pos):=Keeps.alloc _ _
def textF (s:ByteArray):Nat→Nat→Bool
 |0,pos=>decide (s.size≤pos)&&decide (s.size≤65535)
 |n+1,pos=>
  if pos<s.size then
   if (Utf8.decode s pos).1=0 then false
   else if (Utf8.decode s pos).1=65533∧¬(pos+3≤s.size∧(s.data.toList.drop pos).take 3=[239,191,189]) then false
   else textF s n (pos+(Utf8.decode s pos).2)
  else decide (s.size≤65535)
def textB (s:ByteArray):Bool:=textF s (s.size+1) 0
theorem textF_ok (s:ByteArray) (n pos:Nat) (h:textF s n pos=true):TextL (s.data.toList.drop pos)∧s.size≤65535:=by
 induction n generalizing pos with
 |zero=>
  simp only[textF,Bool.and_eq_true,decide_eq_true_eq] at h
  exact⟨by rw[List.drop_eq_nil_of_le (by rw[tl_len];omega)];exact textL_nil,h.2⟩
 |succ n ih=>
  unfold textF at h
  by_cases hp:pos<s.size
  ·rw[if_pos hp] at h
   split at h
   ·cases h
   split at h
   ·cases h
   ·rename_i h0 h1
    have h2:=ih _ h
    refine⟨text_step s pos hp h0 (fun h3=>?_) h2.1,h2.2⟩
    by_cases h4:(s.data.toList.drop pos).take 3=[239,191,189]
    ·exact h4
    ·exact absurd ⟨h3,fun h5=>h4 h5.2⟩ h1
  ·rw[if_neg hp] at h
   exact⟨by rw[List.drop_eq_nil_of_le (by rw[tl_len];omega)];exact textL_nil,of_decide_eq_true h⟩
theorem textB_ok {s:ByteArray} (h:textB s=true):TextOK s:=by
 have h2:=textF_ok s _ _ h
 exact textOK_of h2.2 (by simpa using h2.1)
theorem textF_end (s:ByteArray) (n pos:Nat) (h:¬pos<s.size):textF s n pos=decide (s.size≤65535):=by
 cases n with
 |zero=>simp only[textF,decide_eq_true (show s.size≤pos by omega)];rfl
 |succ n=>unfold textF;rw[if_neg h]
def TRel (w:World) (s:ByteArray) (gk:Nat) (wr:World):Prop:=∃pos,wr=w.iter s pos∧s.size<gk+pos∧textF s gk pos=textB s
theorem ext3 (s:ByteArray) (pos:Nat):(!(s.extract pos (pos+3)).toList==[239,191,189])= !decide ((s.data.toList.drop pos).take 3=[239,191,189]):=by
 rw[Lib.toList_data,Lib.extract_data,show pos+3-pos=3 by omega]
 by_cases h:(s.data.toList.drop pos).take 3=[239,191,189]<;>simp[h]
theorem zK4 {p:Prop} (h:p:=by
 go_wp2_with fail
 go_ret
 exact is_of rfl HB.o (keeps_iter _ _ _)
 ):p:=h
theorem zK5 {p:Prop} (h:p:=by
 go_wp2_with fail
 go_roundg g'
 case measure=>omega
 case rel=>exact⟨pos+k,rfl,by omega,HB.o⟩
 ):p:=h
theorem text_c (w:World) (s:ByteArray) (hs:s.size≤140737488355328):
 Calls prog 22 #[.string s] w (Is w (textB s)):=by
 go_enter func22,ntmps22
 go_wp2_with fail
 go_loopg [] (s.size+1) (fun gk wr=>TRel w s gk wr)
 case atStart=>exact⟨0,rfl,by omega,rfl⟩
 case round=>
  obtain⟨pos,rfl,hgk,hti⟩:=hrel
  have HTI:=hH hti
  clear hti
  by_cases hp:pos<s.size
  ·have hnx:∀ty,(Instr.next (.pointer (some ⟨w.heap.size,0,none⟩)) true ty).run prog (w.iter s pos)=_:=fun ty=>run_next_any w s pos ty hp
   obtain⟨⟨r,k⟩,hd⟩:∃d,Utf8.decode s pos=d:=⟨_,rfl⟩
   have hw:1≤k:=by have:=Lib.decodeL_width (s.data.toList.drop pos);rw[Lib.decodeL_drop,hd] at this;exact this
   obtain⟨g',rfl⟩:∃g',gk=g'+1:=⟨gk-1,by omega⟩
   have hst:(if r=0 then false else if r=65533∧¬(pos+3≤s.size∧(s.data.toList.drop pos).take 3=[239,191,189]) then false else textF s g' (pos+k))=textB s:=by
    rw[←HTI.o]
    conv=>rhs;unfold textF
    rw[if_pos hp,hd]
   have HST:=hH hst
   rw[hd] at hnx
   simp only at hnx
   clear hd HTI hst
   by_cases h0:r=0
   ·subst h0
    have HB:Hd (false=textB s):=by have h:=HST.o;rwa [if_pos rfl] at h
    exact zK4
   ·have h0b:((r:Int)==0)=false:=by rw[beq_eq_false_iff_ne];omega
    by_cases h1:r=65533
    ·subst h1
     by_cases h2:(s.size:Int) -(pos:Int)<3
     ·have HB:Hd (false=textB s):=by have h:=HST.o;rwa [if_neg h0,if_pos ⟨rfl,fun h3=>by omega⟩] at h
      exact zK4
     ·have h2b:decide ((s.size:Int) -(pos:Int)<3)=false:=decide_eq_false h2
      have hpz:(pos:Int)+3≤(s.size:Int):=by omega
      have hx:=ext3 s pos
      by_cases h3:(s.data.toList.drop pos).take 3=[239,191,189]
      ·have HB:Hd (textF s g' (pos+k)=textB s):=by have h:=HST.o;rwa [if_neg h0,if_neg (fun h4=>h4.2 ⟨by omega,h3⟩)] at h
       rw[decide_eq_true h3] at hx
       simp only[Bool.not_true] at hx
       clear h3
       exact zK5
      ·have HB:Hd (false=textB s):=by have h:=HST.o;rwa [if_neg h0,if_pos ⟨rfl,fun h4=>h3 h4.2⟩] at h
       rw[decide_eq_false h3] at hx
       simp only[Bool.not_false] at hx
       clear h3
       exact zK4
    ·have h1b:((r:Int)==65533)=false:=by rw[beq_eq_false_iff_ne];omega
     have HB:Hd (textF s g' (pos+k)=textB s):=by have h:=HST.o;rwa [if_neg h0,if_neg (fun h4=>h1 h4.1)] at h
     exact zK5
  ·have hnx:∀ty,(Instr.next (.pointer (some ⟨w.heap.size,0,none⟩)) true ty).run prog (w.iter s pos)=_:=fun ty=>run_next_end w s pos ty hp
   have HT:Hd (decide (s.size≤65535)=textB s):=by
    have h:=HTI.o
    rwa [textF_end _ _ _ hp] at h
   go_wp2_with fail
   go_ret
   refine is_of rfl ?_ (keeps_iter _ _ _)
   rw[←HT.o]
   by_cases hz:s.size≤65535
   ·rw[decide_eq_true hz];simp;omega
   ·rw[decide_eq_false hz];simp;omega
def TopicOK (s:ByteArray):Prop:=TextOK s∧0<s.size∧s.size≤200∧NoWild s
def TpRel (s:ByteArray) (w:World) (gk:Nat) (i:Value) (wr:World):Prop:=∃k,i=.int .i64 ((k:Nat):Int)∧k≤s.size∧s.size<gk+k∧w=wr∧∀b∈s.data.toList.take k,b≠43∧b≠35
theorem size_ne {s:ByteArray} (h:(s.toList.isEmpty)=false):0<s.size:=by
 rw[Lib.toList_data] at h
 cases e:s.data.toList with
 |nil=>rw[e] at h;cases h
 |cons a l=>have h2:=congrArg List.length e;simp at h2;have e2:s.size=s.data.size:=rfl;omega
def topicB (s:ByteArray):Bool:=s.data.toList.all (fun b=>b !=43&&b !=35)&&textB s&& !s.toList.isEmpty&&decide (s.size≤200)
theorem topicB_ok {s:ByteArray} (h:topicB s=true):TopicOK s:=by
 simp only[topicB,Bool.and_eq_true,decide_eq_true_eq,List.all_eq_true,bne_iff_ne,ne_eq] at h
 obtain⟨⟨⟨h1,h2⟩,h3⟩,h4⟩:=h
 exact⟨textB_ok h2,size_ne (by simpa using h3),h4,fun b hb=>⟨(h1 b hb).1,(h1 b hb).2⟩⟩
theorem wild_no {l:List UInt8} {k:Nat} {x:UInt8} (hk:k<l.length) (hx:l[k]=x) (h:x.toNat=43∨x.toNat=35):l.all (fun b=>b !=43&&b !=35)=false:=by
 rw[Bool.eq_false_iff]
 intro h2
 rw[List.all_eq_true] at h2
 have h3:=h2 x (by rw[←hx];exact List.getElem_mem _)
 simp only[Bool.and_eq_true,bne_iff_ne,ne_eq] at h3
 rcases h with h|h
 ·exact h3.1 (by rw[←UInt8.toNat_inj];exact h)
 ·exact h3.2 (by rw[←UInt8.toNat_inj];exact h)
theorem topic_c (w:World) (s:ByteArray) (hs:s.size≤140737488355328):
 Calls prog 21 #[.string s] w (Is w (topicB s)):=by
 go_enter func21,ntmps21
 go_wp2_with fail
 go_loopg [6] (s.size+1) (fun gk i wr=>TpRel s w gk i wr)
 case atStart=>exact⟨0,rfl,by omega,by omega,rfl,by simp⟩
 case round=>
  obtain⟨k,rfl,hk,hgk,rfl,hno⟩:=hrel
  have HNO:=hH hno
  clear hno
  by_cases hlt:k<s.size
  ·obtain⟨g',rfl⟩:∃g',gk=g'+1:=⟨gk-1,by omega⟩
   have hltz:(k:Int)<(s.size:Int):=by omega
   obtain⟨x,hx⟩:∃x,s[k]=x:=⟨_,rfl⟩
   have htk:Hd (s.data.toList.take (k+1)=s.data.toList.take k++[x]):=by
    show _=_
    rw[List.take_succ_eq_append_getElem (by rw[tl_len];exact hlt),←hx];rfl
   have hwn:Hd (x.toNat=43∨x.toNat=35→topicB s=false):=fun h=>by
    unfold topicB
    rw[wild_no (by rw[tl_len];exact hlt) (show s.data.toList[k]'(by rw[tl_len];exact hlt)=x from by rw[←hx];rfl) h]
    rfl
   by_cases h1:x.toNat=43
   ·have e1:((x.toNat:Int)==43)=true:=by rw[beq_iff_eq];omega
    have HB:=hH (hwn.o (.inl h1))
    go_wp2_with fail
    go_ret
    exact is_of rfl HB.o.symm (Keeps.refl _ _)
   ·have e1:((x.toNat:Int)==43)=false:=by rw[beq_eq_false_iff_ne];omega
    by_cases h2:x.toNat=35
    ·have e2:((x.toNat:Int)==35)=true:=by rw[beq_iff_eq];omega
     have HB:=hH (hwn.o (.inr h2))
     go_wp2_with fail
     go_ret
     exact is_of rfl HB.o.symm (Keeps.refl _ _)
    ·have e2:((x.toNat:Int)==35)=false:=by rw[beq_eq_false_iff_ne];omega
     go_wp2_with fail
     go_roundg g'
     case measure=>omega
     case rel=>
      refine⟨k+1,by go_num,by omega,by omega,rfl,?_⟩
      rw[htk.o]
      intro b hb
      rcases List.mem_append.1 hb with h|h
      ·exact HNO.o b h
      ·simp at h;subst h;exact⟨fun e=>h1 (by rw[e];rfl),fun e=>h2 (by rw[e];rfl)⟩
  ·have hall:Hd (s.data.toList.all (fun b=>b !=43&&b !=35)=true):=by
    show _=_
    rw[List.all_eq_true]
    intro b hb
    have h:=HNO.o b (by rw[List.take_of_length_le (by rw[tl_len];omega)];exact hb)
    simp[h.1,h.2]
   have hT:=hH (text_c w s hs)
   go_wp2_with fail
   go_fit (hT.o)
   rintro e w1 ⟨rfl,hk1⟩
   cases ht:textB s
   ·go_wp2_with fail
    go_ret
    refine is_of rfl ?_ hk1
    unfold topicB;rw[hall.o,ht];rfl
   ·have HTX:=hH ht
    clear ht
    cases h0:s.toList.isEmpty
    ·have h0b:(!s.toList.isEmpty)=true:=by rw[h0];rfl
     by_cases h2:s.size≤200
     ·go_wp2_with fail
      go_ret
      refine is_of rfl ?_ hk1
      unfold topicB;rw[hall.o,HTX.o,h0,decide_eq_true h2];simp;omega
     ·go_wp2_with fail
      go_ret
      refine is_of rfl ?_ hk1
      unfold topicB;rw[hall.o,HTX.o,h0,decide_eq_false h2];simp;omega
    ·have h0b:(!s.toList.isEmpty)=false:=by rw[h0];rfl
     go_wp2_with fail
     go_ret
     refine is_of rfl ?_ hk1
     unfold topicB;rw[hall.o,HTX.o,h0];rfl
theorem value_c (w:World) (i:Int):Calls prog 79 #[.int .i64 i] w fun e w'=>e=.returned (.int .i64 (kindOf i:Int))∧w=w':=by
 by_cases hk:i=1∨i=2∨i=3∨i=8∨i=9∨i=11∨i=17∨i=18∨i=19∨i=21∨i=22∨i=23∨i=24∨i=25∨i=26∨i=28∨i=31∨i=33∨i=34∨i=35∨i=36∨i=37∨i=38∨i=39∨i=40∨i=41∨i=42
 ·rcases hk with rfl|rfl|rfl|rfl|rfl|rfl|rfl|rfl|rfl|rfl|rfl|rfl|rfl|rfl|rfl|rfl|rfl|rfl|rfl|rfl|rfl|rfl|rfl|rfl|rfl|rfl|rfl
  all_goals
   go_enter func79,ntmps79
   go_wp2_with fail
   go_ret
   exact⟨rfl,rfl⟩
 ·have hz:kindOf i=0:=by
   by_cases h:kindOf i=0
   ·exact h
   ·exact absurd (kindOf_known h) hk
  rw[hz]
  have n1:(i==1)=false:=by rw[beq_eq_false_iff_ne];omega
  have n2:(i==2)=false:=by rw[beq_eq_false_iff_ne];omega
  have n3:(i==3)=false:=by rw[beq_eq_false_iff_ne];omega
  have n8:(i==8)=false:=by rw[beq_eq_false_iff_ne];omega
  have n9:(i==9)=false:=by rw[beq_eq_false_iff_ne];omega
  have n11:(i==11)=false:=by rw[beq_eq_false_iff_ne];omega
  have n17:(i==17)=false:=by rw[beq_eq_false_iff_ne];omega
  have n18:(i==18)=false:=by rw[beq_eq_false_iff_ne];omega
  have n19:(i==19)=false:=by rw[beq_eq_false_iff_ne];omega
  have n21:(i==21)=false:=by rw[beq_eq_false_iff_ne];omega
  have n22:(i==22)=false:=by rw[beq_eq_false_iff_ne];omega
  have n23:(i==23)=false:=by rw[beq_eq_false_iff_ne];omega
  have n24:(i==24)=false:=by rw[beq_eq_false_iff_ne];omega
  have n25:(i==25)=false:=by rw[beq_eq_false_iff_ne];omega
  have n26:(i==26)=false:=by rw[beq_eq_false_iff_ne];omega
  have n28:(i==28)=false:=by rw[beq_eq_false_iff_ne];omega
  have n31:(i==31)=false:=by rw[beq_eq_false_iff_ne];omega
  have n33:(i==33)=false:=by rw[beq_eq_false_iff_ne];omega
  have n34:(i==34)=false:=by rw[beq_eq_false_iff_ne];omega
  have n35:(i==35)=false:=by rw[beq_eq_false_iff_ne];omega
  have n36:(i==36)=false:=by rw[beq_eq_false_iff_ne];omega
  have n37:(i==37)=false:=by rw[beq_eq_false_iff_ne];omega
  have n38:(i==38)=false:=by rw[beq_eq_false_iff_ne];omega
  have n39:(i==39)=false:=by rw[beq_eq_false_iff_ne];omega
  have n40:(i==40)=false:=by rw[beq_eq_false_iff_ne];omega
  have n41:(i==41)=false:=by rw[beq_eq_false_iff_ne];omega
  have n42:(i==42)=false:=by rw[beq_eq_false_iff_ne];omega
  clear hz hk
  go_enter func79,ntmps79
  go_wp2_with fail
  go_ret
  exact⟨rfl,rfl⟩
def ALst (w:World) (kind id:Int) (v:Value) (wc:World):Prop:=∃A c L,v=.slice A L.length c∧Rd wc 1 A L.length (nvs L)∧L.length≤100∧L.contains id=alB kind id∧Keeps [] w wc
def ARel (w wc:World) (L:List Int) (id:Int) (gk:Nat) (i:Value) (wr:World):Prop:=∃k,i=.int .i64 ((k:Nat):Int)∧k≤L.length∧L.length<gk+k∧wc=wr∧∀y∈L.take k,y≠id
theorem zK0 {p:Prop} (h:p:=by
 go_wp2_with fail
 go_meet
 case rel=>exact⟨some ⟨w.heap.size,0,none⟩,2,[31,38],rfl,rd_new w 3 #[.int .i64 31,.int .i64 38] 1 2 rfl,by decide,rfl,Keeps.alloc _ _⟩
 ):p:=h
theorem allowed_c (w:World) (kind id:Int):Calls prog 40 #[.int .i64 kind,.int .i64 id] w (Is w (alB kind id)):=by
 go_enter func40,ntmps40
 go_upto_block 0 with fail
 go_cut [5] from 9 to 40 (fun s5 wc=>ALst w kind id s5 wc)
 case first=>
  by_cases hk:kind=1∨kind=2∨kind=3∨kind=4∨kind=5∨kind=6∨kind=7∨kind=8∨kind=9∨kind=10∨kind=11∨kind=14∨kind=15∨kind=16
  ·rcases hk with rfl|rfl|rfl|rfl|rfl|rfl|rfl|rfl|rfl|rfl|rfl|rfl|rfl|rfl
   ·go_wp2_with fail
    go_meet
    case rel=>exact⟨some ⟨w.heap.size,0,none⟩,9,[17,21,22,23,25,33,34,38,39],rfl,rd_new w 3 #[.int .i64 17,.int .i64 21,.int .i64 22,.int .i64 23,.int .i64 25,.int .i64 33,.int .i64 34,.int .i64 38,.int .i64 39] 1 9 rfl,by decide,rfl,Keeps.alloc _ _⟩
   ·go_wp2_with fail
    go_meet
    case rel=>exact⟨some ⟨w.heap.size,0,none⟩,17,[17,18,19,21,22,26,28,31,33,34,36,37,38,39,40,41,42],rfl,rd_new w 3 #[.int .i64 17,.int .i64 18,.int .i64 19,.int .i64 21,.int .i64 22,.int .i64 26,.int .i64 28,.int .i64 31,.int .i64 33,.int .i64 34,.int .i64 36,.int .i64 37,.int .i64 38,.int .i64 39,.int .i64 40,.int .i64 41,.int .i64 42] 1 17 rfl,by decide,rfl,Keeps.alloc _ _⟩
   ·go_wp2_with fail
    go_meet
    case rel=>exact⟨some ⟨w.heap.size,0,none⟩,8,[1,2,3,8,9,11,35,38],rfl,rd_new w 3 #[.int .i64 1,.int .i64 2,.int .i64 3,.int .i64 8,.int .i64 9,.int .i64 11,.int .i64 35,.int .i64 38] 1 8 rfl,by decide,rfl,Keeps.alloc _ _⟩
   ·exact zK0
   ·exact zK0
   ·exact zK0
   ·exact zK0
   ·go_wp2_with fail
    go_meet
    case rel=>exact⟨some ⟨w.heap.size,0,none⟩,2,[11,38],rfl,rd_new w 3 #[.int .i64 11,.int .i64 38] 1 2 rfl,by decide,rfl,Keeps.alloc _ _⟩
   ·exact zK0
   ·go_wp2_with fail
    go_meet
    case rel=>exact⟨some ⟨w.heap.size,0,none⟩,1,[38],rfl,rd_new w 3 #[.int .i64 38] 1 1 rfl,by decide,rfl,Keeps.alloc _ _⟩
   ·exact zK0
   ·go_wp2_with fail
    go_meet
    case rel=>exact⟨some ⟨w.heap.size,0,none⟩,4,[17,28,31,38],rfl,rd_new w 3 #[.int .i64 17,.int .i64 28,.int .i64 31,.int .i64 38] 1 4 rfl,by decide,rfl,Keeps.alloc _ _⟩
   ·go_wp2_with fail
    go_meet
    case rel=>exact⟨some ⟨w.heap.size,0,none⟩,4,[21,22,31,38],rfl,rd_new w 3 #[.int .i64 21,.int .i64 22,.int .i64 31,.int .i64 38] 1 4 rfl,by decide,rfl,Keeps.alloc _ _⟩
   ·go_wp2_with fail
    go_meet
    case rel=>exact⟨some ⟨w.heap.size,0,none⟩,7,[1,2,3,8,9,24,38],rfl,rd_new w 3 #[.int .i64 1,.int .i64 2,.int .i64 3,.int .i64 8,.int .i64 9,.int .i64 24,.int .i64 38] 1 7 rfl,by decide,rfl,Keeps.alloc _ _⟩
  ·have n1:(kind==1)=false:=by rw[beq_eq_false_iff_ne];omega
   have n2:(kind==2)=false:=by rw[beq_eq_false_iff_ne];omega
   have n3:(kind==3)=false:=by rw[beq_eq_false_iff_ne];omega
   have n4:(kind==4)=false:=by rw[beq_eq_false_iff_ne];omega
   have n5:(kind==5)=false:=by rw[beq_eq_false_iff_ne];omega
   have n6:(kind==6)=false:=by rw[beq_eq_false_iff_ne];omega
   have n7:(kind==7)=false:=by rw[beq_eq_false_iff_ne];omega
   have n8:(kind==8)=false:=by rw[beq_eq_false_iff_ne];omega
   have n9:(kind==9)=false:=by rw[beq_eq_false_iff_ne];omega
   have n10:(kind==10)=false:=by rw[beq_eq_false_iff_ne];omega
   have n11:(kind==11)=false:=by rw[beq_eq_false_iff_ne];omega
   have n14:(kind==14)=false:=by rw[beq_eq_false_iff_ne];omega
   have n15:(kind==15)=false:=by rw[beq_eq_false_iff_ne];omega
   have n16:(kind==16)=false:=by rw[beq_eq_false_iff_ne];omega
   have hal:Hd (alB kind id=false):=by show _=_;unfold alB;repeat(rw[if_neg (by omega)])
   clear hk
   go_wp2_with fail
   go_meet
   case rel=>exact⟨none,0,[],rfl,Rd.none_ _ _,by decide,hal.o.symm,Keeps.refl _ _⟩
 case rest=>
 obtain⟨A,c,L,rfl,hr,hL,hal,hkc⟩:=hcut
 have HR:=hH hr
 have HAL:=hH hal
 have HKC:=hH hkc
 clear hr hal hkc
 go_wp2_with fail
 go_loopg [43] (L.length+1) (fun gk i wr=>ARel w wc L id gk i wr)
 case atStart=>exact⟨0,rfl,by omega,by omega,rfl,by simp⟩
 case round=>
  obtain⟨k,rfl,hk,hgk,rfl,hno⟩:=hrel
  have HNO:=hH hno
  clear hno
  by_cases hlt:k<L.length
  ·obtain⟨g',rfl⟩:∃g',gk=g'+1:=⟨gk-1,by omega⟩
   have hltz:(k:Int)<(L.length:Int):=by omega
   obtain⟨b0,o0,rfl,hcl⟩:=HR.o.2 (by omega)
   obtain⟨x,hx⟩:∃x,L[k]=x:=⟨_,rfl⟩
   have hcx:wc.cell? ⟨b0,o0+k,none⟩=some (.int .i64 x):=hcl k _ (by simp[nvs,List.getElem?_eq_getElem hlt,hx])
   have hm:x∈L:=by rw[←hx];exact List.getElem_mem _
   have htk:Hd (L.take (k+1)=L.take k++[x]):=by show _=_;rw[List.take_succ_eq_append_getElem hlt,hx]
   clear hcl hx
   by_cases he:x=id
   ·subst he
    have hy:Hd (alB kind x=true):=by rw[←HAL.o];show _=_;simpa using hm
    clear hm
    have hxx:(x==x)=true:=by simp
    go_wp2_with fail
    go_ret
    exact is_of rfl hy.o.symm HKC.o
   ·have heb:(x==id)=false:=by rw[beq_eq_false_iff_ne];exact he
    clear hm
    go_wp2_with fail
    go_roundg g'
    case measure=>omega
    case rel=>
     refine⟨k+1,by go_num,by omega,by omega,rfl,?_⟩
     rw[htk.o]
     intro y hy
     rcases List.mem_append.1 hy with h|h
     ·exact HNO.o y h
     ·simp at h;subst h;exact he
  ·have hn:Hd (alB kind id=false):=by
    show _=_
    rw[←HAL.o,Bool.eq_false_iff]
    intro h
    rw[List.contains_iff_mem] at h
    exact HNO.o id (by rw[List.take_of_length_le (by omega)];exact h) rfl
   go_wp2_with fail
   go_ret
   exact is_of rfl hn.o.symm HKC.o
def Iff1 (w:World) (Pr:Prop) (e:Ending) (w':World):Prop:=∃r,e=.returned (.bool r)∧(r=true↔Pr)∧Keeps [] w w'
theorem ba_toList {s t:ByteArray} (h:s.toList=t.toList):s=t:=by
 rw[Lib.toList_data,Lib.toList_data] at h
 cases s;cases t;simp at h;simp[h]
theorem PropV.ext_ {x y:PropV} (h1:x.id=y.id) (h2:x.n=y.n) (h3:x.text=y.text) (h4:x.other=y.other):x=y:=by
 cases x;cases y;simp_all
theorem neq100 (w:World) (x y:PropV) [Decidable (x=y)]:(binOp .neq 100 (.agg #[.int .i64 x.id,.int .u32 (x.n:Int),.string x.text,.string x.other]) (.agg #[.int .i64 y.id,.int .u32 (y.n:Int),.string y.text,.string y.other])).run prog w=.ok (.bool (!decide (x=y))) w:=by
 by_cases h:x=y
 ·subst h
  go_simp
 ·have hd:decide (x=y)=false:=decide_eq_false h
  rw[hd]
  go_simp
  intro h1 h2 h3 h4
  exact h (PropV.ext_ h1 (by omega) (ba_toList h3) (ba_toList h4))
theorem list_split {α:Type} (a b:List α) (k:Nat) (hl:a.length=b.length) (hk:k<a.length) (ht:a.take k=b.take k) (h:a[k]=b[k]'(by omega)):a.take (k+1)=b.take (k+1):=by
 rw[List.take_succ_eq_append_getElem hk,List.take_succ_eq_append_getElem (by omega),ht,h]
def SRel {α:Type} (w:World) (a b:List α) (gk:Nat) (i:Value) (wr:World):Prop:=∃k,i=.int .i64 ((k:Nat):Int)∧k≤a.length∧a.length<gk+k∧a.take k=b.take k∧Keeps [] w wr
theorem zK1 {p:Prop} (h:p:=by
 go_wp2_with fail
 go_quiet (fail)
 go_wp2_with fail
 go_roundg g'
 case measure=>omega
 case rel=>exact⟨k+1,by go_num,by omega,by omega,hst.o,HKW.o.trans (Keeps.drewN _ _) (by simp)⟩
 ):p:=h
theorem zK2 {p:Prop} (h:p:=by
 go_wp2_with fail
 go_ret
 refine⟨true,rfl,⟨fun _=>?_,fun _=>rfl⟩,HKW.o⟩
 have h:=HTK.o
 rwa [List.take_of_length_le (by omega),List.take_of_length_le (by have:=HL.o;omega)] at h
 ):p:=h
theorem zK3 {p:Prop} (h:p:=by
 go_wp2_with fail
 go_quiet (fail)
 go_wp2_with fail
 go_ret
 exact⟨false,rfl,⟨by simp,fun e=>absurd e hst.o⟩,HKW.o.trans (Keeps.drewN _ _) (by simp)⟩
 ):p:=h
theorem zK6 {p:Prop} (h:p:=by
 go_wp2_with fail
 go_ret
 exact⟨false,rfl,⟨by simp,fun e=>absurd e hst.o⟩,Keeps.refl _ _⟩
 ):p:=h
theorem same_c (N:Nat→Prop) (w:World) (va vb:Value) (a b:List PropV) (ha:PropsAt N w va a) (hb:PropsAt N w vb b) (hla:a.length≤140737488355328) (hlb:b.length≤140737488355328):
 Calls prog 36 #[va,vb] w (Iff1 w (a=b)):=by
 obtain⟨A,ca,rfl,hra,hca,hA⟩:=ha
 obtain⟨B,cb,rfl,hrb,hcb,hB⟩:=hb
 have HRA:=hH hra
 have HRB:=hH hrb
 clear hra hrb hA hB
 by_cases hl:a.length=b.length
 ·have hlz:((a.length:Int)!=(b.length:Int))=false:=by rw[hl];simp
  have HL:=hH hl
  clear hl
  go_enter func36,ntmps36
  go_wp2_with fail
  go_loopg [13] (a.length+1) (fun gk i wr=>SRel w a b gk i wr)
  case atStart=>exact⟨0,rfl,by omega,by omega,rfl,Keeps.refl _ _⟩
  case round=>
   obtain⟨k,rfl,hk,hgk,htk,hkw⟩:=hrel
   have HTK:=hH htk
   have HKW:=hH hkw
   clear htk hkw
   by_cases hlt:k<a.length
   ·obtain⟨g',rfl⟩:∃g',gk=g'+1:=⟨gk-1,by omega⟩
    have hltz:(k:Int)<(a.length:Int):=by omega
    have hltb:k<b.length:=by have:=HL.o;omega
    have hltbz:(k:Int)<(b.length:Int):=by omega
    obtain⟨ba,oa,rfl,hcl⟩:=HRA.o.2 (by omega)
    obtain⟨bb,ob,rfl,hdl⟩:=HRB.o.2 (by omega)
    obtain⟨x,hx⟩:∃x,a[k]=x:=⟨_,rfl⟩
    obtain⟨y,hy⟩:∃y,b[k]=y:=⟨_,rfl⟩
    have fx:=flat4_get a k x (by rw[List.getElem?_eq_getElem hlt,hx])
    have fy:=flat4_get b k y (by rw[List.getElem?_eq_getElem hltb,hy])
    have x0:wr.cell? ⟨ba,oa+k*4,none⟩=some (.int .i64 x.id):=HKW.o.some_ (hcl _ _ (fx 0 (by omega))) (by simp)
    have x1:wr.cell? ⟨ba,oa+k*4+1,none⟩=some (.int .u32 (x.n:Int)):=HKW.o.some_ (by rw[Nat.add_assoc];exact hcl _ _ (fx 1 (by omega))) (by simp)
    have x2:wr.cell? ⟨ba,oa+k*4+2,none⟩=some (.string x.text):=HKW.o.some_ (by rw[Nat.add_assoc];exact hcl _ _ (fx 2 (by omega))) (by simp)
    have x3:wr.cell? ⟨ba,oa+k*4+3,none⟩=some (.string x.other):=HKW.o.some_ (by rw[Nat.add_assoc];exact hcl _ _ (fx 3 (by omega))) (by simp)
    have y0:wr.cell? ⟨bb,ob+k*4,none⟩=some (.int .i64 y.id):=HKW.o.some_ (hdl _ _ (fy 0 (by omega))) (by simp)
    have y1:wr.cell? ⟨bb,ob+k*4+1,none⟩=some (.int .u32 (y.n:Int)):=HKW.o.some_ (by rw[Nat.add_assoc];exact hdl _ _ (fy 1 (by omega))) (by simp)
    have y2:wr.cell? ⟨bb,ob+k*4+2,none⟩=some (.string y.text):=HKW.o.some_ (by rw[Nat.add_assoc];exact hdl _ _ (fy 2 (by omega))) (by simp)
    have y3:wr.cell? ⟨bb,ob+k*4+3,none⟩=some (.string y.other):=HKW.o.some_ (by rw[Nat.add_assoc];exact hdl _ _ (fy 3 (by omega))) (by simp)
    clear hcl hdl fx fy
    by_cases hxy:x=y
    ·have hst:Hd (a.take (k+1)=b.take (k+1)):=list_split a b k HL.o hlt HTK.o (by rw[hx,hy,hxy])
     have hne:∀w,(binOp .neq 100 (.agg #[.int .i64 x.id,.int .u32 (x.n:Int),.string x.text,.string x.other]) (.agg #[.int .i64 y.id,.int .u32 (y.n:Int),.string y.text,.string y.other])).run prog w=.ok (.bool false) w:=fun w=>by
      have h:=@neq100 w x y (Classical.propDecidable _)
      rw[@decide_eq_true _ (Classical.propDecidable _) hxy] at h
      exact h
     clear hxy hx hy
     exact zK1
    ·have hst:Hd (a≠b):=fun e=>hxy (by rw[←hx,←hy];subst e;rfl)
     have hne:∀w,(binOp .neq 100 (.agg #[.int .i64 x.id,.int .u32 (x.n:Int),.string x.text,.string x.other]) (.agg #[.int .i64 y.id,.int .u32 (y.n:Int),.string y.text,.string y.other])).run prog w=.ok (.bool true) w:=fun w=>by
      have h:=@neq100 w x y (Classical.propDecidable _)
      rw[@decide_eq_false _ (Classical.propDecidable _) hxy] at h
      exact h
     clear hxy hx hy
     exact zK3
   ·exact zK2
 ·have hlz:((a.length:Int)!=(b.length:Int))=true:=by simp;omega
  have hst:Hd (a≠b):=fun e=>hl (by rw[e])
  clear hl
  go_enter func36,ntmps36
  exact zK6
theorem neq_str {a b:List UInt8} (h:a≠b):(!(⟨a.toArray⟩:ByteArray).toList==(⟨b.toArray⟩:ByteArray).toList)=true:=by
 rw[Lib.toList_data,Lib.toList_data];simpa using h
theorem lists_c (N:Nat→Prop) (w:World) (va vb:Value) (a b:List (List UInt8)) (ha:BytessAt N w va a) (hb:BytessAt N w vb b) (hla:a.length≤140737488355328) (hlb:b.length≤140737488355328):
 Calls prog 35 #[va,vb] w (Iff1 w (a=b)):=by
 obtain⟨xs,⟨A,ca,rfl,hra,hca,hA⟩,hxa⟩:=ha
 obtain⟨ys,⟨B,cb,rfl,hrb,hcb,hB⟩,hyb⟩:=hb
 have HRA:=hH hra
 have HRB:=hH hrb
 have HXA:=hH hxa
 have HYB:=hH hyb
 clear hra hrb hA hB hxa hyb
 by_cases hl:a.length=b.length
 ·have hlz:((a.length:Int)!=(b.length:Int))=false:=by rw[hl];simp
  have HL:=hH hl
  clear hl
  go_enter func35,ntmps35
  go_wp2_with fail
  go_loopg [13] (a.length+1) (fun gk i wr=>SRel w a b gk i wr)
  case atStart=>exact⟨0,rfl,by omega,by omega,rfl,Keeps.refl _ _⟩
  case round=>
   obtain⟨k,rfl,hk,hgk,htk,hkw⟩:=hrel
   have HTK:=hH htk
   have HKW:=hH hkw
   clear htk hkw
   by_cases hlt:k<a.length
   ·obtain⟨g',rfl⟩:∃g',gk=g'+1:=⟨gk-1,by omega⟩
    have hltz:(k:Int)<(a.length:Int):=by omega
    have hltb:k<b.length:=by have:=HL.o;omega
    have hltbz:(k:Int)<(b.length:Int):=by omega
    obtain⟨ba,oa,rfl,hcl⟩:=HRA.o.2 (by omega)
    obtain⟨bb,ob,rfl,hdl⟩:=HRB.o.2 (by omega)
    obtain⟨x,hx⟩:∃x,a[k]=x:=⟨_,rfl⟩
    obtain⟨y,hy⟩:∃y,b[k]=y:=⟨_,rfl⟩
    obtain⟨u,hu,A1,c1,rfl,hr1,_,_⟩:=HXA.o k x (by rw[List.getElem?_eq_getElem hlt,hx])
    obtain⟨v,hv,B1,d1,rfl,hr2,_,_⟩:=HYB.o k y (by rw[List.getElem?_eq_getElem hltb,hy])
    have x0:wr.cell? ⟨ba,oa+k,none⟩=some (.slice A1 x.length c1):=HKW.o.some_ (hcl _ _ hu) (by simp)
    have y0:wr.cell? ⟨bb,ob+k,none⟩=some (.slice B1 y.length d1):=HKW.o.some_ (hdl _ _ hv) (by simp)
    have cx:∀n,(convert 22 9 (.slice A1 x.length c1)).run prog (wr.drewN n)=.ok (.string ⟨x.toArray⟩) (wr.drewN n):=fun n=>conv_bytes _ A1 c1 x (hr1.keep (HKW.o.trans (Keeps.drewN _ n) (by simp)) (by simp))
    have cy:∀n,(convert 22 9 (.slice B1 y.length d1)).run prog (wr.drewN n)=.ok (.string ⟨y.toArray⟩) (wr.drewN n):=fun n=>conv_bytes _ B1 d1 y (hr2.keep (HKW.o.trans (Keeps.drewN _ n) (by simp)) (by simp))
    clear hcl hdl hu hv hr1 hr2
    by_cases hxy:x=y
    ·have hst:Hd (a.take (k+1)=b.take (k+1)):=list_split a b k HL.o hlt HTK.o (by rw[hx,hy,hxy])
     have hne:(!(⟨x.toArray⟩:ByteArray).toList==(⟨y.toArray⟩:ByteArray).toList)=false:=by rw[hxy];simp
     clear hxy hx hy
     generalize (⟨x.toArray⟩:ByteArray)=sx at*
     generalize (⟨y.toArray⟩:ByteArray)=sy at*
     exact zK1
    ·have hst:Hd (a≠b):=fun e=>hxy (by rw[←hx,←hy];subst e;rfl)
     have hne:=neq_str hxy
     clear hxy hx hy
     generalize (⟨x.toArray⟩:ByteArray)=sx at*
     generalize (⟨y.toArray⟩:ByteArray)=sy at*
     exact zK3
   ·exact zK2
 ·have hlz:((a.length:Int)!=(b.length:Int))=true:=by simp;omega
  have hst:Hd (a≠b):=fun e=>hl (by rw[e])
  clear hl
  go_enter func35,ntmps35
  exact zK6
end Go.Proofs.YtkglmacaecmhdaaGreatDoor
