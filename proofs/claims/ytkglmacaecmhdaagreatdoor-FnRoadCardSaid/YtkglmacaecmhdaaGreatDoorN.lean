/- FnRoad, part N: the walks of L5, L6. -/
import Derived.Deep.Light
import Derived.Test.YtkglmacaecmhdaaGreatDoorK
set_option linter.unusedVariables false
set_option linter.unusedSimpArgs false
set_option maxHeartbeats 16000000
set_option maxRecDepth 100000
namespace Go.Proofs.YtkglmacaecmhdaaGreatDoor
open Go Go.RowKit Tryz
theorem nil_ba {s:ByteArray} (h:s.toList=[]):s=⟨#[]⟩:=by
 apply ba_toList
 rw[h,Lib.toList_data]
theorem pos_ba {s:ByteArray} (h:¬s.toList=[]):0<s.size:=by
 rw[Lib.toList_data] at h
 cases e:s.data.toList with
 |nil=>exact absurd e h
 |cons a l=>have h2:=congrArg List.length e;simp at h2;have e2:s.size=s.data.size:=rfl;omega
theorem ok1 {x:PropV} (hk:kindOf x.id=1) (h1:x.n≤1) (h2:0<x.n∨x.id≠25) (h3:x.text.toList=[]) (h4:x.other.toList=[]):PropOK x:=by
 refine⟨by omega,fun _=>⟨h1,h2⟩,?_,?_,?_,?_,?_,?_,?_,fun _=>nil_ba h3,fun _=>nil_ba h4⟩<;>intro h<;>omega
theorem ok2 {x:PropV} (hk:kindOf x.id=2) (h1:x.n≤65535) (h2:0<x.n∨x.id=19) (h3:x.text.toList=[]) (h4:x.other.toList=[]):PropOK x:=by
 refine⟨by omega,?_,fun _=>⟨h1,h2⟩,?_,?_,?_,?_,?_,?_,fun _=>nil_ba h3,fun _=>nil_ba h4⟩<;>intro h<;>omega
theorem ok4 {x:PropV} (hk:kindOf x.id=4) (h1:x.n<4294967296) (h2:0<x.n∨x.id=17) (h3:x.text.toList=[]) (h4:x.other.toList=[]):PropOK x:=by
 refine⟨by omega,?_,?_,fun _=>⟨h1,h2⟩,?_,?_,?_,?_,?_,fun _=>nil_ba h3,fun _=>nil_ba h4⟩<;>intro h<;>omega
theorem ok5 {x:PropV} (hk:kindOf x.id=5) (h1:0<x.n) (h2:x.n<268435456) (h3:x.text.toList=[]) (h4:x.other.toList=[]):PropOK x:=by
 refine⟨by omega,?_,?_,?_,fun _=>⟨h1,h2⟩,?_,?_,?_,?_,fun _=>nil_ba h3,fun _=>nil_ba h4⟩<;>intro h<;>omega
theorem ok6 {x:PropV} (hk:kindOf x.id=6) (h1:x.n=0) (h2:TextOK x.text) (h3:¬x.text.toList=[]) (h4:x.other.toList=[]) (h5:x.id=8→NoWild x.text):PropOK x:=by
 refine⟨by omega,?_,?_,?_,?_,fun _=>⟨h2,pos_ba h3,h5⟩,?_,?_,fun _=>h1,?_,fun _=>nil_ba h4⟩<;>intro h<;>omega
theorem ok7 {x:PropV} (hk:kindOf x.id=7) (h1:x.n=0) (h2:x.text.size≤65535) (h3:¬x.text.toList=[]) (h4:x.other.toList=[]):PropOK x:=by
 refine⟨by omega,?_,?_,?_,?_,?_,fun _=>⟨pos_ba h3,h2⟩,?_,fun _=>h1,?_,fun _=>nil_ba h4⟩<;>intro h<;>omega
theorem ok8 {x:PropV} (hk:kindOf x.id=8) (h1:x.n=0) (h2:TextOK x.text) (h3:TextOK x.other):PropOK x:=by
 refine⟨by omega,?_,?_,?_,?_,?_,?_,fun _=>⟨h2,h3⟩,fun _=>h1,?_,?_⟩<;>intro h<;>omega
def properB (x:PropV):Bool:=
 if kindOf x.id=1 then decide (x.n≤1)&&(decide (0<x.n)||decide (x.id≠25))&&x.text.toList.isEmpty&&x.other.toList.isEmpty
 else if kindOf x.id=2 then decide (x.n≤65535)&&(decide (0<x.n)||decide (x.id=19))&&x.text.toList.isEmpty&&x.other.toList.isEmpty
 else if kindOf x.id=4 then(decide (0<x.n)||decide (x.id=17))&&x.text.toList.isEmpty&&x.other.toList.isEmpty
 else if kindOf x.id=5 then decide (1≤x.n)&&decide (x.n<268435456)&&x.text.toList.isEmpty&&x.other.toList.isEmpty
 else if kindOf x.id=6 then decide (x.n=0)&&textB x.text&& !x.text.toList.isEmpty&&x.other.toList.isEmpty&&(decide (x.id≠8)||topicB x.text)
 else if kindOf x.id=7 then decide (x.n=0)&& !x.text.toList.isEmpty&&decide (x.text.size≤65535)&&x.other.toList.isEmpty
 else if kindOf x.id=8 then decide (x.n=0)&&textB x.text&&textB x.other
 else false
theorem pB1 {x:PropV} (h:kindOf x.id=1):properB x=(decide (x.n≤1)&&(decide (0<x.n)||decide (x.id≠25))&&x.text.toList.isEmpty&&x.other.toList.isEmpty):=by unfold properB;simp only[h];rfl
theorem pB2 {x:PropV} (h:kindOf x.id=2):properB x=(decide (x.n≤65535)&&(decide (0<x.n)||decide (x.id=19))&&x.text.toList.isEmpty&&x.other.toList.isEmpty):=by unfold properB;simp only[h];rfl
theorem pB4 {x:PropV} (h:kindOf x.id=4):properB x=((decide (0<x.n)||decide (x.id=17))&&x.text.toList.isEmpty&&x.other.toList.isEmpty):=by unfold properB;simp only[h];rfl
theorem pB5 {x:PropV} (h:kindOf x.id=5):properB x=(decide (1≤x.n)&&decide (x.n<268435456)&&x.text.toList.isEmpty&&x.other.toList.isEmpty):=by unfold properB;simp only[h];rfl
theorem pB6 {x:PropV} (h:kindOf x.id=6):properB x=(decide (x.n=0)&&textB x.text&& !x.text.toList.isEmpty&&x.other.toList.isEmpty&&(decide (x.id≠8)||topicB x.text)):=by unfold properB;simp only[h];rfl
theorem pB7 {x:PropV} (h:kindOf x.id=7):properB x=(decide (x.n=0)&& !x.text.toList.isEmpty&&decide (x.text.size≤65535)&&x.other.toList.isEmpty):=by unfold properB;simp only[h];rfl
theorem pB8 {x:PropV} (h:kindOf x.id=8):properB x=(decide (x.n=0)&&textB x.text&&textB x.other):=by unfold properB;simp only[h];rfl
theorem pB0 {x:PropV} (h:kindOf x.id=0):properB x=false:=by unfold properB;simp only[h];rfl
theorem kindOf_le (i:Int):kindOf i≤8∧kindOf i≠3:=by
 unfold kindOf
 repeat' split
 all_goals decide
theorem properB_ok {x:PropV} (hn:x.n<4294967296) (h:properB x=true):PropOK x:=by
 obtain⟨h1,h2⟩:=kindOf_le x.id
 have hk:kindOf x.id=0∨kindOf x.id=1∨kindOf x.id=2∨kindOf x.id=4∨kindOf x.id=5∨kindOf x.id=6∨kindOf x.id=7∨kindOf x.id=8:=by omega
 rcases hk with hk|hk|hk|hk|hk|hk|hk|hk
 ·rw[pB0 hk] at h;cases h
 ·rw[pB1 hk] at h;simp only[Bool.and_eq_true,Bool.or_eq_true,decide_eq_true_eq,List.isEmpty_iff] at h;exact ok1 hk h.1.1.1 h.1.1.2 h.1.2 h.2
 ·rw[pB2 hk] at h;simp only[Bool.and_eq_true,Bool.or_eq_true,decide_eq_true_eq,List.isEmpty_iff] at h;exact ok2 hk h.1.1.1 h.1.1.2 h.1.2 h.2
 ·rw[pB4 hk] at h;simp only[Bool.and_eq_true,Bool.or_eq_true,decide_eq_true_eq,List.isEmpty_iff] at h;exact ok4 hk hn h.1.1 h.1.2 h.2
 ·rw[pB5 hk] at h;simp only[Bool.and_eq_true,Bool.or_eq_true,decide_eq_true_eq,List.isEmpty_iff] at h;exact ok5 hk h.1.1.1 h.1.1.2 h.1.2 h.2
 ·rw[pB6 hk] at h;simp only[Bool.and_eq_true,Bool.or_eq_true,Bool.not_eq_true',List.isEmpty_eq_false_iff,decide_eq_true_eq,List.isEmpty_iff] at h
  refine ok6 hk h.1.1.1.1 (textB_ok h.1.1.1.2) h.1.1.2 h.1.2 (fun h8=>?_)
  rcases h.2 with h9|h9
  ·exact absurd h8 h9
  ·exact(topicB_ok h9).2.2.2
 ·rw[pB7 hk] at h;simp only[Bool.and_eq_true,Bool.or_eq_true,Bool.not_eq_true',List.isEmpty_eq_false_iff,decide_eq_true_eq,List.isEmpty_iff] at h;exact ok7 hk h.1.1.1 h.1.2 h.1.1.2 h.2
 ·rw[pB8 hk] at h;simp only[Bool.and_eq_true,Bool.or_eq_true,decide_eq_true_eq] at h;exact ok8 hk h.1.1 (textB_ok h.1.2) (textB_ok h.2)
theorem zN2 {p:Prop} (h:p:=by
 go_wp2_with fail
 go_ret
 exact is_of rfl HB.o (by first|exact HKW.o|exact Keeps.alloc _ _)
 ):p:=h
theorem proper1_c (w:World) (x:PropV) (hk:kindOf x.id=1) (hn:x.n<4294967296) (ht:x.text.size≤140737488355328) (ho:x.other.size≤140737488355328):
 Calls prog 41 #[.agg #[.int .i64 x.id,.int .u32 (x.n:Int),.string x.text,.string x.other]] w (Is w (properB x)):=by
 have hv:=fun w=>value_c w x.id
 rw[hk] at hv
 have HV:=hH hv
 have HK:=hH hk
 have HKW:=hH (Keeps.alloc w (.cells #[.int .i64 x.id,.int .u32 (x.n:Int),.string x.text,.string x.other] 100))
 have HBK:=hH (Blk.new w 100 #[.int .i64 x.id,.int .u32 (x.n:Int),.string x.text,.string x.other])
 have T1:=hH (fun w=>text_c w x.text ht)
 have T2:=hH (fun w=>topic_c w x.text ht)
 have T3:=hH (fun w=>text_c w x.other ho)
 clear hv hk
 go_enter func41,ntmps41
 go_wp2_with fail
 go_fit (HV.o _)
 rintro e w1 ⟨rfl,rfl⟩
 by_cases c2:x.n≤1
 ·have d2:decide ((x.n:Int)≤1)=true:=decide_eq_true (by omega)
  have Q2:Hd (decide (x.n≤1)=true):=decide_eq_true c2
  clear c2
  by_cases c4:0<x.n
  ·have d4:decide ((0:Int)<(x.n:Int))=true:=decide_eq_true (by omega)
   have Q4:Hd (decide (0<x.n)=true):=decide_eq_true c4
   have p4:decide (0<x.n)=true:=decide_eq_true c4
   cases e6:x.text.toList.isEmpty
   ·have Q6:=hH e6
    have HB:Hd (false=properB x):=by show _=_;rw[pB1 HK.o,Q2.o,Q4.o,Q6.o];rfl
    clear Q2 Q4 Q6
    exact zN2
   ·have Q6:=hH e6
    cases e8:x.other.toList.isEmpty
    ·have Q8:=hH e8
     have HB:Hd (false=properB x):=by show _=_;rw[pB1 HK.o,Q2.o,Q4.o,Q6.o,Q8.o];rfl
     clear Q2 Q4 Q6 Q8
     exact zN2
    ·have Q8:=hH e8
     have HB:Hd (true=properB x):=by show _=_;rw[pB1 HK.o,Q2.o,Q4.o,Q6.o,Q8.o];rfl
     clear Q2 Q4 Q6 Q8
     exact zN2
  ·have d4:decide ((0:Int)<(x.n:Int))=false:=decide_eq_false (by omega)
   have Q4:Hd (decide (0<x.n)=false):=decide_eq_false c4
   have p4:decide (0<x.n)=false:=decide_eq_false c4
   by_cases c9:x.id=25
   ·have d9:(x.id==25)=true:=by rw[beq_iff_eq];exact c9
    have e9:(x.id !=25)=false:=by rw[bne,d9];rfl
    have Q9:Hd (decide (x.id≠25)=false):=by show _=_;simp[c9]
    clear c9
    have HB:Hd (false=properB x):=by show _=_;rw[pB1 HK.o,Q2.o,Q4.o,Q9.o];rfl
    clear Q2 Q4 Q9
    exact zN2
   ·have d9:(x.id==25)=false:=by rw[beq_eq_false_iff_ne];exact c9
    have e9:(x.id !=25)=true:=by rw[bne,d9];rfl
    have Q9:Hd (decide (x.id≠25)=true):=by show _=_;simp[c9]
    clear c9
    cases e11:x.text.toList.isEmpty
    ·have Q11:=hH e11
     have HB:Hd (false=properB x):=by show _=_;rw[pB1 HK.o,Q2.o,Q4.o,Q9.o,Q11.o];rfl
     clear Q2 Q4 Q9 Q11
     exact zN2
    ·have Q11:=hH e11
     cases e13:x.other.toList.isEmpty
     ·have Q13:=hH e13
      have HB:Hd (false=properB x):=by show _=_;rw[pB1 HK.o,Q2.o,Q4.o,Q9.o,Q11.o,Q13.o];rfl
      clear Q2 Q4 Q9 Q11 Q13
      exact zN2
     ·have Q13:=hH e13
      have HB:Hd (true=properB x):=by show _=_;rw[pB1 HK.o,Q2.o,Q4.o,Q9.o,Q11.o,Q13.o];rfl
      clear Q2 Q4 Q9 Q11 Q13
      exact zN2
 ·have d2:decide ((x.n:Int)≤1)=false:=decide_eq_false (by omega)
  have Q2:Hd (decide (x.n≤1)=false):=decide_eq_false c2
  clear c2
  have HB:Hd (false=properB x):=by show _=_;rw[pB1 HK.o,Q2.o];rfl
  clear Q2
  exact zN2
theorem proper2_c (w:World) (x:PropV) (hk:kindOf x.id=2) (hn:x.n<4294967296) (ht:x.text.size≤140737488355328) (ho:x.other.size≤140737488355328):
 Calls prog 41 #[.agg #[.int .i64 x.id,.int .u32 (x.n:Int),.string x.text,.string x.other]] w (Is w (properB x)):=by
 have hv:=fun w=>value_c w x.id
 rw[hk] at hv
 have HV:=hH hv
 have HK:=hH hk
 have HKW:=hH (Keeps.alloc w (.cells #[.int .i64 x.id,.int .u32 (x.n:Int),.string x.text,.string x.other] 100))
 have HBK:=hH (Blk.new w 100 #[.int .i64 x.id,.int .u32 (x.n:Int),.string x.text,.string x.other])
 have T1:=hH (fun w=>text_c w x.text ht)
 have T2:=hH (fun w=>topic_c w x.text ht)
 have T3:=hH (fun w=>text_c w x.other ho)
 clear hv hk
 go_enter func41,ntmps41
 go_wp2_with fail
 go_fit (HV.o _)
 rintro e w1 ⟨rfl,rfl⟩
 by_cases c15:x.n≤65535
 ·have d15:decide ((x.n:Int)≤65535)=true:=decide_eq_true (by omega)
  have Q15:Hd (decide (x.n≤65535)=true):=decide_eq_true c15
  clear c15
  by_cases c17:0<x.n
  ·have d17:decide ((0:Int)<(x.n:Int))=true:=decide_eq_true (by omega)
   have Q17:Hd (decide (0<x.n)=true):=decide_eq_true c17
   have p17:decide (0<x.n)=true:=decide_eq_true c17
   cases e19:x.text.toList.isEmpty
   ·have Q19:=hH e19
    have HB:Hd (false=properB x):=by show _=_;rw[pB2 HK.o,Q15.o,Q17.o,Q19.o];rfl
    clear Q15 Q17 Q19
    exact zN2
   ·have Q19:=hH e19
    cases e21:x.other.toList.isEmpty
    ·have Q21:=hH e21
     have HB:Hd (false=properB x):=by show _=_;rw[pB2 HK.o,Q15.o,Q17.o,Q19.o,Q21.o];rfl
     clear Q15 Q17 Q19 Q21
     exact zN2
    ·have Q21:=hH e21
     have HB:Hd (true=properB x):=by show _=_;rw[pB2 HK.o,Q15.o,Q17.o,Q19.o,Q21.o];rfl
     clear Q15 Q17 Q19 Q21
     exact zN2
  ·have d17:decide ((0:Int)<(x.n:Int))=false:=decide_eq_false (by omega)
   have Q17:Hd (decide (0<x.n)=false):=decide_eq_false c17
   have p17:decide (0<x.n)=false:=decide_eq_false c17
   by_cases c22:x.id=19
   ·have d22:(x.id==19)=true:=by rw[beq_iff_eq];exact c22
    have e22:(x.id !=19)=false:=by rw[bne,d22];rfl
    have Q22:Hd (decide (x.id=19)=true):=by show _=_;simp[c22]
    clear c22
    cases e24:x.text.toList.isEmpty
    ·have Q24:=hH e24
     have HB:Hd (false=properB x):=by show _=_;rw[pB2 HK.o,Q15.o,Q17.o,Q22.o,Q24.o];rfl
     clear Q15 Q17 Q22 Q24
     exact zN2
    ·have Q24:=hH e24
     cases e26:x.other.toList.isEmpty
     ·have Q26:=hH e26
      have HB:Hd (false=properB x):=by show _=_;rw[pB2 HK.o,Q15.o,Q17.o,Q22.o,Q24.o,Q26.o];rfl
      clear Q15 Q17 Q22 Q24 Q26
      exact zN2
     ·have Q26:=hH e26
      have HB:Hd (true=properB x):=by show _=_;rw[pB2 HK.o,Q15.o,Q17.o,Q22.o,Q24.o,Q26.o];rfl
      clear Q15 Q17 Q22 Q24 Q26
      exact zN2
   ·have d22:(x.id==19)=false:=by rw[beq_eq_false_iff_ne];exact c22
    have e22:(x.id !=19)=true:=by rw[bne,d22];rfl
    have Q22:Hd (decide (x.id=19)=false):=by show _=_;simp[c22]
    clear c22
    have HB:Hd (false=properB x):=by show _=_;rw[pB2 HK.o,Q15.o,Q17.o,Q22.o];rfl
    clear Q15 Q17 Q22
    exact zN2
 ·have d15:decide ((x.n:Int)≤65535)=false:=decide_eq_false (by omega)
  have Q15:Hd (decide (x.n≤65535)=false):=decide_eq_false c15
  clear c15
  have HB:Hd (false=properB x):=by show _=_;rw[pB2 HK.o,Q15.o];rfl
  clear Q15
  exact zN2
theorem proper4_c (w:World) (x:PropV) (hk:kindOf x.id=4) (hn:x.n<4294967296) (ht:x.text.size≤140737488355328) (ho:x.other.size≤140737488355328):
 Calls prog 41 #[.agg #[.int .i64 x.id,.int .u32 (x.n:Int),.string x.text,.string x.other]] w (Is w (properB x)):=by
 have hv:=fun w=>value_c w x.id
 rw[hk] at hv
 have HV:=hH hv
 have HK:=hH hk
 have HKW:=hH (Keeps.alloc w (.cells #[.int .i64 x.id,.int .u32 (x.n:Int),.string x.text,.string x.other] 100))
 have HBK:=hH (Blk.new w 100 #[.int .i64 x.id,.int .u32 (x.n:Int),.string x.text,.string x.other])
 have T1:=hH (fun w=>text_c w x.text ht)
 have T2:=hH (fun w=>topic_c w x.text ht)
 have T3:=hH (fun w=>text_c w x.other ho)
 clear hv hk
 go_enter func41,ntmps41
 go_wp2_with fail
 go_fit (HV.o _)
 rintro e w1 ⟨rfl,rfl⟩
 by_cases c28:0<x.n
 ·have d28:decide ((0:Int)<(x.n:Int))=true:=decide_eq_true (by omega)
  have Q28:Hd (decide (0<x.n)=true):=decide_eq_true c28
  have p28:decide (0<x.n)=true:=decide_eq_true c28
  cases e30:x.text.toList.isEmpty
  ·have Q30:=hH e30
   have HB:Hd (false=properB x):=by show _=_;rw[pB4 HK.o,Q28.o,Q30.o];rfl
   clear Q28 Q30
   exact zN2
  ·have Q30:=hH e30
   cases e32:x.other.toList.isEmpty
   ·have Q32:=hH e32
    have HB:Hd (false=properB x):=by show _=_;rw[pB4 HK.o,Q28.o,Q30.o,Q32.o];rfl
    clear Q28 Q30 Q32
    exact zN2
   ·have Q32:=hH e32
    have HB:Hd (true=properB x):=by show _=_;rw[pB4 HK.o,Q28.o,Q30.o,Q32.o];rfl
    clear Q28 Q30 Q32
    exact zN2
 ·have d28:decide ((0:Int)<(x.n:Int))=false:=decide_eq_false (by omega)
  have Q28:Hd (decide (0<x.n)=false):=decide_eq_false c28
  have p28:decide (0<x.n)=false:=decide_eq_false c28
  by_cases c33:x.id=17
  ·have d33:(x.id==17)=true:=by rw[beq_iff_eq];exact c33
   have e33:(x.id !=17)=false:=by rw[bne,d33];rfl
   have Q33:Hd (decide (x.id=17)=true):=by show _=_;simp[c33]
   clear c33
   cases e35:x.text.toList.isEmpty
   ·have Q35:=hH e35
    have HB:Hd (false=properB x):=by show _=_;rw[pB4 HK.o,Q28.o,Q33.o,Q35.o];rfl
    clear Q28 Q33 Q35
    exact zN2
   ·have Q35:=hH e35
    cases e37:x.other.toList.isEmpty
    ·have Q37:=hH e37
     have HB:Hd (false=properB x):=by show _=_;rw[pB4 HK.o,Q28.o,Q33.o,Q35.o,Q37.o];rfl
     clear Q28 Q33 Q35 Q37
     exact zN2
    ·have Q37:=hH e37
     have HB:Hd (true=properB x):=by show _=_;rw[pB4 HK.o,Q28.o,Q33.o,Q35.o,Q37.o];rfl
     clear Q28 Q33 Q35 Q37
     exact zN2
  ·have d33:(x.id==17)=false:=by rw[beq_eq_false_iff_ne];exact c33
   have e33:(x.id !=17)=true:=by rw[bne,d33];rfl
   have Q33:Hd (decide (x.id=17)=false):=by show _=_;simp[c33]
   clear c33
   have HB:Hd (false=properB x):=by show _=_;rw[pB4 HK.o,Q28.o,Q33.o];rfl
   clear Q28 Q33
   exact zN2
theorem proper5_c (w:World) (x:PropV) (hk:kindOf x.id=5) (hn:x.n<4294967296) (ht:x.text.size≤140737488355328) (ho:x.other.size≤140737488355328):
 Calls prog 41 #[.agg #[.int .i64 x.id,.int .u32 (x.n:Int),.string x.text,.string x.other]] w (Is w (properB x)):=by
 have hv:=fun w=>value_c w x.id
 rw[hk] at hv
 have HV:=hH hv
 have HK:=hH hk
 have HKW:=hH (Keeps.alloc w (.cells #[.int .i64 x.id,.int .u32 (x.n:Int),.string x.text,.string x.other] 100))
 have HBK:=hH (Blk.new w 100 #[.int .i64 x.id,.int .u32 (x.n:Int),.string x.text,.string x.other])
 have T1:=hH (fun w=>text_c w x.text ht)
 have T2:=hH (fun w=>topic_c w x.text ht)
 have T3:=hH (fun w=>text_c w x.other ho)
 clear hv hk
 go_enter func41,ntmps41
 go_wp2_with fail
 go_fit (HV.o _)
 rintro e w1 ⟨rfl,rfl⟩
 by_cases c39:1≤x.n
 ·have d39:decide ((1:Int)≤(x.n:Int))=true:=decide_eq_true (by omega)
  have Q39:Hd (decide (1≤x.n)=true):=decide_eq_true c39
  clear c39
  by_cases c41:x.n<268435456
  ·have d41:decide ((x.n:Int)<268435456)=true:=decide_eq_true (by omega)
   have Q41:Hd (decide (x.n<268435456)=true):=decide_eq_true c41
   clear c41
   cases e43:x.text.toList.isEmpty
   ·have Q43:=hH e43
    have HB:Hd (false=properB x):=by show _=_;rw[pB5 HK.o,Q39.o,Q41.o,Q43.o];rfl
    clear Q39 Q41 Q43
    exact zN2
   ·have Q43:=hH e43
    cases e45:x.other.toList.isEmpty
    ·have Q45:=hH e45
     have HB:Hd (false=properB x):=by show _=_;rw[pB5 HK.o,Q39.o,Q41.o,Q43.o,Q45.o];rfl
     clear Q39 Q41 Q43 Q45
     exact zN2
    ·have Q45:=hH e45
     have HB:Hd (true=properB x):=by show _=_;rw[pB5 HK.o,Q39.o,Q41.o,Q43.o,Q45.o];rfl
     clear Q39 Q41 Q43 Q45
     exact zN2
  ·have d41:decide ((x.n:Int)<268435456)=false:=decide_eq_false (by omega)
   have Q41:Hd (decide (x.n<268435456)=false):=decide_eq_false c41
   clear c41
   have HB:Hd (false=properB x):=by show _=_;rw[pB5 HK.o,Q39.o,Q41.o];rfl
   clear Q39 Q41
   exact zN2
 ·have d39:decide ((1:Int)≤(x.n:Int))=false:=decide_eq_false (by omega)
  have Q39:Hd (decide (1≤x.n)=false):=decide_eq_false c39
  clear c39
  have HB:Hd (false=properB x):=by show _=_;rw[pB5 HK.o,Q39.o];rfl
  clear Q39
  exact zN2
theorem proper6_c (w:World) (x:PropV) (hk:kindOf x.id=6) (hn:x.n<4294967296) (ht:x.text.size≤140737488355328) (ho:x.other.size≤140737488355328):
 Calls prog 41 #[.agg #[.int .i64 x.id,.int .u32 (x.n:Int),.string x.text,.string x.other]] w (Is w (properB x)):=by
 have hv:=fun w=>value_c w x.id
 rw[hk] at hv
 have HV:=hH hv
 have HK:=hH hk
 have HKW:=hH (Keeps.alloc w (.cells #[.int .i64 x.id,.int .u32 (x.n:Int),.string x.text,.string x.other] 100))
 have HBK:=hH (Blk.new w 100 #[.int .i64 x.id,.int .u32 (x.n:Int),.string x.text,.string x.other])
 have T1:=hH (fun w=>text_c w x.text ht)
 have T2:=hH (fun w=>topic_c w x.text ht)
 have T3:=hH (fun w=>text_c w x.other ho)
 clear hv hk
 go_enter func41,ntmps41
 go_wp2_with fail
 go_fit (HV.o _)
 rintro e w1 ⟨rfl,rfl⟩
 by_cases c47:x.n=0
 ·have d47:decide ((x.n:Int)=0)=true:=decide_eq_true (by omega)
  have f47:((x.n:Int)==0)=true:=by simp;omega
  have Q47:Hd (decide (x.n=0)=true):=decide_eq_true c47
  clear c47
  go_wp2_with fail
  go_fit (T1.o _)
  rintro e w49 ⟨rfl,hk49⟩
  have HKW:=hH (HKW.o.trans hk49 (by simp))
  have HBK:=hH (HBK.o.keep hk49 (by simp))
  clear hk49
  have c49_0:w49.cell? ⟨w.heap.size,0,none⟩=some (.int .i64 x.id):=by rw[HBK.o.cell];rfl
  have c49_2:w49.cell? ⟨w.heap.size,2,none⟩=some (.string x.text):=by rw[HBK.o.cell];rfl
  have c49_3:w49.cell? ⟨w.heap.size,3,none⟩=some (.string x.other):=by rw[HBK.o.cell];rfl
  cases e49:textB x.text
  ·have Q49:=hH e49
   clear e49
   have HB:Hd (false=properB x):=by show _=_;rw[pB6 HK.o,Q47.o,Q49.o];rfl
   clear Q47 Q49
   exact zN2
  ·have Q49:=hH e49
   clear e49
   cases e51:x.text.toList.isEmpty
   ·have Q51:=hH e51
    have f51:(!x.text.toList.isEmpty)=true:=by rw[e51];rfl
    cases e53:x.other.toList.isEmpty
    ·have Q53:=hH e53
     have HB:Hd (false=properB x):=by show _=_;rw[pB6 HK.o,Q47.o,Q49.o,Q51.o,Q53.o];rfl
     clear Q47 Q49 Q51 Q53
     exact zN2
    ·have Q53:=hH e53
     by_cases c55:x.id=8
     ·have d55:(x.id==8)=true:=by rw[beq_iff_eq];exact c55
      have e55:(x.id !=8)=false:=by rw[bne,d55];rfl
      have Q55:Hd (decide (x.id≠8)=false):=by show _=_;simp[c55]
      clear c55
      go_wp2_with fail
      go_fit (T2.o _)
      rintro e w56 ⟨rfl,hk56⟩
      have HKW:=hH (HKW.o.trans hk56 (by simp))
      have HBK:=hH (HBK.o.keep hk56 (by simp))
      clear hk56
      have c56_0:w56.cell? ⟨w.heap.size,0,none⟩=some (.int .i64 x.id):=by rw[HBK.o.cell];rfl
      have c56_2:w56.cell? ⟨w.heap.size,2,none⟩=some (.string x.text):=by rw[HBK.o.cell];rfl
      have c56_3:w56.cell? ⟨w.heap.size,3,none⟩=some (.string x.other):=by rw[HBK.o.cell];rfl
      cases e56:topicB x.text
      ·have Q56:=hH e56
       clear e56
       have HB:Hd (false=properB x):=by show _=_;rw[pB6 HK.o,Q47.o,Q49.o,Q51.o,Q53.o,Q55.o,Q56.o];rfl
       clear Q47 Q49 Q51 Q53 Q55 Q56
       exact zN2
      ·have Q56:=hH e56
       clear e56
       have HB:Hd (true=properB x):=by show _=_;rw[pB6 HK.o,Q47.o,Q49.o,Q51.o,Q53.o,Q55.o,Q56.o];rfl
       clear Q47 Q49 Q51 Q53 Q55 Q56
       exact zN2
     ·have d55:(x.id==8)=false:=by rw[beq_eq_false_iff_ne];exact c55
      have e55:(x.id !=8)=true:=by rw[bne,d55];rfl
      have Q55:Hd (decide (x.id≠8)=true):=by show _=_;simp[c55]
      clear c55
      have HB:Hd (true=properB x):=by show _=_;rw[pB6 HK.o,Q47.o,Q49.o,Q51.o,Q53.o,Q55.o];rfl
      clear Q47 Q49 Q51 Q53 Q55
      exact zN2
   ·have Q51:=hH e51
    have f51:(!x.text.toList.isEmpty)=false:=by rw[e51];rfl
    have HB:Hd (false=properB x):=by show _=_;rw[pB6 HK.o,Q47.o,Q49.o,Q51.o];rfl
    clear Q47 Q49 Q51
    exact zN2
 ·have d47:decide ((x.n:Int)=0)=false:=decide_eq_false (by omega)
  have f47:((x.n:Int)==0)=false:=by rw[beq_eq_false_iff_ne];omega
  have Q47:Hd (decide (x.n=0)=false):=decide_eq_false c47
  clear c47
  have HB:Hd (false=properB x):=by show _=_;rw[pB6 HK.o,Q47.o];rfl
  clear Q47
  exact zN2
theorem proper7_c (w:World) (x:PropV) (hk:kindOf x.id=7) (hn:x.n<4294967296) (ht:x.text.size≤140737488355328) (ho:x.other.size≤140737488355328):
 Calls prog 41 #[.agg #[.int .i64 x.id,.int .u32 (x.n:Int),.string x.text,.string x.other]] w (Is w (properB x)):=by
 have hv:=fun w=>value_c w x.id
 rw[hk] at hv
 have HV:=hH hv
 have HK:=hH hk
 have HKW:=hH (Keeps.alloc w (.cells #[.int .i64 x.id,.int .u32 (x.n:Int),.string x.text,.string x.other] 100))
 have HBK:=hH (Blk.new w 100 #[.int .i64 x.id,.int .u32 (x.n:Int),.string x.text,.string x.other])
 have T1:=hH (fun w=>text_c w x.text ht)
 have T2:=hH (fun w=>topic_c w x.text ht)
 have T3:=hH (fun w=>text_c w x.other ho)
 clear hv hk
 go_enter func41,ntmps41
 go_wp2_with fail
 go_fit (HV.o _)
 rintro e w1 ⟨rfl,rfl⟩
 by_cases c58:x.n=0
 ·have d58:decide ((x.n:Int)=0)=true:=decide_eq_true (by omega)
  have f58:((x.n:Int)==0)=true:=by simp;omega
  have Q58:Hd (decide (x.n=0)=true):=decide_eq_true c58
  clear c58
  cases e60:x.text.toList.isEmpty
  ·have Q60:=hH e60
   have f60:(!x.text.toList.isEmpty)=true:=by rw[e60];rfl
   by_cases c62:x.text.size≤65535
   ·have d62:decide ((x.text.size:Int)≤65535)=true:=decide_eq_true (by omega)
    have Q62:Hd (decide (x.text.size≤65535)=true):=decide_eq_true c62
    clear c62
    cases e64:x.other.toList.isEmpty
    ·have Q64:=hH e64
     have HB:Hd (false=properB x):=by show _=_;rw[pB7 HK.o,Q58.o,Q60.o,Q62.o,Q64.o];rfl
     clear Q58 Q60 Q62 Q64
     exact zN2
    ·have Q64:=hH e64
     have HB:Hd (true=properB x):=by show _=_;rw[pB7 HK.o,Q58.o,Q60.o,Q62.o,Q64.o];rfl
     clear Q58 Q60 Q62 Q64
     exact zN2
   ·have d62:decide ((x.text.size:Int)≤65535)=false:=decide_eq_false (by omega)
    have Q62:Hd (decide (x.text.size≤65535)=false):=decide_eq_false c62
    clear c62
    have HB:Hd (false=properB x):=by show _=_;rw[pB7 HK.o,Q58.o,Q60.o,Q62.o];rfl
    clear Q58 Q60 Q62
    exact zN2
  ·have Q60:=hH e60
   have f60:(!x.text.toList.isEmpty)=false:=by rw[e60];rfl
   have HB:Hd (false=properB x):=by show _=_;rw[pB7 HK.o,Q58.o,Q60.o];rfl
   clear Q58 Q60
   exact zN2
 ·have d58:decide ((x.n:Int)=0)=false:=decide_eq_false (by omega)
  have f58:((x.n:Int)==0)=false:=by rw[beq_eq_false_iff_ne];omega
  have Q58:Hd (decide (x.n=0)=false):=decide_eq_false c58
  clear c58
  have HB:Hd (false=properB x):=by show _=_;rw[pB7 HK.o,Q58.o];rfl
  clear Q58
  exact zN2
theorem proper8_c (w:World) (x:PropV) (hk:kindOf x.id=8) (hn:x.n<4294967296) (ht:x.text.size≤140737488355328) (ho:x.other.size≤140737488355328):
 Calls prog 41 #[.agg #[.int .i64 x.id,.int .u32 (x.n:Int),.string x.text,.string x.other]] w (Is w (properB x)):=by
 have hv:=fun w=>value_c w x.id
 rw[hk] at hv
 have HV:=hH hv
 have HK:=hH hk
 have HKW:=hH (Keeps.alloc w (.cells #[.int .i64 x.id,.int .u32 (x.n:Int),.string x.text,.string x.other] 100))
 have HBK:=hH (Blk.new w 100 #[.int .i64 x.id,.int .u32 (x.n:Int),.string x.text,.string x.other])
 have T1:=hH (fun w=>text_c w x.text ht)
 have T2:=hH (fun w=>topic_c w x.text ht)
 have T3:=hH (fun w=>text_c w x.other ho)
 clear hv hk
 go_enter func41,ntmps41
 go_wp2_with fail
 go_fit (HV.o _)
 rintro e w1 ⟨rfl,rfl⟩
 by_cases c66:x.n=0
 ·have d66:decide ((x.n:Int)=0)=true:=decide_eq_true (by omega)
  have f66:((x.n:Int)==0)=true:=by simp;omega
  have Q66:Hd (decide (x.n=0)=true):=decide_eq_true c66
  clear c66
  go_wp2_with fail
  go_fit (T1.o _)
  rintro e w68 ⟨rfl,hk68⟩
  have HKW:=hH (HKW.o.trans hk68 (by simp))
  have HBK:=hH (HBK.o.keep hk68 (by simp))
  clear hk68
  have c68_0:w68.cell? ⟨w.heap.size,0,none⟩=some (.int .i64 x.id):=by rw[HBK.o.cell];rfl
  have c68_2:w68.cell? ⟨w.heap.size,2,none⟩=some (.string x.text):=by rw[HBK.o.cell];rfl
  have c68_3:w68.cell? ⟨w.heap.size,3,none⟩=some (.string x.other):=by rw[HBK.o.cell];rfl
  cases e68:textB x.text
  ·have Q68:=hH e68
   clear e68
   have HB:Hd (false=properB x):=by show _=_;rw[pB8 HK.o,Q66.o,Q68.o];rfl
   clear Q66 Q68
   exact zN2
  ·have Q68:=hH e68
   clear e68
   go_wp2_with fail
   go_fit (T3.o _)
   rintro e w70 ⟨rfl,hk70⟩
   have HKW:=hH (HKW.o.trans hk70 (by simp))
   have HBK:=hH (HBK.o.keep hk70 (by simp))
   clear hk70
   have c70_0:w70.cell? ⟨w.heap.size,0,none⟩=some (.int .i64 x.id):=by rw[HBK.o.cell];rfl
   have c70_2:w70.cell? ⟨w.heap.size,2,none⟩=some (.string x.text):=by rw[HBK.o.cell];rfl
   have c70_3:w70.cell? ⟨w.heap.size,3,none⟩=some (.string x.other):=by rw[HBK.o.cell];rfl
   cases e70:textB x.other
   ·have Q70:=hH e70
    clear e70
    have HB:Hd (false=properB x):=by show _=_;rw[pB8 HK.o,Q66.o,Q68.o,Q70.o];rfl
    clear Q66 Q68 Q70
    exact zN2
   ·have Q70:=hH e70
    clear e70
    have HB:Hd (true=properB x):=by show _=_;rw[pB8 HK.o,Q66.o,Q68.o,Q70.o];rfl
    clear Q66 Q68 Q70
    exact zN2
 ·have d66:decide ((x.n:Int)=0)=false:=decide_eq_false (by omega)
  have f66:((x.n:Int)==0)=false:=by rw[beq_eq_false_iff_ne];omega
  have Q66:Hd (decide (x.n=0)=false):=decide_eq_false c66
  clear c66
  have HB:Hd (false=properB x):=by show _=_;rw[pB8 HK.o,Q66.o];rfl
  clear Q66
  exact zN2
theorem proper0_c (w:World) (x:PropV) (hk:kindOf x.id=0):
 Calls prog 41 #[.agg #[.int .i64 x.id,.int .u32 (x.n:Int),.string x.text,.string x.other]] w (Is w (properB x)):=by
 have hv:=fun w=>value_c w x.id
 rw[hk] at hv
 have HV:=hH hv
 have HK:=hH hk
 clear hv hk
 go_enter func41,ntmps41
 go_wp2_with fail
 go_fit (HV.o _)
 rintro e w1 ⟨rfl,rfl⟩
 go_wp2_with fail
 go_ret
 exact is_of rfl (pB0 HK.o).symm (Keeps.alloc _ _)
theorem proper_c (w:World) (x:PropV) (hn:x.n<4294967296) (ht:x.text.size≤140737488355328) (ho:x.other.size≤140737488355328):
 Calls prog 41 #[.agg #[.int .i64 x.id,.int .u32 (x.n:Int),.string x.text,.string x.other]] w (Is w (properB x)):=by
 obtain⟨h1,h2⟩:=kindOf_le x.id
 have h:kindOf x.id=0∨kindOf x.id=1∨kindOf x.id=2∨kindOf x.id=4∨kindOf x.id=5∨kindOf x.id=6∨kindOf x.id=7∨kindOf x.id=8:=by omega
 rcases h with h|h|h|h|h|h|h|h
 ·exact proper0_c w x h
 ·exact proper1_c w x h hn ht ho
 ·exact proper2_c w x h hn ht ho
 ·exact proper4_c w x h hn ht ho
 ·exact proper5_c w x h hn ht ho
 ·exact proper6_c w x h hn ht ho
 ·exact proper7_c w x h hn ht ho
 ·exact proper8_c w x h hn ht ho
structure PLim (x:PropV):Prop where
 n:x.n<4294967296
 t:x.text.size≤140737488355328
 o:x.other.size≤140737488355328
theorem ordR_trans {kind:Int} {x y z:PropV} (h:ordR kind x y) (k:ordR kind y z):ordR kind x z:=by
 unfold ordR at*
 omega
theorem pw_snoc {kind:Int} {l:List PropV} {p x:PropV} (h:(l++[p]).Pairwise (ordR kind)) (hx:ordR kind p x):(l++[p]++[x]).Pairwise (ordR kind):=by
 rw[List.pairwise_append]
 refine⟨h,by simp,?_⟩
 intro a ha b hb
 simp at hb
 subst hb
 rcases List.mem_append.1 ha with ha|ha
 ·rw[List.pairwise_append] at h
  exact ordR_trans (h.2.2 a ha p (by simp)) hx
 ·simp at ha;subst ha;exact hx
structure PLk (kind:Int) (l:List PropV):Prop where
 ok:∀x∈l,PropOK x
 al:∀x∈l,alB kind x.id=true
 ord:l.Pairwise (ordR kind)
theorem PLk.nil_ {kind:Int} {l:List PropV}:PLk kind (l.take 0):=⟨by simp,by simp,by simp⟩
theorem PLk.one {kind:Int} {l:List PropV} {x:PropV} (hx:l[0]?=some x) (ha:alB kind x.id=true) (hp:PropOK x):PLk kind (l.take 1):=by
 cases l with
 |nil=>simp at hx
 |cons a l=>simp at hx;subst hx;exact⟨by simpa using hp,by simpa using ha,by simp⟩
theorem PLk.snoc {kind:Int} {l:List PropV} {p x:PropV} {j:Nat} (h:PLk kind (l.take (j+1))) (hp:l[j]?=some p) (hx:l[j+1]?=some x) (ha:alB kind x.id=true) (hpx:PropOK x) (ho:ordR kind p x):PLk kind (l.take (j+2)):=by
 have e1:l.take (j+1)=l.take j++[p]:=by rw[List.take_add_one,hp];rfl
 have e2:l.take (j+2)=l.take j++[p]++[x]:=by rw[List.take_add_one,hx,e1];rfl
 obtain⟨h1,h2,h3⟩:=h
 rw[e2]
 rw[e1] at h1 h2 h3
 refine⟨?_,?_,pw_snoc h3 ho⟩
 ·intro y hy
  rcases List.mem_append.1 hy with hy|hy
  ·exact h1 y hy
  ·simp at hy;subst hy;exact hpx
 ·intro y hy
  rcases List.mem_append.1 hy with hy|hy
  ·exact h2 y hy
  ·simp at hy;subst hy;exact ha
def ordB (kind:Int) (p x:PropV):Bool:= !(decide (x.id<p.id)||(decide (p.id=x.id)&&decide (x.id≠38)&&(decide (x.id≠11)||decide (kind≠3))))
def stepB (kind:Int) (l:List PropV) (k:Nat):Bool:=
 match l[k]? with
 |none=>true
 |some x=>alB kind x.id&&properB x&&(match k with
  |0=>true
  |j+1=>match l[j]? with
   |none=>true
   |some p=>ordB kind p x)
def plB (kind:Int) (l:List PropV):Bool:=(List.range l.length).all (stepB kind l)&&decide (l.length≤20)
theorem plB_no {kind:Int} {l:List PropV} {k:Nat} (hk:k<l.length) (h:stepB kind l k=false):plB kind l=false:=by
 have:(List.range l.length).all (stepB kind l)=false:=by
  rw[Bool.eq_false_iff]
  intro h2
  rw[List.all_eq_true] at h2
  have:=h2 k (List.mem_range.2 hk)
  rw[h] at this;cases this
 unfold plB;rw[this];rfl
theorem plB_end {kind:Int} {l:List PropV} (h:∀i,i<l.length→stepB kind l i=true):plB kind l=decide (l.length≤20):=by
 have:(List.range l.length).all (stepB kind l)=true:=by
  rw[List.all_eq_true]
  exact fun i hi=>h i (List.mem_range.1 hi)
 unfold plB;rw[this];rfl
theorem ordB_ok {kind:Int} {p x:PropV} (h:ordB kind p x=true):ordR kind p x:=by
 unfold ordB at h
 simp only[Bool.not_eq_true',Bool.or_eq_false_iff,Bool.and_eq_false_iff,decide_eq_false_iff_not] at h
 unfold ordR
 omega
theorem plB_ok {kind:Int} {l:List PropV} (hn:∀x∈l,x.n<4294967296) (h:plB kind l=true):ProperL kind l:=by
 unfold plB at h
 rw[Bool.and_eq_true,decide_eq_true_eq,List.all_eq_true] at h
 have hk:∀k,k≤l.length→PLk kind (l.take k):=by
  intro k
  induction k with
  |zero=>exact fun _=>PLk.nil_
  |succ k ih=>
   intro hk
   have h1:=h.1 k (List.mem_range.2 hk)
   have hx:l[k]?=some l[k]:=List.getElem?_eq_getElem hk
   have hnx:=hn _ (List.getElem_mem hk)
   unfold stepB at h1
   rw[hx] at h1
   rcases k with _|j
   ·simp only[Bool.and_true,Bool.and_eq_true] at h1
    exact PLk.one hx h1.1 (properB_ok hnx h1.2)
   ·have hp:l[j]?=some l[j]:=List.getElem?_eq_getElem (by omega)
    simp only[hp,Bool.and_eq_true] at h1
    exact PLk.snoc (ih (by omega)) hp hx h1.1.1 (properB_ok hnx h1.1.2) (ordB_ok h1.2)
 have h2:=hk l.length (Nat.le_refl _)
 rw[List.take_length] at h2
 exact⟨h.2,h2.ok,h2.al,h2.ord⟩
def LPRel (kind:Int) (w:World) (l:List PropV) (gk:Nat) (i:Value) (wr:World):Prop:=∃k,i=.int .i64 ((k:Nat):Int)∧k≤l.length∧l.length<gk+k∧(∀i,i<k→stepB kind l i=true)∧Keeps [] w wr
theorem step_more {kind:Int} {l:List PropV} {k:Nat} (h:∀i,i<k→stepB kind l i=true) (hk:stepB kind l k=true):∀i,i<k+1→stepB kind l i=true:=fun i hi=>by
 rcases Nat.lt_or_ge i k with h1|h1
 ·exact h i h1
 ·obtain rfl:i=k:=by omega
  exact hk
theorem zN0 {p:Prop} (h:p:=by
 have hS:∀w',Keeps [] W w'→(w'.cell? ⟨nb,0,none⟩=some (.int .i64 x.id)∧w'.cell? ⟨nb,1,none⟩=some (.int .u32 (x.n:Int))∧w'.cell? ⟨nb,2,none⟩=some (.string x.text)∧w'.cell? ⟨nb,3,none⟩=some (.string x.other)∧w'.cell? ⟨ba,oa+j*4,none⟩=some (.int .i64 p.id)∧Keeps [] W w'):=fun w' k=>⟨(by rw[(HNB.o.keep k (by simp)).cell];rfl),(by rw[(HNB.o.keep k (by simp)).cell];rfl),(by rw[(HNB.o.keep k (by simp)).cell];rfl),(by rw[(HNB.o.keep k (by simp)).cell];rfl),hprev _ (HAL.o.trans k (by simp)),k⟩
 refine tkSt hS (Keeps.drew _) (by kernel_rfl) fun hHeld=>?_
 simp only[s4,s5,Nat.reduceAdd,s6,s7]
 repeat((first|refine tkx ?_|refine tku ?_);simp only[setN,Act.put,s1,s2,s3])
 refine tkc fun K hK=>?_
 go_simp
 refine(AL.o _).mono ?_
 rintro e w1 ⟨rfl,hq1⟩
 have hkk1:=Keeps.trans (by go_split_ands;assumption:Keeps [] W _) hq1 (by simp)
 clear hHeld
 refine hK.out _ _ (hS _ hkk1) (fun hHeld=>?_)
 clear hK K
 simp only[setN,Act.put,s1,s2,s3]
 repeat((first|refine tkx ?_|refine tku ?_);simp only[setN,Act.put,s1,s2,s3])
 refine tkc fun K hK=>?_
 go_simp
 refine(PR.o _).mono ?_
 rintro e w2 ⟨rfl,hq2⟩
 have hkk2:=Keeps.trans (by go_split_ands;assumption:Keeps [] W _) hq2 (by simp)
 clear hHeld
 refine hK.out _ _ (hS _ hkk2) (fun hHeld=>?_)
 clear hK K
 simp only[setN,Act.put,s1,s2,s3]
 repeat((first|refine tkx ?_|refine tku ?_);simp only[setN,Act.put,s1,s2,s3])
 refine tkDone (by kernel_rfl) ?_
 go_split_ands
 go_wp2_with fail
 go_roundg g'
 case measure=>omega
 case rel=>exact⟨(j+1)+1,by go_num,by omega,by omega,step_more HTK.o HB.o,HKV.o _ (by assumption)⟩
 ):p:=h
theorem zN4 {p:Prop} (h:p:=by
 clear hK K
 simp only[setN,Act.put,s1,s2,s3]
 repeat((first|refine tkx ?_|refine tku ?_);simp only[setN,Act.put,s1,s2,s3])
 refine tkDone (by kernel_rfl) ?_
 go_split_ands
 go_wp2_with fail
 go_ret
 exact is_of rfl (plB_no (by omega) HB.o).symm (HKV.o _ (by assumption))
 ):p:=h
theorem zN1 {p:Prop} (h:p:=by
 refine tkSt hS (Keeps.drew _) (by kernel_rfl) fun hHeld=>?_
 simp only[s4,s5,Nat.reduceAdd,s6,s7]
 repeat((first|refine tkx ?_|refine tku ?_);simp only[setN,Act.put,s1,s2,s3])
 refine tkc fun K hK=>?_
 go_simp
 refine(AL.o _).mono ?_
 rintro e w1 ⟨rfl,hq1⟩
 have hkk1:=Keeps.trans (by go_split_ands;assumption:Keeps [] W _) hq1 (by simp)
 clear hHeld
 refine hK.out _ _ (hS _ hkk1) (fun hHeld=>?_)
 clear hK K
 simp only[setN,Act.put,s1,s2,s3]
 repeat((first|refine tkx ?_|refine tku ?_);simp only[setN,Act.put,s1,s2,s3])
 refine tkc fun K hK=>?_
 go_simp
 refine(PR.o _).mono ?_
 rintro e w2 ⟨rfl,hq2⟩
 have hkk2:=Keeps.trans (by go_split_ands;assumption:Keeps [] W _) hq2 (by simp)
 clear hHeld
 refine hK.out _ _ (hS _ hkk2) (fun hHeld=>?_)
 exact zN4
 ):p:=h
theorem zN3 {p:Prop} (h:p:=by
 have hS:∀w',Keeps [] W w'→(w'.cell? ⟨nb,0,none⟩=some (.int .i64 x.id)∧w'.cell? ⟨nb,1,none⟩=some (.int .u32 (x.n:Int))∧w'.cell? ⟨nb,2,none⟩=some (.string x.text)∧w'.cell? ⟨nb,3,none⟩=some (.string x.other)∧w'.cell? ⟨ba,oa+j*4,none⟩=some (.int .i64 p.id)∧Keeps [] W w'):=fun w' k=>⟨(by rw[(HNB.o.keep k (by simp)).cell];rfl),(by rw[(HNB.o.keep k (by simp)).cell];rfl),(by rw[(HNB.o.keep k (by simp)).cell];rfl),(by rw[(HNB.o.keep k (by simp)).cell];rfl),hprev _ (HAL.o.trans k (by simp)),k⟩
 exact zN1
 ):p:=h
theorem properList_c (N:Nat→Prop) (w:World) (kind:Int) (va:Value) (l:List PropV) (ha:PropsAt N w va l) (hla:l.length≤140737488355328) (hlim:∀x∈l,PLim x):
 Calls prog 18 #[.int .i64 kind,va] w (Is w (plB kind l)):=by
 obtain⟨A,ca,rfl,hra,hca,hA⟩:=ha
 have HRA:=hH hra
 have HLIM:=hH hlim
 clear hra hA hlim
 go_enter func18,ntmps18
 go_wp2_with fail
 go_loopg [9] (l.length+1) (fun gk i wr=>LPRel kind w l gk i wr)
 case atStart=>exact⟨0,rfl,by omega,by omega,by omega,Keeps.refl _ _⟩
 case round=>
  obtain⟨k,rfl,hk,hgk,htk,hkw⟩:=hrel
  have HTK:=hH htk
  have HKW:=hH hkw
  clear htk hkw
  by_cases hlt:k<l.length
  ·obtain⟨g',rfl⟩:∃g',gk=g'+1:=⟨gk-1,by omega⟩
   have hltz:(k:Int)<(l.length:Int):=by omega
   obtain⟨ba,oa,rfl,hcl⟩:=HRA.o.2 (by omega)
   obtain⟨x,hx⟩:∃x,l[k]=x:=⟨_,rfl⟩
   have hxk:l[k]?=some x:=by rw[List.getElem?_eq_getElem hlt,hx]
   have fx:=flat4_get l k x hxk
   have HX:=hH hxk
   have LX:=hH (HLIM.o x (List.mem_of_getElem? hxk))
   have x0:wr.cell? ⟨ba,oa+k*4,none⟩=some (.int .i64 x.id):=HKW.o.some_ (hcl _ _ (fx 0 (by omega))) (by simp)
   have x1:wr.cell? ⟨ba,oa+k*4+1,none⟩=some (.int .u32 (x.n:Int)):=HKW.o.some_ (by rw[Nat.add_assoc];exact hcl _ _ (fx 1 (by omega))) (by simp)
   have x2:wr.cell? ⟨ba,oa+k*4+2,none⟩=some (.string x.text):=HKW.o.some_ (by rw[Nat.add_assoc];exact hcl _ _ (fx 2 (by omega))) (by simp)
   have x3:wr.cell? ⟨ba,oa+k*4+3,none⟩=some (.string x.other):=HKW.o.some_ (by rw[Nat.add_assoc];exact hcl _ _ (fx 3 (by omega))) (by simp)
   have AL:=hH (fun w=>allowed_c w kind x.id)
   have PR:=hH (fun w=>proper_c w x LX.o.n LX.o.t LX.o.o)
   have HPV:Hd (∀j,k=j+1→∃p,l[j]?=some p∧∀W,Keeps [] wr W→W.cell? ⟨ba,oa+j*4,none⟩=some (.int .i64 p.id)):=fun j hj=>by
    have hj2:l[j]?=some l[j]:=List.getElem?_eq_getElem (by omega)
    exact⟨l[j],hj2,fun W hW=>hW.some_ (HKW.o.some_ (hcl _ _ (flat4_get l j _ hj2 0 (by omega))) (by simp)) (by simp)⟩
   clear fx hx hxk
   go_upto_region 4 with fail
   have hnb:=Blk.new wr 100 #[.int .i64 x.id,.int .u32 (x.n:Int),.string x.text,.string x.other]
   have hal:=Keeps.alloc wr (.cells #[.int .i64 x.id,.int .u32 (x.n:Int),.string x.text,.string x.other] 100)
   have hkW:=HKW.o.trans hal (by simp)
   generalize wr.alloc (.cells #[.int .i64 x.id,.int .u32 (x.n:Int),.string x.text,.string x.other] 100)=W at*
   generalize wr.heap.size=nb at*
   have HNB:=hH hnb
   have HKV:Hd (∀w',Keeps [] W w'→Keeps [] w w'):=fun w' k=>hkW.trans k (by simp)
   have HAL:=hH hal
   clear hnb hkW hal x0 x1 x2 x3 hcl
   cases eal:alB kind x.id
   ·rw[eal] at AL
    have HB:Hd (stepB kind l k=false):=by show _=_;unfold stepB;rw[HX.o];simp only[eal];rfl
    have hS:∀w',Keeps [] W w'→(w'.cell? ⟨nb,0,none⟩=some (.int .i64 x.id)∧w'.cell? ⟨nb,1,none⟩=some (.int .u32 (x.n:Int))∧w'.cell? ⟨nb,2,none⟩=some (.string x.text)∧w'.cell? ⟨nb,3,none⟩=some (.string x.other)∧Keeps [] W w'):=fun w' k=>⟨(by rw[(HNB.o.keep k (by simp)).cell];rfl),(by rw[(HNB.o.keep k (by simp)).cell];rfl),(by rw[(HNB.o.keep k (by simp)).cell];rfl),(by rw[(HNB.o.keep k (by simp)).cell];rfl),k⟩
    refine tkSt hS (Keeps.drew _) (by kernel_rfl) fun hHeld=>?_
    simp only[s4,s5,Nat.reduceAdd,s6,s7]
    repeat((first|refine tkx ?_|refine tku ?_);simp only[setN,Act.put,s1,s2,s3])
    refine tkc fun K hK=>?_
    go_simp
    refine(AL.o _).mono ?_
    rintro e w1 ⟨rfl,hq1⟩
    have hkk1:=Keeps.trans (by go_split_ands;assumption:Keeps [] W _) hq1 (by simp)
    clear hHeld
    refine hK.out _ _ (hS _ hkk1) (fun hHeld=>?_)
    exact zN4
   ·rw[eal] at AL
    have EAL:=hH eal
    clear eal
    cases epr:properB x
    ·rw[epr] at PR
     have HB:Hd (stepB kind l k=false):=by show _=_;unfold stepB;rw[HX.o];simp only[EAL.o,epr];rfl
     have hS:∀w',Keeps [] W w'→(w'.cell? ⟨nb,0,none⟩=some (.int .i64 x.id)∧w'.cell? ⟨nb,1,none⟩=some (.int .u32 (x.n:Int))∧w'.cell? ⟨nb,2,none⟩=some (.string x.text)∧w'.cell? ⟨nb,3,none⟩=some (.string x.other)∧Keeps [] W w'):=fun w' k=>⟨(by rw[(HNB.o.keep k (by simp)).cell];rfl),(by rw[(HNB.o.keep k (by simp)).cell];rfl),(by rw[(HNB.o.keep k (by simp)).cell];rfl),(by rw[(HNB.o.keep k (by simp)).cell];rfl),k⟩
     exact zN1
    ·rw[epr] at PR
     have EPR:=hH epr
     clear epr
     rcases Nat.eq_zero_or_pos k with hk0|hk0
     ·subst hk0
      have HB:Hd (stepB kind l 0=true):=by show _=_;unfold stepB;rw[HX.o];simp only[EAL.o,EPR.o];rfl
      have hS:∀w',Keeps [] W w'→(w'.cell? ⟨nb,0,none⟩=some (.int .i64 x.id)∧w'.cell? ⟨nb,1,none⟩=some (.int .u32 (x.n:Int))∧w'.cell? ⟨nb,2,none⟩=some (.string x.text)∧w'.cell? ⟨nb,3,none⟩=some (.string x.other)∧Keeps [] W w'):=fun w' k=>⟨(by rw[(HNB.o.keep k (by simp)).cell];rfl),(by rw[(HNB.o.keep k (by simp)).cell];rfl),(by rw[(HNB.o.keep k (by simp)).cell];rfl),(by rw[(HNB.o.keep k (by simp)).cell];rfl),k⟩
      refine tkSt hS (Keeps.drew _) (by kernel_rfl) fun hHeld=>?_
      simp only[s4,s5,Nat.reduceAdd,s6,s7]
      repeat((first|refine tkx ?_|refine tku ?_);simp only[setN,Act.put,s1,s2,s3])
      refine tkc fun K hK=>?_
      go_simp
      refine(AL.o _).mono ?_
      rintro e w1 ⟨rfl,hq1⟩
      have hkk1:=Keeps.trans (by go_split_ands;assumption:Keeps [] W _) hq1 (by simp)
      clear hHeld
      refine hK.out _ _ (hS _ hkk1) (fun hHeld=>?_)
      clear hK K
      simp only[setN,Act.put,s1,s2,s3]
      repeat((first|refine tkx ?_|refine tku ?_);simp only[setN,Act.put,s1,s2,s3])
      refine tkc fun K hK=>?_
      go_simp
      refine(PR.o _).mono ?_
      rintro e w2 ⟨rfl,hq2⟩
      have hkk2:=Keeps.trans (by go_split_ands;assumption:Keeps [] W _) hq2 (by simp)
      clear hHeld
      refine hK.out _ _ (hS _ hkk2) (fun hHeld=>?_)
      clear hK K
      simp only[setN,Act.put,s1,s2,s3]
      repeat((first|refine tkx ?_|refine tku ?_);simp only[setN,Act.put,s1,s2,s3])
      refine tkDone (by kernel_rfl) ?_
      go_split_ands
      go_wp2_with fail
      go_roundg g'
      case measure=>omega
      case rel=>exact⟨0+1,by go_num,by omega,by omega,step_more HTK.o HB.o,HKV.o _ (by assumption)⟩
     ·obtain⟨j,rfl⟩:∃j,k=j+1:=⟨k-1,by omega⟩
      obtain⟨p,hp,hprev⟩:=HPV.o j rfl
      have HP:=hH hp
      have hjz:¬((j:Int)+1≤0):=by omega
      have hwj:IntKind.i64.wrap ((j:Nat):Int)=(j:Int):=IntWalk.i64_in _ (by omega)
      have hjl:(j:Int)<(l.length:Int):=by omega
      clear hp HPV
      by_cases c1:x.id<p.id
      ·have d1:decide (x.id<p.id)=true:=decide_eq_true c1
       have HB:Hd (stepB kind l (j+1)=false):=by show _=_;unfold stepB;rw[HX.o];simp only[HP.o,EAL.o,EPR.o,ordB];simp[c1]
       clear c1
       exact zN3
      ·have d1:decide (x.id<p.id)=false:=decide_eq_false c1
       by_cases c2:p.id=x.id
       ·have d2:(p.id==x.id)=true:=by rw[beq_iff_eq];exact c2
        by_cases c3:x.id=38
        ·have d3:(x.id !=38)=false:=by simp[c3]
         have HB:Hd (stepB kind l (j+1)=true):=by show _=_;unfold stepB;rw[HX.o];simp only[HP.o,EAL.o,EPR.o,ordB];simp[c1,c2,c3]
         clear c3 c2 c1
         exact zN0
        ·have d3:(x.id !=38)=true:=by simp[c3]
         by_cases c4:x.id=11
         ·have d4:(x.id !=11)=false:=by simp[c4]
          by_cases c5:kind=3
          ·have d5:(kind !=3)=false:=by simp[c5]
           have HB:Hd (stepB kind l (j+1)=true):=by show _=_;unfold stepB;rw[HX.o];simp only[HP.o,EAL.o,EPR.o,ordB];simp[c1,c2,c3,c4,c5]
           clear c5 c4 c3 c2 c1
           exact zN0
          ·have d5:(kind !=3)=true:=by simp[c5]
           have HB:Hd (stepB kind l (j+1)=false):=by show _=_;unfold stepB;rw[HX.o];simp only[HP.o,EAL.o,EPR.o,ordB];simp[c1,c2,c3,c4,c5]
           clear c5 c4 c3 c2 c1
           exact zN3
         ·have d4:(x.id !=11)=true:=by simp[c4]
          have HB:Hd (stepB kind l (j+1)=false):=by show _=_;unfold stepB;rw[HX.o];simp only[HP.o,EAL.o,EPR.o,ordB];simp[c1,c2,c3,c4]
          clear c4 c3 c2 c1
          exact zN3
       ·have d2:(p.id==x.id)=false:=by rw[beq_eq_false_iff_ne];exact c2
        have HB:Hd (stepB kind l (j+1)=true):=by show _=_;unfold stepB;rw[HX.o];simp only[HP.o,EAL.o,EPR.o,ordB];simp[c1,c2]
        clear c2 c1
        exact zN0
  ·have HE:Hd (decide (l.length≤20)=plB kind l):=(plB_end (fun i hi=>HTK.o i (by omega))).symm
   go_wp2_with fail
   go_ret
   refine is_of rfl ?_ HKW.o
   rw[←HE.o]
   by_cases hz:l.length≤20
   ·rw[decide_eq_true hz];simp;omega
   ·rw[decide_eq_false hz];simp;omega
end Go.Proofs.YtkglmacaecmhdaaGreatDoor
