/- FnRoad, part I: the walks of R7. -/
import Derived.Test.YtkglmacaecmhdaaGreatDoorE
import Derived.Test.YtkglmacaecmhdaaGreatDoorH
set_option linter.unusedVariables false
set_option linter.unusedSimpArgs false
set_option maxHeartbeats 20000000
set_option maxRecDepth 100000
namespace Go.Proofs.YtkglmacaecmhdaaGreatDoor
open Go Go.RowKit Tryz
theorem infoR3:(prog.info? 3).map (fun i=>(i.zero,i.size,i.bytes))=some (some (.int .i64 0),1,8):=by kernel_rfl
theorem infoR124:(prog.info? 124).map (fun i=>(i.zero,i.size,i.bytes))=some (some (.agg #[.string ⟨#[]⟩,.string ⟨#[]⟩]),2,32):=by kernel_rfl
def RBytes (w:World) (xb:Nat) (xs:List UInt8) (e:Ending) (w':World):Prop:=∃o c,e=.returned (.slice (some ⟨xb,o,none⟩) xs.length c)∧RB w xb o xs∧xs.length≤c∧w=w'
theorem rbytes_c (w:World) (bb xb:Nat) (xs:List UInt8) (hB:RBuf w bb xb xs):Calls prog 60 #[.pointer (some ⟨bb,0,none⟩)] w (RBytes w xb xs):=by
 obtain⟨o,c,hb,hr,hc,hn⟩:=hB
 have hcl:w.cell? ⟨bb,0,none⟩=some (.slice (some ⟨xb,o,none⟩) xs.length c):=by rw[hb.cell];rfl
 clear hb
 go_enter func60,ntmps60
 go_wp2_with fail
 go_ret
 exact⟨o,c,rfl,hr,hc,rfl⟩
theorem decKey_c (w:World) (b o c:Nat) (xs rest:List UInt8) (k i:Nat) (j:Int) (hj:(i:Int)=j) (hi:i<256) (hr:RB w b o xs) (hx:xs.drop k=UInt8.ofNat i::rest) (hl:xs.length≤1099511627776):
 Calls prog 92 #[.slice (some ⟨b,o,none⟩) xs.length c,.int .i64 (k:Int)] w fun e w'=>e=.returned (.tuple #[.int .u8 j,.int .i64 ((k+1:Nat):Int),.nilIface])∧w=w':=by
 have h:=decodeByte_c w (some ⟨b,o,none⟩) c xs rest k (UInt8.ofNat i) (rb_rd hr) hx hl
 have e:((UInt8.ofNat i).toNat:Int)=j:=by rw[UInt8.toNat_ofNat',←hj];omega
 rwa [e] at h
theorem vppT_c (w:World) (k:Nat) (x pkt:Int) (hx:(k:Int)=x) (hk:k∈ids) (hv:vpp k pkt=true):Calls prog 107 #[.int .u8 x,.int .u8 pkt] w fun e w'=>e=.returned (.bool true)∧w=w':=by
 have h:=vpp_c w k x pkt hx hk
 rwa [hv] at h
def DRel (w1:World) (g o B xb N:Nat) (cs:Array Value) (l:List PropV) (gk:Nat) (s6 s11:Value) (wr:World):Prop:=
 ∃k cs',s6=.int .i64 (N:Int)∧s11=.int .i64 (((encL (l.take k)).length:Nat):Int)∧k≤l.length∧l.length<gk+k∧Blk wr g 86 cs'∧cs'.size=108∧(∀j,j<o∨o+37≤j→cs'[j]?=cs[j]?)∧RSt B xb wr o (l.take k) cs'∧Keeps [g] w1 wr
theorem map_range (l:List Value):(List.range l.length).map (fun i=>l.getD i undef)=l:=by
 apply List.ext_getElem?
 intro i
 by_cases h:i<l.length
 ·rw[List.getElem?_map,List.getElem?_range h];simp[List.getD,List.getElem?_eq_getElem h]
 ·rw[List.getElem?_eq_none (by simp;omega),List.getElem?_eq_none (by omega)]
theorem gv {cs:Array Value} {i:Nat} (h:i<cs.size):∃v,cs[i]?=some v:=⟨_,Array.getElem?_eq_getElem h⟩
theorem lit_eq (t:Nat→Value):((List.range 478).map t).toArray=#[t 0,t 1,t 2,t 3,t 4,t 5,t 6,t 7,t 8,t 9,t 10,t 11,t 12,t 13,t 14,t 15,t 16,t 17,t 18,t 19,t 20,t 21,t 22,t 23,t 24,t 25,t 26,t 27,t 28,t 29,t 30,t 31,t 32,t 33,t 34,t 35,t 36,t 37,t 38,t 39,t 40,t 41,t 42,t 43,t 44,t 45,t 46,t 47,t 48,t 49,t 50,t 51,t 52,t 53,t 54,t 55,t 56,t 57,t 58,t 59,t 60,t 61,t 62,t 63,t 64,t 65,t 66,t 67,t 68,t 69,t 70,t 71,t 72,t 73,t 74,t 75,t 76,t 77,t 78,t 79,t 80,t 81,t 82,t 83,t 84,t 85,t 86,t 87,t 88,t 89,t 90,t 91,t 92,t 93,t 94,t 95,t 96,t 97,t 98,t 99,t 100,t 101,t 102,t 103,t 104,t 105,t 106,t 107,t 108,t 109,t 110,t 111,t 112,t 113,t 114,t 115,t 116,t 117,t 118,t 119,t 120,t 121,t 122,t 123,t 124,t 125,t 126,t 127,t 128,t 129,t 130,t 131,t 132,t 133,t 134,t 135,t 136,t 137,t 138,t 139,t 140,t 141,t 142,t 143,t 144,t 145,t 146,t 147,t 148,t 149,t 150,t 151,t 152,t 153,t 154,t 155,t 156,t 157,t 158,t 159,t 160,t 161,t 162,t 163,t 164,t 165,t 166,t 167,t 168,t 169,t 170,t 171,t 172,t 173,t 174,t 175,t 176,t 177,t 178,t 179,t 180,t 181,t 182,t 183,t 184,t 185,t 186,t 187,t 188,t 189,t 190,t 191,t 192,t 193,t 194,t 195,t 196,t 197,t 198,t 199,t 200,t 201,t 202,t 203,t 204,t 205,t 206,t 207,t 208,t 209,t 210,t 211,t 212,t 213,t 214,t 215,t 216,t 217,t 218,t 219,t 220,t 221,t 222,t 223,t 224,t 225,t 226,t 227,t 228,t 229,t 230,t 231,t 232,t 233,t 234,t 235,t 236,t 237,t 238,t 239,t 240,t 241,t 242,t 243,t 244,t 245,t 246,t 247,t 248,t 249,t 250,t 251,t 252,t 253,t 254,t 255,t 256,t 257,t 258,t 259,t 260,t 261,t 262,t 263,t 264,t 265,t 266,t 267,t 268,t 269,t 270,t 271,t 272,t 273,t 274,t 275,t 276,t 277,t 278,t 279,t 280,t 281,t 282,t 283,t 284,t 285,t 286,t 287,t 288,t 289,t 290,t 291,t 292,t 293,t 294,t 295,t 296,t 297,t 298,t 299,t 300,t 301,t 302,t 303,t 304,t 305,t 306,t 307,t 308,t 309,t 310,t 311,t 312,t 313,t 314,t 315,t 316,t 317,t 318,t 319,t 320,t 321,t 322,t 323,t 324,t 325,t 326,t 327,t 328,t 329,t 330,t 331,t 332,t 333,t 334,t 335,t 336,t 337,t 338,t 339,t 340,t 341,t 342,t 343,t 344,t 345,t 346,t 347,t 348,t 349,t 350,t 351,t 352,t 353,t 354,t 355,t 356,t 357,t 358,t 359,t 360,t 361,t 362,t 363,t 364,t 365,t 366,t 367,t 368,t 369,t 370,t 371,t 372,t 373,t 374,t 375,t 376,t 377,t 378,t 379,t 380,t 381,t 382,t 383,t 384,t 385,t 386,t 387,t 388,t 389,t 390,t 391,t 392,t 393,t 394,t 395,t 396,t 397,t 398,t 399,t 400,t 401,t 402,t 403,t 404,t 405,t 406,t 407,t 408,t 409,t 410,t 411,t 412,t 413,t 414,t 415,t 416,t 417,t 418,t 419,t 420,t 421,t 422,t 423,t 424,t 425,t 426,t 427,t 428,t 429,t 430,t 431,t 432,t 433,t 434,t 435,t 436,t 437,t 438,t 439,t 440,t 441,t 442,t 443,t 444,t 445,t 446,t 447,t 448,t 449,t 450,t 451,t 452,t 453,t 454,t 455,t 456,t 457,t 458,t 459,t 460,t 461,t 462,t 463,t 464,t 465,t 466,t 467,t 468,t 469,t 470,t 471,t 472,t 473,t 474,t 475,t 476,t 477]:=by kernel_rfl
theorem lit478 (a:Act) (h1:a.defers=[]) (h2:a.tmps.size=478):∃t:Nat→Value,a=⟨#[t 0,t 1,t 2,t 3,t 4,t 5,t 6,t 7,t 8,t 9,t 10,t 11,t 12,t 13,t 14,t 15,t 16,t 17,t 18,t 19,t 20,t 21,t 22,t 23,t 24,t 25,t 26,t 27,t 28,t 29,t 30,t 31,t 32,t 33,t 34,t 35,t 36,t 37,t 38,t 39,t 40,t 41,t 42,t 43,t 44,t 45,t 46,t 47,t 48,t 49,t 50,t 51,t 52,t 53,t 54,t 55,t 56,t 57,t 58,t 59,t 60,t 61,t 62,t 63,t 64,t 65,t 66,t 67,t 68,t 69,t 70,t 71,t 72,t 73,t 74,t 75,t 76,t 77,t 78,t 79,t 80,t 81,t 82,t 83,t 84,t 85,t 86,t 87,t 88,t 89,t 90,t 91,t 92,t 93,t 94,t 95,t 96,t 97,t 98,t 99,t 100,t 101,t 102,t 103,t 104,t 105,t 106,t 107,t 108,t 109,t 110,t 111,t 112,t 113,t 114,t 115,t 116,t 117,t 118,t 119,t 120,t 121,t 122,t 123,t 124,t 125,t 126,t 127,t 128,t 129,t 130,t 131,t 132,t 133,t 134,t 135,t 136,t 137,t 138,t 139,t 140,t 141,t 142,t 143,t 144,t 145,t 146,t 147,t 148,t 149,t 150,t 151,t 152,t 153,t 154,t 155,t 156,t 157,t 158,t 159,t 160,t 161,t 162,t 163,t 164,t 165,t 166,t 167,t 168,t 169,t 170,t 171,t 172,t 173,t 174,t 175,t 176,t 177,t 178,t 179,t 180,t 181,t 182,t 183,t 184,t 185,t 186,t 187,t 188,t 189,t 190,t 191,t 192,t 193,t 194,t 195,t 196,t 197,t 198,t 199,t 200,t 201,t 202,t 203,t 204,t 205,t 206,t 207,t 208,t 209,t 210,t 211,t 212,t 213,t 214,t 215,t 216,t 217,t 218,t 219,t 220,t 221,t 222,t 223,t 224,t 225,t 226,t 227,t 228,t 229,t 230,t 231,t 232,t 233,t 234,t 235,t 236,t 237,t 238,t 239,t 240,t 241,t 242,t 243,t 244,t 245,t 246,t 247,t 248,t 249,t 250,t 251,t 252,t 253,t 254,t 255,t 256,t 257,t 258,t 259,t 260,t 261,t 262,t 263,t 264,t 265,t 266,t 267,t 268,t 269,t 270,t 271,t 272,t 273,t 274,t 275,t 276,t 277,t 278,t 279,t 280,t 281,t 282,t 283,t 284,t 285,t 286,t 287,t 288,t 289,t 290,t 291,t 292,t 293,t 294,t 295,t 296,t 297,t 298,t 299,t 300,t 301,t 302,t 303,t 304,t 305,t 306,t 307,t 308,t 309,t 310,t 311,t 312,t 313,t 314,t 315,t 316,t 317,t 318,t 319,t 320,t 321,t 322,t 323,t 324,t 325,t 326,t 327,t 328,t 329,t 330,t 331,t 332,t 333,t 334,t 335,t 336,t 337,t 338,t 339,t 340,t 341,t 342,t 343,t 344,t 345,t 346,t 347,t 348,t 349,t 350,t 351,t 352,t 353,t 354,t 355,t 356,t 357,t 358,t 359,t 360,t 361,t 362,t 363,t 364,t 365,t 366,t 367,t 368,t 369,t 370,t 371,t 372,t 373,t 374,t 375,t 376,t 377,t 378,t 379,t 380,t 381,t 382,t 383,t 384,t 385,t 386,t 387,t 388,t 389,t 390,t 391,t 392,t 393,t 394,t 395,t 396,t 397,t 398,t 399,t 400,t 401,t 402,t 403,t 404,t 405,t 406,t 407,t 408,t 409,t 410,t 411,t 412,t 413,t 414,t 415,t 416,t 417,t 418,t 419,t 420,t 421,t 422,t 423,t 424,t 425,t 426,t 427,t 428,t 429,t 430,t 431,t 432,t 433,t 434,t 435,t 436,t 437,t 438,t 439,t 440,t 441,t 442,t 443,t 444,t 445,t 446,t 447,t 448,t 449,t 450,t 451,t 452,t 453,t 454,t 455,t 456,t 457,t 458,t 459,t 460,t 461,t 462,t 463,t 464,t 465,t 466,t 467,t 468,t 469,t 470,t 471,t 472,t 473,t 474,t 475,t 476,t 477],[]⟩∧∀i,a.tmps.getD i undef=t i:=by
 refine⟨fun i=>a.tmps.getD i undef,Eq.trans ?_ (congrArg (fun x:Array Value=>(⟨x,[]⟩:Act)) (lit_eq fun i=>a.tmps.getD i undef)),fun _=>rfl⟩
 obtain⟨tm,df⟩:=a
 simp only at h1 h2
 subst h1
 congr 1
 have h:=map_range tm.toList
 rw[Array.length_toList,h2] at h
 apply Array.ext'
 show tm.toList=_
 conv=>lhs;rw[←h]
 congr 1
 funext i
 simp[List.getD,Array.getD,Array.getElem?_toList]
 by_cases h:i<tm.size<;>simp[h]
theorem drop_one {xs b:List UInt8} {k:Nat} {u:UInt8} (h:xs.drop k=u::b):xs.drop (k+1)=b:=by
 rw[←List.drop_drop,h];rfl
theorem own_none {w:World} {e:TypeId} {size n c:Nat} {xs:List Value} (h:w.ownsRow 0 e size (.slice none n c) n xs):n=0∧c=0:=by
 rcases h.2 with⟨hv,h0⟩|⟨g,cap,cur,hv,_⟩
 ·injection hv with _ _ h3;exact⟨h0,h3⟩
 ·injection hv with h1;cases h1
theorem RSt.nil1 {B xb q:Nat} {w:World} {o:Nat} {l:List PropV} {cs:Array Value} (h:RSt B xb w o l cs) (hz:o+37≤cs.size) (h0:(numsOf l).length=0) (hq:Blk w q 3 #[]) (hB:B≤q):
 RSt B xb w o l (cs.setIfInBounds (o+1) (.slice (some ⟨q,0,none⟩) 0 0)):=by
 have hn:numsOf l=[]:=List.eq_nil_of_length_eq_zero h0
 refine⟨fun j h1 h2=>by rw[Array.getElem?_setIfInBounds,if_neg (by omega)];exact h.sc j h1 h2,by rw[Array.getElem?_setIfInBounds,if_neg (by omega)];exact h.d0,by rw[Array.getElem?_setIfInBounds,if_neg (by omega)];exact h.d2,?_,by rw[Array.getElem?_setIfInBounds,if_neg (by omega)];exact h.us⟩
 rw[Array.getElem?_setIfInBounds,if_pos rfl,if_pos (by omega),hn]
 exact⟨some ⟨q,0,none⟩,0,rfl,by simpa using own_blk hq 1 0 0 rfl (by omega) (by unfold maxLen;omega),fun k hk=>by simp at hk;omega⟩
theorem RSt.mono {B B' xb:Nat} {w:World} {o:Nat} {l:List PropV} {cs:Array Value} (h:RSt B xb w o l cs) (hB:B'≤B):RSt B' xb w o l cs:=by
 obtain⟨A1,c1,x1,x2,x3⟩:=h.nm
 obtain⟨A3,c3,y1,y2,y3⟩:=h.us
 exact⟨h.sc,h.d0,h.d2,⟨A1,c1,x1,x2,fun k hk=>Nat.le_trans hB (x3 k hk)⟩,⟨A3,c3,y1,y2,fun k hk=>Nat.le_trans hB (y3 k hk)⟩⟩
def PDOut (w:World) (g o B xb bb:Nat) (cs:Array Value) (l:List PropV) (n:Nat) (e:Ending) (w':World):Prop:=
 e=.returned (.tuple #[.int .i64 (n:Int),.nilIface])∧∃cs',Blk w' g 86 cs'∧cs'.size=108∧(∀j,j<o∨o+37≤j→cs'[j]?=cs[j]?)∧RSt B xb w' o l cs'∧Keeps [g,bb] w w'
theorem set_far {cs cs':Array Value} {o a:Nat} {v:Value} (h:∀j,j<o∨o+37≤j→cs'[j]?=cs[j]?) (ha:a<37):∀j,j<o∨o+37≤j→(cs'.setIfInBounds (o+a) v)[j]?=cs[j]?:=fun j hj=>by
 rw[Array.getElem?_setIfInBounds,if_neg (by omega)];exact h j hj
theorem rst_zero (B xb:Nat) (w:World) (o:Nat) (cs:Array Value) (h:∀j,j<37→cs[o+j]?=zero37[j]?):RSt B xb w o [] cs:=by
 have h0:=h 0 (by omega)
 rw[Nat.add_zero] at h0
 have hz:=zero37_st 0 w
 refine⟨fun j h1 h2=>by rw[h j h2];exact hz.sc j h1 h2,by rw[h0];rfl,by rw[h 2 (by omega)];rfl,⟨none,0,by rw[h 1 (by omega)];rfl,World.ownsRow_nil _ _ _ _,by simp⟩,⟨none,0,by rw[h 3 (by omega)];rfl,World.ownsRow_nil _ _ _ _,by simp⟩⟩
theorem zI0 {p:Prop} (h:p:=by
 intro w' k'
 have h1:=(HRR.o.keep k' (by simp)).drop (off+1)
 rw[hdr1] at h1
 have h2:=rb_rd (w:=w') (b:=xb) (o:=ob+(off+1+2)) (xs:=x.text.data.toList) (fun j u hj=>by
  have:=h1 (2+j) u (by rw[List.getElem?_append_left (by rw[lp_length];have:=(List.getElem?_eq_some_iff.1 hj).1;omega)];rw[lp,List.getElem?_append_right (by simp[be2]),be2_length,show 2+j-2=j by omega,hj])
  rw[show ob+(off+1+2)+j=ob+(off+1)+(2+j) by omega];exact this)
 rwa [tl_len] at h2
 ):p:=h
theorem propDec_c (w:World) (g o bb xb:Nat) (cs:Array Value) (kind:Int) (l:List PropV) (rest:List UInt8) (hP:ProperL kind l) (hB:Blk w g 86 cs) (hz:cs.size=108) (ho:o+37≤108) (h0:∀j,j<37→cs[o+j]?=zero37[j]?)
 (hR:RBuf w bb xb (vlen (encL l).length++(encL l++rest))) (hg:g≠bb) (hx:xb<w.heap.size) (hxg:xb≠g) (hrest:rest.length≤100000000) (hT:Lib.Utf8Tabs 28 29 w) (hg28:29<g) (hb28:29<bb):
 Calls prog 94 #[.pointer (some ⟨g,o,none⟩),.int .u8 (pktOf kind),.pointer (some ⟨bb,0,none⟩)] w (PDOut w g o w.heap.size xb bb cs l ((encL l).length+(vlen (encL l).length).length)):=by
 have hN:=encL_le hP
 have hglt:=hB.lt
 have hbblt:bb<w.heap.size:=by obtain⟨_,_,h,_⟩:=hR;exact h.lt
 have hl20:=hP.len
 obtain⟨pkt,hpkt⟩:∃pkt,pktOf kind=pkt:=⟨_,rfl⟩
 have HPK:=hH hpkt
 have hxl:(encL l++rest).length≤1099511627776:=by simp;omega
 have hdl:=hH (decodeLength_c w bb xb (encL l).length (encL l++rest) (by omega) hR (by simp;omega))
 have hst0:=hH (fun (B:Nat) (w':World)=>rst_zero B xb w' o cs h0)
 rw[hpkt]
 have HP:=hH hP
 have HB:=hH hB
 have HT:=hH hT
 have hgbb:g∉[bb]:=by simpa using hg
 have hxbb:xb∉[bb]:=by obtain⟨_,_,_,_,_,h⟩:=hR;simpa using h
 clear hP hB h0 hR hT hpkt
 by_cases hl0:l=[]
 ·subst hl0
  have e0:(encL ([]:List PropV)).length=0:=rfl
  have e1:(vlen 0).length=1:=by rw[vlen_lo (by omega)];rfl
  rw[e0,e1] at hdl ⊢
  go_enter func94,ntmps94
  go_wp2_with fail
  go_fit (hdl.o)
  rintro e w1 ⟨rfl,hb1,hk1⟩
  go_wp2_with fail
  go_ret2
  exact⟨rfl,cs,HB.o.keep hk1 hgbb,hz,fun _ _=>rfl,hst0.o _ _,hk1.mono (by simp)⟩
 ·obtain⟨N,hNe⟩:∃N,(encL l).length=N:=⟨_,rfl⟩
  have hN0:0<N:=by
   obtain⟨x,t,rfl⟩:=List.exists_cons_of_ne_nil hl0
   rw[←hNe];simp[encL,encP]
  have hN0b:((N:Int)==0)=false:=by rw[beq_eq_false_iff_ne];omega
  obtain⟨V,hVe⟩:∃V,(vlen N).length=V:=⟨_,rfl⟩
  have hV4:V≤4:=by rw[←hVe];exact vlen_le N (by omega)
  rw[hNe,hVe] at hdl
  rw[hNe,hVe]
  rw[hNe] at hN
  have HNE:=hH hNe
  obtain⟨NX,hNX⟩:∃NX,(encL l++rest).length=NX:=⟨_,rfl⟩
  have HNX:=hH hNX
  have hNN:N≤NX:=by rw[←hNX,←hNe];simp
  have HNXB:Hd (NX≤105000000):=by show _≤_;have h1:=hNX;rw[List.length_append,hNe] at h1;omega
  rw[hNX] at hxl
  clear hNe hVe hl0 hNX
  go_enter func94,ntmps94
  go_wp2_with fail
  go_fit (hdl.o)
  rintro e w1 ⟨rfl,hb1,hk1⟩
  go_wp2_with fail
  refine(rbytes_c w1 bb xb (encL l++rest) hb1).mono ?_
  rintro e w2 ⟨ob,c,rfl,hr1,hc1,rfl⟩
  rw[HNX.o] at hc1 ⊢
  have HR1:=hH hr1
  have HK1:=hH hk1
  have HB1:=hH (HB.o.keep hk1 hgbb)
  obtain⟨B,hBe⟩:∃B,w1.heap.size=B:=⟨_,rfl⟩
  have hsz1:=hk1.size
  rw[hBe] at hsz1
  have HBE:=hH hBe
  have hxB:xb<B:=by omega
  have hgB:g<B:=by omega
  have hwB:w.heap.size≤B:=hsz1
  have HST1:=hH (hst0.o B w1)
  have HMON:Hd (∀w',RSt B xb w' o l=RSt B xb w' o l):=fun _=>rfl
  have HT1:=hH (tabs_keep HT.o hk1 (by simp;omega) (by simp;omega))
  clear hr1 hk1 hb1 hdl hst0 HB HT hBe HMON hsz1
  go_wp2_with fail
  refine wp_loop_ghost_k (fun gk (a:Act) wr=>a.defers=[]∧a.tmps.size=478∧a.tmps.getD 0 undef=.pointer (some ⟨g,o,none⟩)∧a.tmps.getD 1 undef=.int .u8 pkt∧a.tmps.getD 8 undef=.int .i64 (V:Int)∧a.tmps.getD 9 undef=.slice (some ⟨xb,ob,none⟩) NX c∧
   DRel w1 g o B xb N cs l gk (a.tmps.getD 6 undef) (a.tmps.getD 11 undef) wr) (l.length+1) ?atStart ?round
  case atStart=>exact⟨rfl,rfl,rfl,rfl,rfl,rfl,0,cs,rfl,rfl,by omega,by omega,HB1.o,hz,fun _ _=>rfl,HST1.o,Keeps.refl _ _⟩
  case round=>
   intro gk a wr hI J K hJ hK
   obtain⟨hdf,hsz,e0,e1,e8,e9,hrel⟩:=hI
   obtain⟨t,hta,hti⟩:=lit478 a hdf hsz
   rw[hti] at e0 e1 e8 e9
   rw[hti,hti] at hrel
   obtain⟨k,cs',e6,e11,hk,hgk,hBr,hz',hfar,hst,hkw⟩:=hrel
   rw[hta,e0,e1,e6,e8,e9,e11]
   clear hta hti hdf hsz e0 e1 e6 e8 e9 e11
   have HJ:=hH hJ
   clear hJ
   have HBR:=hH hBr
   have HFAR:=hH hfar
   have HST:=hH hst
   have HKW:=hH hkw
   have HTR:=hH (tabs_keep HT1.o hkw (by simp;omega) (by simp;omega))
   have HRR:=hH (HR1.o.keep hkw (by simpa using hxg))
   clear hBr hfar hst hkw
   by_cases hlt:k<l.length
   ·obtain⟨g',rfl⟩:∃g',gk=g'+1:=⟨gk-1,by omega⟩
    obtain⟨x,hx0⟩:∃x,l[k]=x:=⟨_,rfl⟩
    have hxk:l[k]?=some x:=by rw[List.getElem?_eq_getElem hlt,hx0]
    have hxm:x∈l:=List.mem_of_getElem? hxk
    have HOK:=hH (HP.o.ok x hxm)
    have hvp:=al_vpp (HP.o.al x hxm)
    rw[HPK.o] at hvp
    have HVP:=hH hvp
    have hdr:=encL_drop l k x hxk rest
    have htk:Hd (l.take (k+1)=l.take k++[x]):=by show _=_;rw[List.take_succ_eq_append_getElem hlt,hx0]
    obtain⟨off,hoff⟩:∃off,(encL (l.take k)).length=off:=⟨_,rfl⟩
    rw[hoff] at hdr ⊢
    have hnx:(encL (l.take (k+1))).length=off+(encP x).length:=by rw[htk.o,encL_snoc,List.length_append,hoff]
    have hoN:off+(encP x).length≤N:=by
     have h1:=congrArg List.length hdr
     rw[List.length_drop,HNX.o,List.length_append,List.length_append] at h1
     have h2:=HNX.o
     rw[List.length_append,HNE.o] at h2
     have h3:0<(encP x).length:=by simp[encP]
     omega
    have HDR:=hH hdr
    have HNXT:=hH hnx
    have hpos:0<(encP x).length:=by simp[encP]
    have hltz:(off:Int)<(N:Int):=by omega
    have hoffl:off≤4000000:=by omega
    have HON:=hH hoN
    have HLE:Hd ((encL l++rest).length=NX):=HNX
    have HKN:=hH (kindOf_known HOK.o.k0)
    clear hdr hnx hoff hx0 hxk hxm hvp hpos hoN HP
    rcases HKN.o with hid|hid|hid|hid|hid|hid|hid|hid|hid|hid|hid|hid|hid|hid|hid|hid|hid|hid|hid|hid|hid|hid|hid|hid|hid|hid|hid
    ·as_aux_lemma=>
     have hkd:kindOf x.id=1:=by rw[hid];rfl
     have he:encP x=UInt8.ofNat 1::[UInt8.ofNat x.n]:=by unfold encP;rw[hkd,hid];rfl
     have hdr:=HDR.o
     rw[he,List.cons_append] at hdr
     have hnx:=HNXT.o
     rw[he,List.length_cons] at hnx
     have hk1:=decKey_c wr xb ob c (encL l++rest) _ off 1 1 rfl (by decide) HRR.o hdr (by rw[HLE.o];exact hxl)
     rw[HLE.o] at hk1
     have HK:=hH hk1
     have HV1:=hH (vppT_c wr 1 1 pkt rfl (by decide) (by have h:=HVP.o;rwa [hid] at h))
     have hdr1:(encL l++rest).drop (off+1)=[UInt8.ofNat x.n]++(encL (l.drop (k+1))++rest):=drop_one hdr
     have hon:=HON.o
     rw[he,List.length_cons] at hon
     clear hk1 hdr
     have ca0:=HBR.o.cell (o+19)
     have hsz:o+19<cs'.size:=by omega
     obtain⟨v0,hv0⟩:=gv hsz
     obtain⟨v1,hv1⟩:∃v1,cs'[o+20]?=some v1:=⟨_,Array.getElem?_eq_getElem (by omega)⟩
     clear ca0 hsz
     have ok:=HOK.o
     have hn:=(ok.k1 hkd).1
     have hk2:=decKey_c wr xb ob c (encL l++rest) _ (off+1) x.n x.n rfl (by omega) HRR.o (by simpa using hdr1) (by rw[HLE.o];exact hxl)
     rw[HLE.o] at hk2
     have HV2:=hH hk2
     simp only[List.length_singleton] at hnx
     have hnx:=hH hnx
     clear hk2 hdr1 ok hn hon he hkd
     go_wp2_with fail
     go_fit (HK.o)
     rintro e wz ⟨rfl,rfl⟩
     go_wp2_with fail
     go_fit (HV1.o)
     rintro e wz ⟨rfl,rfl⟩
     go_wp2_with fail
     go_fit (HV2.o)
     rintro e wz ⟨rfl,rfl⟩
     have HB2:=hH (HBR.o.keep (Keeps.refl [] wr) (by simp))
     have c0:(wr).cell? ⟨g,o+19,none⟩=some v0:=by rw[HB2.o.cell];exact hv0
     have f0:=HB2.o.frozen (o+19)
     have c1:(wr).cell? ⟨g,o+20,none⟩=some v1:=by rw[HB2.o.cell];exact hv1
     have f1:=HB2.o.frozen (o+20)
     clear hv0 hv1
     go_wp2_with fail
     refine Handed.intro g' (by omega) (HJ.o _ _ _ ⟨rfl,rfl,rfl,rfl,rfl,rfl,?_⟩)
     have hrs:RSt B xb (wr) o (l.take k++[x]) ((cs'.setIfInBounds (o+19) (.int .u8 (x.n:Int))).setIfInBounds (o+20) (.bool true)):=(HST.o.keep (Keeps.refl [] wr) (by simp) (by simp)).two (by omega) 1 19 20 _ _ hid (by omega) (by omega) (by omega) (by omega) (by omega) rfl rfl (by decide) rfl rfl
     exact⟨k+1,((cs'.setIfInBounds (o+19) (.int .u8 (x.n:Int))).setIfInBounds (o+20) (.bool true)),rfl,by rw[hnx.o];go_num,by omega,by omega,((HB2.o.set_ (o+19) (.int .u8 (x.n:Int))).set_ (o+20) (.bool true)),(by simpa using hz'),(set_far (o:=o) (a:=20) (v:=.bool true) (set_far (o:=o) (a:=19) (v:=.int .u8 (x.n:Int)) HFAR.o (by omega)) (by omega)),by rw[htk.o];exact hrs.keep (((Keeps.setCell (wr) ⟨g,o+19,none⟩ (.int .u8 (x.n:Int)))).trans (Keeps.setCell _ ⟨g,o+20,none⟩ (.bool true)) (by simp)) (by simpa using hxg) (fun q hq=>.inl (by simp at hq;omega)),(HKW.o.trans ((Keeps.refl [] wr)) (by simp)).trans (((Keeps.setCell (wr) ⟨g,o+19,none⟩ (.int .u8 (x.n:Int)))).trans (Keeps.setCell _ ⟨g,o+20,none⟩ (.bool true)) (by simp)) (by simp)⟩
    ·as_aux_lemma=>
     have hkd:kindOf x.id=4:=by rw[hid];rfl
     have he:encP x=UInt8.ofNat 2::be4 x.n:=by unfold encP;rw[hkd,hid];rfl
     have hdr:=HDR.o
     rw[he,List.cons_append] at hdr
     have hnx:=HNXT.o
     rw[he,List.length_cons] at hnx
     have hk1:=decKey_c wr xb ob c (encL l++rest) _ off 2 2 rfl (by decide) HRR.o hdr (by rw[HLE.o];exact hxl)
     rw[HLE.o] at hk1
     have HK:=hH hk1
     have HV1:=hH (vppT_c wr 2 2 pkt rfl (by decide) (by have h:=HVP.o;rwa [hid] at h))
     have hdr1:(encL l++rest).drop (off+1)=be4 x.n++(encL (l.drop (k+1))++rest):=drop_one hdr
     have hon:=HON.o
     rw[he,List.length_cons] at hon
     clear hk1 hdr
     have ca0:=HBR.o.cell (o+11)
     have hsz:o+11<cs'.size:=by omega
     obtain⟨v0,hv0⟩:=gv hsz
     clear ca0 hsz
     have ok:=HOK.o
     have hn:=(ok.k4 hkd).1
     have hk2:=decodeUint32_c wr (some ⟨xb,ob,none⟩) c (encL l++rest) _ (off+1) x.n (rb_rd HRR.o) hdr1 (by omega) (by rw[HLE.o];exact hxl) (by rw[HLE.o];exact hc1)
     rw[HLE.o] at hk2
     have HV2:=hH hk2
     rw[be4_length] at hnx
     have hnx:=hH hnx
     clear hk2 hdr1 ok hn hon he hkd
     go_wp2_with fail
     go_fit (HK.o)
     rintro e wz ⟨rfl,rfl⟩
     go_wp2_with fail
     go_fit (HV1.o)
     rintro e wz ⟨rfl,rfl⟩
     go_wp2_with fail
     go_fit (HV2.o)
     rintro e wz ⟨rfl,m,rfl⟩
     have HB2:=hH (HBR.o.keep (Keeps.drewN wr m) (by simp))
     have c0:(wr.drewN m).cell? ⟨g,o+11,none⟩=some v0:=by rw[HB2.o.cell];exact hv0
     have f0:=HB2.o.frozen (o+11)
     clear hv0
     go_wp2_with fail
     refine Handed.intro g' (by omega) (HJ.o _ _ _ ⟨rfl,rfl,rfl,rfl,rfl,rfl,?_⟩)
     have hrs:RSt B xb (wr.drewN m) o (l.take k++[x]) (cs'.setIfInBounds (o+11) (.int .u32 (x.n:Int))):=(HST.o.keep (Keeps.drewN wr m) (by simp) (by simp)).one (by omega) 2 11 _ hid (by omega) (by omega) rfl (by decide) rfl
     exact⟨k+1,(cs'.setIfInBounds (o+11) (.int .u32 (x.n:Int))),rfl,by rw[hnx.o];go_num,by omega,by omega,(HB2.o.set_ (o+11) (.int .u32 (x.n:Int))),(by simpa using hz'),(set_far (o:=o) (a:=11) (v:=.int .u32 (x.n:Int)) HFAR.o (by omega)),by rw[htk.o];exact hrs.keep (Keeps.setCell (wr.drewN m) ⟨g,o+11,none⟩ (.int .u32 (x.n:Int))) (by simpa using hxg) (fun q hq=>.inl (by simp at hq;omega)),(HKW.o.trans ((Keeps.drewN wr m)) (by simp)).trans (Keeps.setCell (wr.drewN m) ⟨g,o+11,none⟩ (.int .u32 (x.n:Int))) (by simp)⟩
    ·as_aux_lemma=>
     have hkd:kindOf x.id=6:=by rw[hid];rfl
     have he:encP x=UInt8.ofNat 3::lp x.text.data.toList:=by unfold encP;rw[hkd,hid];rfl
     have hdr:=HDR.o
     rw[he,List.cons_append] at hdr
     have hnx:=HNXT.o
     rw[he,List.length_cons] at hnx
     have hk1:=decKey_c wr xb ob c (encL l++rest) _ off 3 3 rfl (by decide) HRR.o hdr (by rw[HLE.o];exact hxl)
     rw[HLE.o] at hk1
     have HK:=hH hk1
     have HV1:=hH (vppT_c wr 3 3 pkt rfl (by decide) (by have h:=HVP.o;rwa [hid] at h))
     have hdr1:(encL l++rest).drop (off+1)=lp x.text.data.toList++(encL (l.drop (k+1))++rest):=drop_one hdr
     have hon:=HON.o
     rw[he,List.length_cons] at hon
     clear hk1 hdr
     have ca0:=HBR.o.cell (o+4)
     have hsz:o+4<cs'.size:=by omega
     obtain⟨v0,hv0⟩:=gv hsz
     clear ca0 hsz
     have hn:=HOK.o.k6 hkd
     have hk2:=decodeString_c wr xb ob c (encL l++rest) _ x.text (off+1) HRR.o hdr1 hn.1.1 (by rw[HLE.o];exact hxl) (by rw[HLE.o];exact hc1) hn.1.2.1 hn.1.2.2 HTR.o
     rw[HLE.o] at hk2
     have HV2:=hH hk2
     rw[lp_length,tl_len] at hnx
     have hts:=hn.1.1
     have hnx:=hH hnx
     clear hk2 hdr1 hn hon he hkd
     go_wp2_with fail
     go_fit (HK.o)
     rintro e wz ⟨rfl,rfl⟩
     go_wp2_with fail
     go_fit (HV1.o)
     rintro e wz ⟨rfl,rfl⟩
     go_wp2_with fail
     go_fit (HV2.o)
     rintro e wz ⟨rfl,hkz⟩
     have HB2:=hH (HBR.o.keep hkz (by simp))
     have c0:(wz).cell? ⟨g,o+4,none⟩=some v0:=by rw[HB2.o.cell];exact hv0
     have f0:=HB2.o.frozen (o+4)
     clear hv0
     go_wp2_with fail
     refine Handed.intro g' (by omega) (HJ.o _ _ _ ⟨rfl,rfl,rfl,rfl,rfl,rfl,?_⟩)
     have hrs:RSt B xb (wz) o (l.take k++[x]) (cs'.setIfInBounds (o+4) (.string x.text)):=(HST.o.keep hkz (by simp) (by simp)).one (by omega) 3 4 _ hid (by omega) (by omega) rfl (by decide) rfl
     exact⟨k+1,(cs'.setIfInBounds (o+4) (.string x.text)),rfl,by rw[hnx.o];go_num,by omega,by omega,(HB2.o.set_ (o+4) (.string x.text)),(by simpa using hz'),(set_far (o:=o) (a:=4) (v:=.string x.text) HFAR.o (by omega)),by rw[htk.o];exact hrs.keep (Keeps.setCell (wz) ⟨g,o+4,none⟩ (.string x.text)) (by simpa using hxg) (fun q hq=>.inl (by simp at hq;omega)),(HKW.o.trans (hkz) (by simp)).trans (Keeps.setCell (wz) ⟨g,o+4,none⟩ (.string x.text)) (by simp)⟩
    ·as_aux_lemma=>
     have hkd:kindOf x.id=6:=by rw[hid];rfl
     have he:encP x=UInt8.ofNat 8::lp x.text.data.toList:=by unfold encP;rw[hkd,hid];rfl
     have hdr:=HDR.o
     rw[he,List.cons_append] at hdr
     have hnx:=HNXT.o
     rw[he,List.length_cons] at hnx
     have hk1:=decKey_c wr xb ob c (encL l++rest) _ off 8 8 rfl (by decide) HRR.o hdr (by rw[HLE.o];exact hxl)
     rw[HLE.o] at hk1
     have HK:=hH hk1
     have HV1:=hH (vppT_c wr 8 8 pkt rfl (by decide) (by have h:=HVP.o;rwa [hid] at h))
     have hdr1:(encL l++rest).drop (off+1)=lp x.text.data.toList++(encL (l.drop (k+1))++rest):=drop_one hdr
     have hon:=HON.o
     rw[he,List.length_cons] at hon
     clear hk1 hdr
     have ca0:=HBR.o.cell (o+5)
     have hsz:o+5<cs'.size:=by omega
     obtain⟨v0,hv0⟩:=gv hsz
     clear ca0 hsz
     have hn:=HOK.o.k6 hkd
     have hk2:=decodeString_c wr xb ob c (encL l++rest) _ x.text (off+1) HRR.o hdr1 hn.1.1 (by rw[HLE.o];exact hxl) (by rw[HLE.o];exact hc1) hn.1.2.1 hn.1.2.2 HTR.o
     rw[HLE.o] at hk2
     have HV2:=hH hk2
     rw[lp_length,tl_len] at hnx
     have hts:=hn.1.1
     have hnx:=hH hnx
     clear hk2 hdr1 hn hon he hkd
     go_wp2_with fail
     go_fit (HK.o)
     rintro e wz ⟨rfl,rfl⟩
     go_wp2_with fail
     go_fit (HV1.o)
     rintro e wz ⟨rfl,rfl⟩
     go_wp2_with fail
     go_fit (HV2.o)
     rintro e wz ⟨rfl,hkz⟩
     have HB2:=hH (HBR.o.keep hkz (by simp))
     have c0:(wz).cell? ⟨g,o+5,none⟩=some v0:=by rw[HB2.o.cell];exact hv0
     have f0:=HB2.o.frozen (o+5)
     clear hv0
     go_wp2_with fail
     refine Handed.intro g' (by omega) (HJ.o _ _ _ ⟨rfl,rfl,rfl,rfl,rfl,rfl,?_⟩)
     have hrs:RSt B xb (wz) o (l.take k++[x]) (cs'.setIfInBounds (o+5) (.string x.text)):=(HST.o.keep hkz (by simp) (by simp)).one (by omega) 8 5 _ hid (by omega) (by omega) rfl (by decide) rfl
     exact⟨k+1,(cs'.setIfInBounds (o+5) (.string x.text)),rfl,by rw[hnx.o];go_num,by omega,by omega,(HB2.o.set_ (o+5) (.string x.text)),(by simpa using hz'),(set_far (o:=o) (a:=5) (v:=.string x.text) HFAR.o (by omega)),by rw[htk.o];exact hrs.keep (Keeps.setCell (wz) ⟨g,o+5,none⟩ (.string x.text)) (by simpa using hxg) (fun q hq=>.inl (by simp at hq;omega)),(HKW.o.trans (hkz) (by simp)).trans (Keeps.setCell (wz) ⟨g,o+5,none⟩ (.string x.text)) (by simp)⟩
    ·as_aux_lemma=>
     have hkd:kindOf x.id=7:=by rw[hid];rfl
     have he:encP x=UInt8.ofNat 9::lp x.text.data.toList:=by unfold encP;rw[hkd,hid];rfl
     have hdr:=HDR.o
     rw[he,List.cons_append] at hdr
     have hnx:=HNXT.o
     rw[he,List.length_cons] at hnx
     have hk1:=decKey_c wr xb ob c (encL l++rest) _ off 9 9 rfl (by decide) HRR.o hdr (by rw[HLE.o];exact hxl)
     rw[HLE.o] at hk1
     have HK:=hH hk1
     have HV1:=hH (vppT_c wr 9 9 pkt rfl (by decide) (by have h:=HVP.o;rwa [hid] at h))
     have hdr1:(encL l++rest).drop (off+1)=lp x.text.data.toList++(encL (l.drop (k+1))++rest):=drop_one hdr
     have hon:=HON.o
     rw[he,List.length_cons] at hon
     clear hk1 hdr
     have ca0:=HBR.o.cell (o)
     have hsz:o<cs'.size:=by omega
     obtain⟨v0,hv0⟩:=gv hsz
     clear ca0 hsz
     have hn:=HOK.o.k7 hkd
     rw[lp_length,tl_len] at hnx hon
     have hk2:=decodeBytes_c wr xb ob c (encL l++rest) x.text.data.toList _ (off+1) (rb_rd HRR.o) hdr1 (by rw[tl_len];omega) (by rw[HLE.o];exact hxl) (by rw[HLE.o];exact hc1)
     rw[HLE.o,if_neg (by omega),tl_len] at hk2
     have HV2:=hH hk2
     have hrd:Hd (∀w',Keeps [] wr w'→Rd w' 1 (some ⟨xb,ob+(off+1+2),none⟩) x.text.size (bvs x.text.data.toList)):=by
      exact zI0
     have hts:=hn.2
     have hnx:=hH hnx
     clear hk2 hdr1 hn hon he hkd
     go_wp2_with fail
     go_fit (HK.o)
     rintro e wz ⟨rfl,rfl⟩
     go_wp2_with fail
     go_fit (HV1.o)
     rintro e wz ⟨rfl,rfl⟩
     go_wp2_with fail
     go_fit (HV2.o)
     rintro e wz ⟨rfl,m,rfl⟩
     have HB2:=hH (HBR.o.keep (Keeps.drewN wr m) (by simp))
     have c0:(wr.drewN m).cell? ⟨g,o,none⟩=some v0:=by rw[HB2.o.cell];exact hv0
     have f0:=HB2.o.frozen (o)
     clear hv0
     go_wp2_with fail
     refine Handed.intro g' (by omega) (HJ.o _ _ _ ⟨rfl,rfl,rfl,rfl,rfl,rfl,?_⟩)
     have hrs:RSt B xb (wr.drewN m) o (l.take k++[x]) (cs'.setIfInBounds (o) (.slice (some ⟨xb,ob+(off+1+2),none⟩) x.text.size (c-(off+1+2)))):=(HST.o.keep (Keeps.drewN wr m) (by simp) (by simp)).data0 (by omega) hid _ _ (hrd.o _ (Keeps.drewN wr m)) (by simp)
     exact⟨k+1,(cs'.setIfInBounds (o) (.slice (some ⟨xb,ob+(off+1+2),none⟩) x.text.size (c-(off+1+2)))),rfl,by rw[hnx.o];go_num,by omega,by omega,(HB2.o.set_ (o) (.slice (some ⟨xb,ob+(off+1+2),none⟩) x.text.size (c-(off+1+2)))),(by simpa using hz'),(set_far (o:=o) (a:=0) (v:=.slice (some ⟨xb,ob+(off+1+2),none⟩) x.text.size (c-(off+1+2))) HFAR.o (by omega)),by rw[htk.o];exact hrs.keep (Keeps.setCell (wr.drewN m) ⟨g,o,none⟩ (.slice (some ⟨xb,ob+(off+1+2),none⟩) x.text.size (c-(off+1+2)))) (by simpa using hxg) (fun q hq=>.inl (by simp at hq;omega)),(HKW.o.trans ((Keeps.drewN wr m)) (by simp)).trans (Keeps.setCell (wr.drewN m) ⟨g,o,none⟩ (.slice (some ⟨xb,ob+(off+1+2),none⟩) x.text.size (c-(off+1+2)))) (by simp)⟩
    ·as_aux_lemma=>
     have hkd:kindOf x.id=5:=by rw[hid];rfl
     have he:encP x=UInt8.ofNat 11::vlen x.n:=by unfold encP;rw[hkd,hid,if_neg (by decide),if_neg (by decide),if_neg (by decide),if_pos rfl];rfl
     have hdr:=HDR.o
     rw[he,List.cons_append] at hdr
     have hnx:=HNXT.o
     rw[he,List.length_cons] at hnx
     have hk1:=decKey_c wr xb ob c (encL l++rest) _ off 11 11 rfl (by decide) HRR.o hdr (by rw[HLE.o];exact hxl)
     rw[HLE.o] at hk1
     have HK:=hH hk1
     have HV1:=hH (vppT_c wr 11 11 pkt rfl (by decide) (by have h:=HVP.o;rwa [hid] at h))
     have hdr1:(encL l++rest).drop (off+1)=vlen x.n++(encL (l.drop (k+1))++rest):=drop_one hdr
     have hon:=HON.o
     rw[he,List.length_cons] at hon
     clear hk1 hdr
     have ca0:=HBR.o.cell (o+1)
     have hsz:o+1<cs'.size:=by omega
     obtain⟨v0,hv0⟩:=gv hsz
     clear ca0 hsz
     have hn:=HOK.o.k5 hkd
     have hNb:(vlen x.n).length≤4:=vlen_le x.n hn.2
     have hV0:=vlen_pos x.n
     obtain⟨VN,hVN⟩:∃VN,(vlen x.n).length=VN:=⟨_,rfl⟩
     have hol:((encL l++rest).drop (off+1)).length=NX-(off+1):=by rw[List.length_drop,HLE.o]
     have hnbf:=fun (w':World) (k':Keeps [g] wr w') (hlt':xb<w'.heap.size)=>newBuffer_c w' xb (ob+(off+1)) (c-(off+1)) ((encL l++rest).drop (off+1)) ((HRR.o.keep k' (by simpa using hxg)).drop (off+1)) (by rw[hol];omega) hlt'
     rw[hol] at hnbf
     have HNB:=hH hnbf
     have hdlf:=fun (w':World) (b':Nat) (hb':RBuf w' b' xb ((encL l++rest).drop (off+1)))=>decodeLength_c w' b' xb x.n (encL (l.drop (k+1))++rest) hn.2 (by rw[←hdr1];exact hb') (by have h1:=congrArg List.length hdr1;have h2:=HNXB.o;rw[hol,List.length_append] at h1;omega)
     rw[hVN] at hdlf hnx hon hNb hV0
     have HDL:=hH hdlf
     have hnx:=hH hnx
     have hck:¬(c=off+1):=by omega
     have hcz:(off:Int)+1≤(NX:Int):=by omega
     have hxn:=hn.2
     clear hnbf hdlf hdr1 hon he hkd hol hVN hn
     go_wp2_with fail
     go_fit (HK.o)
     rintro e wz ⟨rfl,rfl⟩
     go_wp2_with fail
     go_fit (HV1.o)
     rintro e wz ⟨rfl,rfl⟩
     obtain⟨i0,hi0,hz0,hz1,hz2⟩:=info_parts infoR3
     obtain⟨A1,c1,x1,x2,x3⟩:=HST.o.nm
     have hle:(numsOf (l.take k)).length≤l.length:=Nat.le_trans (numsOf_le _) (by simp;omega)
     obtain⟨NL,hNL⟩:∃NL,(numsOf (l.take k)).length=NL:=⟨_,rfl⟩
     rw[hNL] at x1 x2 hle
     have HNN:=hH hNL
     clear hNL
     have hBwr:B≤wr.heap.size:=by have h1:=HBE.o;have h3:=HKW.o.size;omega
     rcases A1 with _|a1
     ·obtain⟨hNL0,hc10⟩:=own_none x2
      subst hNL0 hc10
      have hnil:∀w:World,(binOp .eql 25 (.slice none 0 0) (.slice none 0 0)).run prog w=.ok (.bool true) w:=fun _=>rfl
      have HBR1:=hH (HBR.o.keep (Keeps.alloc wr (.cells #[] 3)) (by simp))
      have c0:wr.cell? ⟨g,o+1,none⟩=some (.slice none 0 0):=by rw[HBR.o.cell];exact x1
      have c0b:(wr.alloc (.cells #[] 3)).cell? ⟨g,o+1,none⟩=some (.slice none 0 0):=by rw[HBR1.o.cell];exact x1
      have f0b:(wr.alloc (.cells #[] 3)).frozen? ⟨g,o+1,none⟩=false:=HBR1.o.frozen _
      have hka:Keeps [g] wr ((wr.alloc (.cells #[] 3)).setCell ⟨g,o+1,none⟩ (.slice (some ⟨wr.heap.size,0,none⟩) 0 0)):=((Keeps.alloc wr (.cells #[] 3)).mono (by simp)).trans (Keeps.setCell _ ⟨g,o+1,none⟩ _) (by simp)
      have hgwr:g<wr.heap.size:=HBR.o.lt
      have hq:Blk ((wr.alloc (.cells #[] 3)).setCell ⟨g,o+1,none⟩ (.slice (some ⟨wr.heap.size,0,none⟩) 0 0)) wr.heap.size 3 #[]:=(Blk.new wr 3 #[]).far (p:=⟨g,o+1,none⟩) (by simp only;omega) _
      have hrw:=((HST.o.keep (Keeps.alloc wr (.cells #[] 3)) (by simp) (by simp)).keep (Keeps.setCell _ ⟨g,o+1,none⟩ (.slice (some ⟨wr.heap.size,0,none⟩) 0 0)) (by simpa using hxg) (fun q hq=>.inl (by simp at hq;omega)):RSt B xb ((wr.alloc (.cells #[] 3)).setCell ⟨g,o+1,none⟩ (.slice (some ⟨wr.heap.size,0,none⟩) 0 0)) o (l.take k) cs').nil1 (by omega) HNN.o hq hBwr
      have hown:((wr.alloc (.cells #[] 3)).setCell ⟨g,o+1,none⟩ (.slice (some ⟨wr.heap.size,0,none⟩) 0 0)).ownsRow 0 3 1 (.slice (some ⟨wr.heap.size,0,none⟩) 0 0) 0 ((numsOf (l.take k)).map fun (n:Nat)=>.int .i64 (n:Int)):=by rw[List.eq_nil_of_length_eq_zero HNN.o];simpa using own_blk hq 1 0 0 rfl (by omega) (by unfold maxLen;omega)
      have HC1:Hd ((cs'.setIfInBounds (o+1) (.slice (some ⟨wr.heap.size,0,none⟩) 0 0))[o+1]?=some (.slice (some ⟨wr.heap.size,0,none⟩) 0 0)):=by show _=_;rw[Array.getElem?_setIfInBounds,if_pos rfl,if_pos (by omega)]
      have HFA:Hd (∀j,j<o∨o+37≤j→(cs'.setIfInBounds (o+1) (.slice (some ⟨wr.heap.size,0,none⟩) 0 0))[j]?=cs[j]?):=set_far (o:=o) (a:=1) HFAR.o (by omega)
      have HX3:Hd (∀q,(some (⟨wr.heap.size,0,none⟩:Addr)).map (·.block)=some q→B≤q):=fun q hq=>by simp at hq;omega
      have HRW:=hH hrw
      have HOWN:=hH hown
      have HKA:=hH hka
      have HBA:=hH (HBR1.o.set_ (o+1) (.slice (some ⟨wr.heap.size,0,none⟩) 0 0))
      clear hrw hown hka hq x1 x2 x3 hv0
      obtain⟨Wa,hWa⟩:∃Wa,(wr.alloc (.cells #[] 3)).setCell ⟨g,o+1,none⟩ (.slice (some ⟨wr.heap.size,0,none⟩) 0 0)=Wa:=⟨_,rfl⟩
      rw[hWa] at HKA HOWN HRW HBA
      have HWA:=hH hWa
      clear hWa
      go_wp2_with fail
      rw[swap_set_alloc _ _ _ _ _ HBR.o.lt,HWA.o]
      go_fit (HNB.o (Wa) HKA.o (by have h1:=HBE.o;have h3:=HKW.o.size;have h4:=(HKA.o).size;omega))
      rintro e wb ⟨rfl,hb,hkb,hszb⟩
      go_wp2_with fail
      go_fit (HDL.o wb _ hb)
      rintro e wd ⟨rfl,hbd,hkd⟩
      clear hb hbd
      have hgW:g<(Wa).heap.size:=(HBA.o).lt
      have hkbd:Keeps [(Wa).heap.size] (Wa) wd:=(hkb.mono (by simp)).trans hkd (by simp)
      have HBd:=hH ((HBA.o).keep hkbd (by simp only[List.mem_singleton];omega))
      have hxw:xb<(Wa).heap.size:=by have h1:=HBE.o;have h3:=HKW.o.size;have h4:=(HKA.o).size;omega
      have hrd:=(HRW.o).keep hkbd (by simp only[List.mem_singleton];omega) (fun q hq=>.inr (by simp only[List.mem_singleton] at hq;omega))
      have hod:=ownsRow_keep (HOWN.o) hkbd (fun q hq=>by have h1:=own_lt (HOWN.o) q (by rw[own_slice] at hq;exact hq);simp only[List.mem_singleton];omega)
      have ca:wd.cell? ⟨g,o+1,none⟩=some (.slice (some ⟨wr.heap.size,0,none⟩) 0 0):=by rw[HBd.o.cell];exact HC1.o
      have ho2:(wd.alloc (.cells #[.int .i64 (x.n:Int)] 3)).ownsRow 0 3 1 (.slice (some ⟨wr.heap.size,0,none⟩) 0 0) 0 _:=hod.alloc _
      have hr2:Rd (wd.alloc (.cells #[.int .i64 (x.n:Int)] 3)) 1 (some ⟨wd.heap.size,0,none⟩) 1 [.int .i64 (x.n:Int)]:=rd_new wd 3 #[.int .i64 (x.n:Int)] 1 1 rfl
      have HB2b:=hH (HBd.o.alloc (.cells #[.int .i64 (x.n:Int)] 3))
      have HST2:=hH (hrd.keep ((Keeps.alloc wd (.cells #[.int .i64 (x.n:Int)] 3)).mono (by simp)) (by simp) (S:=[]) (by simp))
      have hk12:Keeps [g] wr (wd.alloc (.cells #[.int .i64 (x.n:Int)] 3)):=((HKA.o).trans hkbd (fun q hq=>.inr (by simp only[List.mem_singleton] at hq;have h4:=(HKA.o).size;omega))).trans (Keeps.alloc _ _) (by simp)
      have hBw:B≤(wd.alloc (.cells #[.int .i64 (x.n:Int)] 3)).heap.size:=by have h1:=HBE.o;have h3:=HKW.o.size;have h4:=hk12.size;omega
      have HK12:=hH hk12
      have HX2:=hH ho2
      have HR2:=hH hr2
      clear hk12 ho2 hr2 hrd hod hkbd hkb hkd
      go_wp2_with (at_builtin;refine wpList_append_rd _ rfl (.tmp 159) (.tmp 161) 25 rfl 3 i0 _ 1 8 underlying25 hi0 hz0 hz1 hz2 rfl (by decide) (.slice (some ⟨wr.heap.size,0,none⟩) 0 0) 0 _ rfl HX2.o _ 1 1 _ rfl HR2.o (by intro u hu;simp at hu;subst hu;rfl) (by omega) (by unfold maxLen;omega) ?_;intro A2 c2 w3 ho3 hk3 hd3;rw[own_slice] at hk3 hd3;have hne:g∉(((some ⟨wr.heap.size,0,none⟩):Option Addr).map (·.block)).toList:=(by intro hm;cases e:((some ⟨wr.heap.size,0,none⟩):Option Addr).map (·.block) with|none=>rw[e] at hm;simp at hm|some q=>rw[e] at hm;simp at hm;have:=HX3.o q e;omega);have HB3:=hH (HB2b.o.keep hk3 hne);have ca3:w3.cell? ⟨g,o+1,none⟩=some (.slice (some ⟨wr.heap.size,0,none⟩) 0 0):=(by rw[HB3.o.cell];exact HC1.o);have fa3:w3.frozen? ⟨g,o+1,none⟩=false:=HB3.o.frozen _)
      refine Handed.intro g' (by omega) (HJ.o _ _ _ ⟨rfl,rfl,rfl,rfl,rfl,rfl,?_⟩)
      have hBA:∀q,A2.map (·.block)=some q→B≤q:=fun q hq=>(by rcases hd3 with h|h;exact HX3.o q (by rw[←h,hq]);rw[h] at hq;injection hq with hq;omega)
      have hrs:=HST2.o.row1 (A:=A2) (c:=c2) (A0:=(some ⟨wr.heap.size,0,none⟩)) (c0:=0) (cs:=(cs'.setIfInBounds (o+1) (.slice (some ⟨wr.heap.size,0,none⟩) 0 0))) (by simp;omega) hid (by rw[HNN.o];exact HX2.o) HX3.o hk3 hxB (by rw[HNN.o];exact ho3) hBA
      rw[HNN.o] at hrs
      exact⟨k+1,_,rfl,by rw[hnx.o];go_num,by omega,by omega,HB3.o.set_ (o+1) (.slice A2 (0+1) c2),by simpa using hz',set_far (o:=o) (a:=1) HFA.o (by omega),by rw[htk.o];exact hrs.keep (Keeps.setCell _ ⟨g,o+1,none⟩ _) (by simpa using hxg) (fun q hq=>.inl (by simp at hq;omega)),((HKW.o.trans HK12.o (by simp)).trans hk3 (fun q hq=>.inr (by cases e:((some ⟨wr.heap.size,0,none⟩):Option Addr).map (·.block) with|none=>rw[e] at hq;simp at hq|some r=>rw[e] at hq;simp at hq;have h9:=HX3.o r e;have h1:=HBE.o;omega))).trans (Keeps.setCell _ _ _) (by simp)⟩
     ·have hnil:∀w:World,(binOp .eql 25 (.slice (some a1) NL c1) (.slice none 0 0)).run prog w=.ok (.bool false) w:=fun _=>rfl
      have c0:wr.cell? ⟨g,o+1,none⟩=some (.slice (some a1) NL c1):=by rw[HBR.o.cell];exact x1
      have HC1:=hH x1
      have HX3:=hH x3
      have HOWN:=hH x2
      have HFA:=HFAR
      have HKA:Hd (Keeps [g] wr wr):=Keeps.refl _ _
      clear x1 x2 x3 hv0
      go_wp2_with fail
      go_fit (HNB.o (wr) HKA.o (by have h1:=HBE.o;have h3:=HKW.o.size;have h4:=(HKA.o).size;omega))
      rintro e wb ⟨rfl,hb,hkb,hszb⟩
      go_wp2_with fail
      go_fit (HDL.o wb _ hb)
      rintro e wd ⟨rfl,hbd,hkd⟩
      clear hb hbd
      have hgW:g<(wr).heap.size:=(HBR.o).lt
      have hkbd:Keeps [(wr).heap.size] (wr) wd:=(hkb.mono (by simp)).trans hkd (by simp)
      have HBd:=hH ((HBR.o).keep hkbd (by simp only[List.mem_singleton];omega))
      have hxw:xb<(wr).heap.size:=by have h1:=HBE.o;have h3:=HKW.o.size;have h4:=(HKA.o).size;omega
      have hrd:=(HST.o).keep hkbd (by simp only[List.mem_singleton];omega) (fun q hq=>.inr (by simp only[List.mem_singleton] at hq;omega))
      have hod:=ownsRow_keep (HOWN.o) hkbd (fun q hq=>by have h1:=own_lt (HOWN.o) q (by rw[own_slice] at hq;exact hq);simp only[List.mem_singleton];omega)
      have ca:wd.cell? ⟨g,o+1,none⟩=some (.slice (some a1) NL c1):=by rw[HBd.o.cell];exact HC1.o
      have ho2:(wd.alloc (.cells #[.int .i64 (x.n:Int)] 3)).ownsRow 0 3 1 (.slice (some a1) NL c1) NL _:=hod.alloc _
      have hr2:Rd (wd.alloc (.cells #[.int .i64 (x.n:Int)] 3)) 1 (some ⟨wd.heap.size,0,none⟩) 1 [.int .i64 (x.n:Int)]:=rd_new wd 3 #[.int .i64 (x.n:Int)] 1 1 rfl
      have HB2b:=hH (HBd.o.alloc (.cells #[.int .i64 (x.n:Int)] 3))
      have HST2:=hH (hrd.keep ((Keeps.alloc wd (.cells #[.int .i64 (x.n:Int)] 3)).mono (by simp)) (by simp) (S:=[]) (by simp))
      have hk12:Keeps [g] wr (wd.alloc (.cells #[.int .i64 (x.n:Int)] 3)):=((HKA.o).trans hkbd (fun q hq=>.inr (by simp only[List.mem_singleton] at hq;have h4:=(HKA.o).size;omega))).trans (Keeps.alloc _ _) (by simp)
      have hBw:B≤(wd.alloc (.cells #[.int .i64 (x.n:Int)] 3)).heap.size:=by have h1:=HBE.o;have h3:=HKW.o.size;have h4:=hk12.size;omega
      have HK12:=hH hk12
      have HX2:=hH ho2
      have HR2:=hH hr2
      clear hk12 ho2 hr2 hrd hod hkbd hkb hkd
      go_wp2_with (at_builtin;refine wpList_append_rd _ rfl (.tmp 159) (.tmp 161) 25 rfl 3 i0 _ 1 8 underlying25 hi0 hz0 hz1 hz2 rfl (by decide) (.slice (some a1) NL c1) NL _ rfl HX2.o _ 1 1 _ rfl HR2.o (by intro u hu;simp at hu;subst hu;rfl) (by omega) (by unfold maxLen;omega) ?_;intro A2 c2 w3 ho3 hk3 hd3;rw[own_slice] at hk3 hd3;have hne:g∉(((some a1):Option Addr).map (·.block)).toList:=(by intro hm;cases e:((some a1):Option Addr).map (·.block) with|none=>rw[e] at hm;simp at hm|some q=>rw[e] at hm;simp at hm;have:=HX3.o q e;omega);have HB3:=hH (HB2b.o.keep hk3 hne);have ca3:w3.cell? ⟨g,o+1,none⟩=some (.slice (some a1) NL c1):=(by rw[HB3.o.cell];exact HC1.o);have fa3:w3.frozen? ⟨g,o+1,none⟩=false:=HB3.o.frozen _)
      refine Handed.intro g' (by omega) (HJ.o _ _ _ ⟨rfl,rfl,rfl,rfl,rfl,rfl,?_⟩)
      have hBA:∀q,A2.map (·.block)=some q→B≤q:=fun q hq=>(by rcases hd3 with h|h;exact HX3.o q (by rw[←h,hq]);rw[h] at hq;injection hq with hq;omega)
      have hrs:=HST2.o.row1 (A:=A2) (c:=c2) (A0:=(some a1)) (c0:=c1) (cs:=cs') (by skip;omega) hid (by rw[HNN.o];exact HX2.o) HX3.o hk3 hxB (by rw[HNN.o];exact ho3) hBA
      rw[HNN.o] at hrs
      exact⟨k+1,_,rfl,by rw[hnx.o];go_num,by omega,by omega,HB3.o.set_ (o+1) (.slice A2 (NL+1) c2),by simpa using hz',set_far (o:=o) (a:=1) HFA.o (by omega),by rw[htk.o];exact hrs.keep (Keeps.setCell _ ⟨g,o+1,none⟩ _) (by simpa using hxg) (fun q hq=>.inl (by simp at hq;omega)),((HKW.o.trans HK12.o (by simp)).trans hk3 (fun q hq=>.inr (by cases e:((some a1):Option Addr).map (·.block) with|none=>rw[e] at hq;simp at hq|some r=>rw[e] at hq;simp at hq;have h9:=HX3.o r e;have h1:=HBE.o;omega))).trans (Keeps.setCell _ _ _) (by simp)⟩
    ·as_aux_lemma=>
     have hkd:kindOf x.id=4:=by rw[hid];rfl
     have he:encP x=UInt8.ofNat 17::be4 x.n:=by unfold encP;rw[hkd,hid];rfl
     have hdr:=HDR.o
     rw[he,List.cons_append] at hdr
     have hnx:=HNXT.o
     rw[he,List.length_cons] at hnx
     have hk1:=decKey_c wr xb ob c (encL l++rest) _ off 17 17 rfl (by decide) HRR.o hdr (by rw[HLE.o];exact hxl)
     rw[HLE.o] at hk1
     have HK:=hH hk1
     have HV1:=hH (vppT_c wr 17 17 pkt rfl (by decide) (by have h:=HVP.o;rwa [hid] at h))
     have hdr1:(encL l++rest).drop (off+1)=be4 x.n++(encL (l.drop (k+1))++rest):=drop_one hdr
     have hon:=HON.o
     rw[he,List.length_cons] at hon
     clear hk1 hdr
     have ca0:=HBR.o.cell (o+12)
     have hsz:o+12<cs'.size:=by omega
     obtain⟨v0,hv0⟩:=gv hsz
     obtain⟨v1,hv1⟩:∃v1,cs'[o+21]?=some v1:=⟨_,Array.getElem?_eq_getElem (by omega)⟩
     clear ca0 hsz
     have ok:=HOK.o
     have hn:=(ok.k4 hkd).1
     have hk2:=decodeUint32_c wr (some ⟨xb,ob,none⟩) c (encL l++rest) _ (off+1) x.n (rb_rd HRR.o) hdr1 (by omega) (by rw[HLE.o];exact hxl) (by rw[HLE.o];exact hc1)
     rw[HLE.o] at hk2
     have HV2:=hH hk2
     rw[be4_length] at hnx
     have hnx:=hH hnx
     clear hk2 hdr1 ok hn hon he hkd
     go_wp2_with fail
     go_fit (HK.o)
     rintro e wz ⟨rfl,rfl⟩
     go_wp2_with fail
     go_fit (HV1.o)
     rintro e wz ⟨rfl,rfl⟩
     go_wp2_with fail
     go_fit (HV2.o)
     rintro e wz ⟨rfl,m,rfl⟩
     have HB2:=hH (HBR.o.keep (Keeps.drewN wr m) (by simp))
     have c0:(wr.drewN m).cell? ⟨g,o+12,none⟩=some v0:=by rw[HB2.o.cell];exact hv0
     have f0:=HB2.o.frozen (o+12)
     have c1:(wr.drewN m).cell? ⟨g,o+21,none⟩=some v1:=by rw[HB2.o.cell];exact hv1
     have f1:=HB2.o.frozen (o+21)
     clear hv0 hv1
     go_wp2_with fail
     refine Handed.intro g' (by omega) (HJ.o _ _ _ ⟨rfl,rfl,rfl,rfl,rfl,rfl,?_⟩)
     have hrs:RSt B xb (wr.drewN m) o (l.take k++[x]) ((cs'.setIfInBounds (o+12) (.int .u32 (x.n:Int))).setIfInBounds (o+21) (.bool true)):=(HST.o.keep (Keeps.drewN wr m) (by simp) (by simp)).two (by omega) 17 12 21 _ _ hid (by omega) (by omega) (by omega) (by omega) (by omega) rfl rfl (by decide) rfl rfl
     exact⟨k+1,((cs'.setIfInBounds (o+12) (.int .u32 (x.n:Int))).setIfInBounds (o+21) (.bool true)),rfl,by rw[hnx.o];go_num,by omega,by omega,((HB2.o.set_ (o+12) (.int .u32 (x.n:Int))).set_ (o+21) (.bool true)),(by simpa using hz'),(set_far (o:=o) (a:=21) (v:=.bool true) (set_far (o:=o) (a:=12) (v:=.int .u32 (x.n:Int)) HFAR.o (by omega)) (by omega)),by rw[htk.o];exact hrs.keep (((Keeps.setCell (wr.drewN m) ⟨g,o+12,none⟩ (.int .u32 (x.n:Int)))).trans (Keeps.setCell _ ⟨g,o+21,none⟩ (.bool true)) (by simp)) (by simpa using hxg) (fun q hq=>.inl (by simp at hq;omega)),(HKW.o.trans ((Keeps.drewN wr m)) (by simp)).trans (((Keeps.setCell (wr.drewN m) ⟨g,o+12,none⟩ (.int .u32 (x.n:Int)))).trans (Keeps.setCell _ ⟨g,o+21,none⟩ (.bool true)) (by simp)) (by simp)⟩
    ·as_aux_lemma=>
     have hkd:kindOf x.id=6:=by rw[hid];rfl
     have he:encP x=UInt8.ofNat 18::lp x.text.data.toList:=by unfold encP;rw[hkd,hid];rfl
     have hdr:=HDR.o
     rw[he,List.cons_append] at hdr
     have hnx:=HNXT.o
     rw[he,List.length_cons] at hnx
     have hk1:=decKey_c wr xb ob c (encL l++rest) _ off 18 18 rfl (by decide) HRR.o hdr (by rw[HLE.o];exact hxl)
     rw[HLE.o] at hk1
     have HK:=hH hk1
     have HV1:=hH (vppT_c wr 18 18 pkt rfl (by decide) (by have h:=HVP.o;rwa [hid] at h))
     have hdr1:(encL l++rest).drop (off+1)=lp x.text.data.toList++(encL (l.drop (k+1))++rest):=drop_one hdr
     have hon:=HON.o
     rw[he,List.length_cons] at hon
     clear hk1 hdr
     have ca0:=HBR.o.cell (o+6)
     have hsz:o+6<cs'.size:=by omega
     obtain⟨v0,hv0⟩:=gv hsz
     clear ca0 hsz
     have hn:=HOK.o.k6 hkd
     have hk2:=decodeString_c wr xb ob c (encL l++rest) _ x.text (off+1) HRR.o hdr1 hn.1.1 (by rw[HLE.o];exact hxl) (by rw[HLE.o];exact hc1) hn.1.2.1 hn.1.2.2 HTR.o
     rw[HLE.o] at hk2
     have HV2:=hH hk2
     rw[lp_length,tl_len] at hnx
     have hts:=hn.1.1
     have hnx:=hH hnx
     clear hk2 hdr1 hn hon he hkd
     go_wp2_with fail
     go_fit (HK.o)
     rintro e wz ⟨rfl,rfl⟩
     go_wp2_with fail
     go_fit (HV1.o)
     rintro e wz ⟨rfl,rfl⟩
     go_wp2_with fail
     go_fit (HV2.o)
     rintro e wz ⟨rfl,hkz⟩
     have HB2:=hH (HBR.o.keep hkz (by simp))
     have c0:(wz).cell? ⟨g,o+6,none⟩=some v0:=by rw[HB2.o.cell];exact hv0
     have f0:=HB2.o.frozen (o+6)
     clear hv0
     go_wp2_with fail
     refine Handed.intro g' (by omega) (HJ.o _ _ _ ⟨rfl,rfl,rfl,rfl,rfl,rfl,?_⟩)
     have hrs:RSt B xb (wz) o (l.take k++[x]) (cs'.setIfInBounds (o+6) (.string x.text)):=(HST.o.keep hkz (by simp) (by simp)).one (by omega) 18 6 _ hid (by omega) (by omega) rfl (by decide) rfl
     exact⟨k+1,(cs'.setIfInBounds (o+6) (.string x.text)),rfl,by rw[hnx.o];go_num,by omega,by omega,(HB2.o.set_ (o+6) (.string x.text)),(by simpa using hz'),(set_far (o:=o) (a:=6) (v:=.string x.text) HFAR.o (by omega)),by rw[htk.o];exact hrs.keep (Keeps.setCell (wz) ⟨g,o+6,none⟩ (.string x.text)) (by simpa using hxg) (fun q hq=>.inl (by simp at hq;omega)),(HKW.o.trans (hkz) (by simp)).trans (Keeps.setCell (wz) ⟨g,o+6,none⟩ (.string x.text)) (by simp)⟩
    ·as_aux_lemma=>
     have hkd:kindOf x.id=2:=by rw[hid];rfl
     have he:encP x=UInt8.ofNat 19::be2 x.n:=by unfold encP;rw[hkd,hid];rfl
     have hdr:=HDR.o
     rw[he,List.cons_append] at hdr
     have hnx:=HNXT.o
     rw[he,List.length_cons] at hnx
     have hk1:=decKey_c wr xb ob c (encL l++rest) _ off 19 19 rfl (by decide) HRR.o hdr (by rw[HLE.o];exact hxl)
     rw[HLE.o] at hk1
     have HK:=hH hk1
     have HV1:=hH (vppT_c wr 19 19 pkt rfl (by decide) (by have h:=HVP.o;rwa [hid] at h))
     have hdr1:(encL l++rest).drop (off+1)=be2 x.n++(encL (l.drop (k+1))++rest):=drop_one hdr
     have hon:=HON.o
     rw[he,List.length_cons] at hon
     clear hk1 hdr
     have ca0:=HBR.o.cell (o+15)
     have hsz:o+15<cs'.size:=by omega
     obtain⟨v0,hv0⟩:=gv hsz
     obtain⟨v1,hv1⟩:∃v1,cs'[o+22]?=some v1:=⟨_,Array.getElem?_eq_getElem (by omega)⟩
     clear ca0 hsz
     have ok:=HOK.o
     have hn:=(ok.k2 hkd).1
     have hk2:=decodeUint16_c wr (some ⟨xb,ob,none⟩) c (encL l++rest) _ (off+1) x.n (rb_rd HRR.o) hdr1 (by omega) (by rw[HLE.o];exact hxl) (by rw[HLE.o];exact hc1)
     rw[HLE.o] at hk2
     have HV2:=hH hk2
     rw[be2_length] at hnx
     have hnx:=hH hnx
     clear hk2 hdr1 ok hn hon he hkd
     go_wp2_with fail
     go_fit (HK.o)
     rintro e wz ⟨rfl,rfl⟩
     go_wp2_with fail
     go_fit (HV1.o)
     rintro e wz ⟨rfl,rfl⟩
     go_wp2_with fail
     go_fit (HV2.o)
     rintro e wz ⟨rfl,m,rfl⟩
     have HB2:=hH (HBR.o.keep (Keeps.drewN wr m) (by simp))
     have c0:(wr.drewN m).cell? ⟨g,o+15,none⟩=some v0:=by rw[HB2.o.cell];exact hv0
     have f0:=HB2.o.frozen (o+15)
     have c1:(wr.drewN m).cell? ⟨g,o+22,none⟩=some v1:=by rw[HB2.o.cell];exact hv1
     have f1:=HB2.o.frozen (o+22)
     clear hv0 hv1
     go_wp2_with fail
     refine Handed.intro g' (by omega) (HJ.o _ _ _ ⟨rfl,rfl,rfl,rfl,rfl,rfl,?_⟩)
     have hrs:RSt B xb (wr.drewN m) o (l.take k++[x]) ((cs'.setIfInBounds (o+15) (.int .u16 (x.n:Int))).setIfInBounds (o+22) (.bool true)):=(HST.o.keep (Keeps.drewN wr m) (by simp) (by simp)).two (by omega) 19 15 22 _ _ hid (by omega) (by omega) (by omega) (by omega) (by omega) rfl rfl (by decide) rfl rfl
     exact⟨k+1,((cs'.setIfInBounds (o+15) (.int .u16 (x.n:Int))).setIfInBounds (o+22) (.bool true)),rfl,by rw[hnx.o];go_num,by omega,by omega,((HB2.o.set_ (o+15) (.int .u16 (x.n:Int))).set_ (o+22) (.bool true)),(by simpa using hz'),(set_far (o:=o) (a:=22) (v:=.bool true) (set_far (o:=o) (a:=15) (v:=.int .u16 (x.n:Int)) HFAR.o (by omega)) (by omega)),by rw[htk.o];exact hrs.keep (((Keeps.setCell (wr.drewN m) ⟨g,o+15,none⟩ (.int .u16 (x.n:Int)))).trans (Keeps.setCell _ ⟨g,o+22,none⟩ (.bool true)) (by simp)) (by simpa using hxg) (fun q hq=>.inl (by simp at hq;omega)),(HKW.o.trans ((Keeps.drewN wr m)) (by simp)).trans (((Keeps.setCell (wr.drewN m) ⟨g,o+15,none⟩ (.int .u16 (x.n:Int)))).trans (Keeps.setCell _ ⟨g,o+22,none⟩ (.bool true)) (by simp)) (by simp)⟩
    ·as_aux_lemma=>
     have hkd:kindOf x.id=6:=by rw[hid];rfl
     have he:encP x=UInt8.ofNat 21::lp x.text.data.toList:=by unfold encP;rw[hkd,hid];rfl
     have hdr:=HDR.o
     rw[he,List.cons_append] at hdr
     have hnx:=HNXT.o
     rw[he,List.length_cons] at hnx
     have hk1:=decKey_c wr xb ob c (encL l++rest) _ off 21 21 rfl (by decide) HRR.o hdr (by rw[HLE.o];exact hxl)
     rw[HLE.o] at hk1
     have HK:=hH hk1
     have HV1:=hH (vppT_c wr 21 21 pkt rfl (by decide) (by have h:=HVP.o;rwa [hid] at h))
     have hdr1:(encL l++rest).drop (off+1)=lp x.text.data.toList++(encL (l.drop (k+1))++rest):=drop_one hdr
     have hon:=HON.o
     rw[he,List.length_cons] at hon
     clear hk1 hdr
     have ca0:=HBR.o.cell (o+7)
     have hsz:o+7<cs'.size:=by omega
     obtain⟨v0,hv0⟩:=gv hsz
     clear ca0 hsz
     have hn:=HOK.o.k6 hkd
     have hk2:=decodeString_c wr xb ob c (encL l++rest) _ x.text (off+1) HRR.o hdr1 hn.1.1 (by rw[HLE.o];exact hxl) (by rw[HLE.o];exact hc1) hn.1.2.1 hn.1.2.2 HTR.o
     rw[HLE.o] at hk2
     have HV2:=hH hk2
     rw[lp_length,tl_len] at hnx
     have hts:=hn.1.1
     have hnx:=hH hnx
     clear hk2 hdr1 hn hon he hkd
     go_wp2_with fail
     go_fit (HK.o)
     rintro e wz ⟨rfl,rfl⟩
     go_wp2_with fail
     go_fit (HV1.o)
     rintro e wz ⟨rfl,rfl⟩
     go_wp2_with fail
     go_fit (HV2.o)
     rintro e wz ⟨rfl,hkz⟩
     have HB2:=hH (HBR.o.keep hkz (by simp))
     have c0:(wz).cell? ⟨g,o+7,none⟩=some v0:=by rw[HB2.o.cell];exact hv0
     have f0:=HB2.o.frozen (o+7)
     clear hv0
     go_wp2_with fail
     refine Handed.intro g' (by omega) (HJ.o _ _ _ ⟨rfl,rfl,rfl,rfl,rfl,rfl,?_⟩)
     have hrs:RSt B xb (wz) o (l.take k++[x]) (cs'.setIfInBounds (o+7) (.string x.text)):=(HST.o.keep hkz (by simp) (by simp)).one (by omega) 21 7 _ hid (by omega) (by omega) rfl (by decide) rfl
     exact⟨k+1,(cs'.setIfInBounds (o+7) (.string x.text)),rfl,by rw[hnx.o];go_num,by omega,by omega,(HB2.o.set_ (o+7) (.string x.text)),(by simpa using hz'),(set_far (o:=o) (a:=7) (v:=.string x.text) HFAR.o (by omega)),by rw[htk.o];exact hrs.keep (Keeps.setCell (wz) ⟨g,o+7,none⟩ (.string x.text)) (by simpa using hxg) (fun q hq=>.inl (by simp at hq;omega)),(HKW.o.trans (hkz) (by simp)).trans (Keeps.setCell (wz) ⟨g,o+7,none⟩ (.string x.text)) (by simp)⟩
    ·as_aux_lemma=>
     have hkd:kindOf x.id=7:=by rw[hid];rfl
     have he:encP x=UInt8.ofNat 22::lp x.text.data.toList:=by unfold encP;rw[hkd,hid];rfl
     have hdr:=HDR.o
     rw[he,List.cons_append] at hdr
     have hnx:=HNXT.o
     rw[he,List.length_cons] at hnx
     have hk1:=decKey_c wr xb ob c (encL l++rest) _ off 22 22 rfl (by decide) HRR.o hdr (by rw[HLE.o];exact hxl)
     rw[HLE.o] at hk1
     have HK:=hH hk1
     have HV1:=hH (vppT_c wr 22 22 pkt rfl (by decide) (by have h:=HVP.o;rwa [hid] at h))
     have hdr1:(encL l++rest).drop (off+1)=lp x.text.data.toList++(encL (l.drop (k+1))++rest):=drop_one hdr
     have hon:=HON.o
     rw[he,List.length_cons] at hon
     clear hk1 hdr
     have ca0:=HBR.o.cell (o+2)
     have hsz:o+2<cs'.size:=by omega
     obtain⟨v0,hv0⟩:=gv hsz
     clear ca0 hsz
     have hn:=HOK.o.k7 hkd
     rw[lp_length,tl_len] at hnx hon
     have hk2:=decodeBytes_c wr xb ob c (encL l++rest) x.text.data.toList _ (off+1) (rb_rd HRR.o) hdr1 (by rw[tl_len];omega) (by rw[HLE.o];exact hxl) (by rw[HLE.o];exact hc1)
     rw[HLE.o,if_neg (by omega),tl_len] at hk2
     have HV2:=hH hk2
     have hrd:Hd (∀w',Keeps [] wr w'→Rd w' 1 (some ⟨xb,ob+(off+1+2),none⟩) x.text.size (bvs x.text.data.toList)):=by
      exact zI0
     have hts:=hn.2
     have hnx:=hH hnx
     clear hk2 hdr1 hn hon he hkd
     go_wp2_with fail
     go_fit (HK.o)
     rintro e wz ⟨rfl,rfl⟩
     go_wp2_with fail
     go_fit (HV1.o)
     rintro e wz ⟨rfl,rfl⟩
     go_wp2_with fail
     go_fit (HV2.o)
     rintro e wz ⟨rfl,m,rfl⟩
     have HB2:=hH (HBR.o.keep (Keeps.drewN wr m) (by simp))
     have c0:(wr.drewN m).cell? ⟨g,o+2,none⟩=some v0:=by rw[HB2.o.cell];exact hv0
     have f0:=HB2.o.frozen (o+2)
     clear hv0
     go_wp2_with fail
     refine Handed.intro g' (by omega) (HJ.o _ _ _ ⟨rfl,rfl,rfl,rfl,rfl,rfl,?_⟩)
     have hrs:RSt B xb (wr.drewN m) o (l.take k++[x]) (cs'.setIfInBounds (o+2) (.slice (some ⟨xb,ob+(off+1+2),none⟩) x.text.size (c-(off+1+2)))):=(HST.o.keep (Keeps.drewN wr m) (by simp) (by simp)).data2 (by omega) hid _ _ (hrd.o _ (Keeps.drewN wr m)) (by simp)
     exact⟨k+1,(cs'.setIfInBounds (o+2) (.slice (some ⟨xb,ob+(off+1+2),none⟩) x.text.size (c-(off+1+2)))),rfl,by rw[hnx.o];go_num,by omega,by omega,(HB2.o.set_ (o+2) (.slice (some ⟨xb,ob+(off+1+2),none⟩) x.text.size (c-(off+1+2)))),(by simpa using hz'),(set_far (o:=o) (a:=2) (v:=.slice (some ⟨xb,ob+(off+1+2),none⟩) x.text.size (c-(off+1+2))) HFAR.o (by omega)),by rw[htk.o];exact hrs.keep (Keeps.setCell (wr.drewN m) ⟨g,o+2,none⟩ (.slice (some ⟨xb,ob+(off+1+2),none⟩) x.text.size (c-(off+1+2)))) (by simpa using hxg) (fun q hq=>.inl (by simp at hq;omega)),(HKW.o.trans ((Keeps.drewN wr m)) (by simp)).trans (Keeps.setCell (wr.drewN m) ⟨g,o+2,none⟩ (.slice (some ⟨xb,ob+(off+1+2),none⟩) x.text.size (c-(off+1+2)))) (by simp)⟩
    ·as_aux_lemma=>
     have hkd:kindOf x.id=1:=by rw[hid];rfl
     have he:encP x=UInt8.ofNat 23::[UInt8.ofNat x.n]:=by unfold encP;rw[hkd,hid];rfl
     have hdr:=HDR.o
     rw[he,List.cons_append] at hdr
     have hnx:=HNXT.o
     rw[he,List.length_cons] at hnx
     have hk1:=decKey_c wr xb ob c (encL l++rest) _ off 23 23 rfl (by decide) HRR.o hdr (by rw[HLE.o];exact hxl)
     rw[HLE.o] at hk1
     have HK:=hH hk1
     have HV1:=hH (vppT_c wr 23 23 pkt rfl (by decide) (by have h:=HVP.o;rwa [hid] at h))
     have hdr1:(encL l++rest).drop (off+1)=[UInt8.ofNat x.n]++(encL (l.drop (k+1))++rest):=drop_one hdr
     have hon:=HON.o
     rw[he,List.length_cons] at hon
     clear hk1 hdr
     have ca0:=HBR.o.cell (o+23)
     have hsz:o+23<cs'.size:=by omega
     obtain⟨v0,hv0⟩:=gv hsz
     obtain⟨v1,hv1⟩:∃v1,cs'[o+24]?=some v1:=⟨_,Array.getElem?_eq_getElem (by omega)⟩
     clear ca0 hsz
     have ok:=HOK.o
     have hn:=(ok.k1 hkd).1
     have hk2:=decKey_c wr xb ob c (encL l++rest) _ (off+1) x.n x.n rfl (by omega) HRR.o (by simpa using hdr1) (by rw[HLE.o];exact hxl)
     rw[HLE.o] at hk2
     have HV2:=hH hk2
     simp only[List.length_singleton] at hnx
     have hnx:=hH hnx
     clear hk2 hdr1 ok hn hon he hkd
     go_wp2_with fail
     go_fit (HK.o)
     rintro e wz ⟨rfl,rfl⟩
     go_wp2_with fail
     go_fit (HV1.o)
     rintro e wz ⟨rfl,rfl⟩
     go_wp2_with fail
     go_fit (HV2.o)
     rintro e wz ⟨rfl,rfl⟩
     have HB2:=hH (HBR.o.keep (Keeps.refl [] wr) (by simp))
     have c0:(wr).cell? ⟨g,o+23,none⟩=some v0:=by rw[HB2.o.cell];exact hv0
     have f0:=HB2.o.frozen (o+23)
     have c1:(wr).cell? ⟨g,o+24,none⟩=some v1:=by rw[HB2.o.cell];exact hv1
     have f1:=HB2.o.frozen (o+24)
     clear hv0 hv1
     go_wp2_with fail
     refine Handed.intro g' (by omega) (HJ.o _ _ _ ⟨rfl,rfl,rfl,rfl,rfl,rfl,?_⟩)
     have hrs:RSt B xb (wr) o (l.take k++[x]) ((cs'.setIfInBounds (o+23) (.int .u8 (x.n:Int))).setIfInBounds (o+24) (.bool true)):=(HST.o.keep (Keeps.refl [] wr) (by simp) (by simp)).two (by omega) 23 23 24 _ _ hid (by omega) (by omega) (by omega) (by omega) (by omega) rfl rfl (by decide) rfl rfl
     exact⟨k+1,((cs'.setIfInBounds (o+23) (.int .u8 (x.n:Int))).setIfInBounds (o+24) (.bool true)),rfl,by rw[hnx.o];go_num,by omega,by omega,((HB2.o.set_ (o+23) (.int .u8 (x.n:Int))).set_ (o+24) (.bool true)),(by simpa using hz'),(set_far (o:=o) (a:=24) (v:=.bool true) (set_far (o:=o) (a:=23) (v:=.int .u8 (x.n:Int)) HFAR.o (by omega)) (by omega)),by rw[htk.o];exact hrs.keep (((Keeps.setCell (wr) ⟨g,o+23,none⟩ (.int .u8 (x.n:Int)))).trans (Keeps.setCell _ ⟨g,o+24,none⟩ (.bool true)) (by simp)) (by simpa using hxg) (fun q hq=>.inl (by simp at hq;omega)),(HKW.o.trans ((Keeps.refl [] wr)) (by simp)).trans (((Keeps.setCell (wr) ⟨g,o+23,none⟩ (.int .u8 (x.n:Int)))).trans (Keeps.setCell _ ⟨g,o+24,none⟩ (.bool true)) (by simp)) (by simp)⟩
    ·as_aux_lemma=>
     have hkd:kindOf x.id=4:=by rw[hid];rfl
     have he:encP x=UInt8.ofNat 24::be4 x.n:=by unfold encP;rw[hkd,hid];rfl
     have hdr:=HDR.o
     rw[he,List.cons_append] at hdr
     have hnx:=HNXT.o
     rw[he,List.length_cons] at hnx
     have hk1:=decKey_c wr xb ob c (encL l++rest) _ off 24 24 rfl (by decide) HRR.o hdr (by rw[HLE.o];exact hxl)
     rw[HLE.o] at hk1
     have HK:=hH hk1
     have HV1:=hH (vppT_c wr 24 24 pkt rfl (by decide) (by have h:=HVP.o;rwa [hid] at h))
     have hdr1:(encL l++rest).drop (off+1)=be4 x.n++(encL (l.drop (k+1))++rest):=drop_one hdr
     have hon:=HON.o
     rw[he,List.length_cons] at hon
     clear hk1 hdr
     have ca0:=HBR.o.cell (o+13)
     have hsz:o+13<cs'.size:=by omega
     obtain⟨v0,hv0⟩:=gv hsz
     clear ca0 hsz
     have ok:=HOK.o
     have hn:=(ok.k4 hkd).1
     have hk2:=decodeUint32_c wr (some ⟨xb,ob,none⟩) c (encL l++rest) _ (off+1) x.n (rb_rd HRR.o) hdr1 (by omega) (by rw[HLE.o];exact hxl) (by rw[HLE.o];exact hc1)
     rw[HLE.o] at hk2
     have HV2:=hH hk2
     rw[be4_length] at hnx
     have hnx:=hH hnx
     clear hk2 hdr1 ok hn hon he hkd
     go_wp2_with fail
     go_fit (HK.o)
     rintro e wz ⟨rfl,rfl⟩
     go_wp2_with fail
     go_fit (HV1.o)
     rintro e wz ⟨rfl,rfl⟩
     go_wp2_with fail
     go_fit (HV2.o)
     rintro e wz ⟨rfl,m,rfl⟩
     have HB2:=hH (HBR.o.keep (Keeps.drewN wr m) (by simp))
     have c0:(wr.drewN m).cell? ⟨g,o+13,none⟩=some v0:=by rw[HB2.o.cell];exact hv0
     have f0:=HB2.o.frozen (o+13)
     clear hv0
     go_wp2_with fail
     refine Handed.intro g' (by omega) (HJ.o _ _ _ ⟨rfl,rfl,rfl,rfl,rfl,rfl,?_⟩)
     have hrs:RSt B xb (wr.drewN m) o (l.take k++[x]) (cs'.setIfInBounds (o+13) (.int .u32 (x.n:Int))):=(HST.o.keep (Keeps.drewN wr m) (by simp) (by simp)).one (by omega) 24 13 _ hid (by omega) (by omega) rfl (by decide) rfl
     exact⟨k+1,(cs'.setIfInBounds (o+13) (.int .u32 (x.n:Int))),rfl,by rw[hnx.o];go_num,by omega,by omega,(HB2.o.set_ (o+13) (.int .u32 (x.n:Int))),(by simpa using hz'),(set_far (o:=o) (a:=13) (v:=.int .u32 (x.n:Int)) HFAR.o (by omega)),by rw[htk.o];exact hrs.keep (Keeps.setCell (wr.drewN m) ⟨g,o+13,none⟩ (.int .u32 (x.n:Int))) (by simpa using hxg) (fun q hq=>.inl (by simp at hq;omega)),(HKW.o.trans ((Keeps.drewN wr m)) (by simp)).trans (Keeps.setCell (wr.drewN m) ⟨g,o+13,none⟩ (.int .u32 (x.n:Int))) (by simp)⟩
    ·as_aux_lemma=>
     have hkd:kindOf x.id=1:=by rw[hid];rfl
     have he:encP x=UInt8.ofNat 25::[UInt8.ofNat x.n]:=by unfold encP;rw[hkd,hid];rfl
     have hdr:=HDR.o
     rw[he,List.cons_append] at hdr
     have hnx:=HNXT.o
     rw[he,List.length_cons] at hnx
     have hk1:=decKey_c wr xb ob c (encL l++rest) _ off 25 25 rfl (by decide) HRR.o hdr (by rw[HLE.o];exact hxl)
     rw[HLE.o] at hk1
     have HK:=hH hk1
     have HV1:=hH (vppT_c wr 25 25 pkt rfl (by decide) (by have h:=HVP.o;rwa [hid] at h))
     have hdr1:(encL l++rest).drop (off+1)=[UInt8.ofNat x.n]++(encL (l.drop (k+1))++rest):=drop_one hdr
     have hon:=HON.o
     rw[he,List.length_cons] at hon
     clear hk1 hdr
     have ca0:=HBR.o.cell (o+25)
     have hsz:o+25<cs'.size:=by omega
     obtain⟨v0,hv0⟩:=gv hsz
     clear ca0 hsz
     have ok:=HOK.o
     have hn:=(ok.k1 hkd).1
     have hk2:=decKey_c wr xb ob c (encL l++rest) _ (off+1) x.n x.n rfl (by omega) HRR.o (by simpa using hdr1) (by rw[HLE.o];exact hxl)
     rw[HLE.o] at hk2
     have HV2:=hH hk2
     simp only[List.length_singleton] at hnx
     have hnx:=hH hnx
     clear hk2 hdr1 ok hn hon he hkd
     go_wp2_with fail
     go_fit (HK.o)
     rintro e wz ⟨rfl,rfl⟩
     go_wp2_with fail
     go_fit (HV1.o)
     rintro e wz ⟨rfl,rfl⟩
     go_wp2_with fail
     go_fit (HV2.o)
     rintro e wz ⟨rfl,rfl⟩
     have HB2:=hH (HBR.o.keep (Keeps.refl [] wr) (by simp))
     have c0:(wr).cell? ⟨g,o+25,none⟩=some v0:=by rw[HB2.o.cell];exact hv0
     have f0:=HB2.o.frozen (o+25)
     clear hv0
     go_wp2_with fail
     refine Handed.intro g' (by omega) (HJ.o _ _ _ ⟨rfl,rfl,rfl,rfl,rfl,rfl,?_⟩)
     have hrs:RSt B xb (wr) o (l.take k++[x]) (cs'.setIfInBounds (o+25) (.int .u8 (x.n:Int))):=(HST.o.keep (Keeps.refl [] wr) (by simp) (by simp)).one (by omega) 25 25 _ hid (by omega) (by omega) rfl (by decide) rfl
     exact⟨k+1,(cs'.setIfInBounds (o+25) (.int .u8 (x.n:Int))),rfl,by rw[hnx.o];go_num,by omega,by omega,(HB2.o.set_ (o+25) (.int .u8 (x.n:Int))),(by simpa using hz'),(set_far (o:=o) (a:=25) (v:=.int .u8 (x.n:Int)) HFAR.o (by omega)),by rw[htk.o];exact hrs.keep (Keeps.setCell (wr) ⟨g,o+25,none⟩ (.int .u8 (x.n:Int))) (by simpa using hxg) (fun q hq=>.inl (by simp at hq;omega)),(HKW.o.trans ((Keeps.refl [] wr)) (by simp)).trans (Keeps.setCell (wr) ⟨g,o+25,none⟩ (.int .u8 (x.n:Int))) (by simp)⟩
    ·as_aux_lemma=>
     have hkd:kindOf x.id=6:=by rw[hid];rfl
     have he:encP x=UInt8.ofNat 26::lp x.text.data.toList:=by unfold encP;rw[hkd,hid];rfl
     have hdr:=HDR.o
     rw[he,List.cons_append] at hdr
     have hnx:=HNXT.o
     rw[he,List.length_cons] at hnx
     have hk1:=decKey_c wr xb ob c (encL l++rest) _ off 26 26 rfl (by decide) HRR.o hdr (by rw[HLE.o];exact hxl)
     rw[HLE.o] at hk1
     have HK:=hH hk1
     have HV1:=hH (vppT_c wr 26 26 pkt rfl (by decide) (by have h:=HVP.o;rwa [hid] at h))
     have hdr1:(encL l++rest).drop (off+1)=lp x.text.data.toList++(encL (l.drop (k+1))++rest):=drop_one hdr
     have hon:=HON.o
     rw[he,List.length_cons] at hon
     clear hk1 hdr
     have ca0:=HBR.o.cell (o+8)
     have hsz:o+8<cs'.size:=by omega
     obtain⟨v0,hv0⟩:=gv hsz
     clear ca0 hsz
     have hn:=HOK.o.k6 hkd
     have hk2:=decodeString_c wr xb ob c (encL l++rest) _ x.text (off+1) HRR.o hdr1 hn.1.1 (by rw[HLE.o];exact hxl) (by rw[HLE.o];exact hc1) hn.1.2.1 hn.1.2.2 HTR.o
     rw[HLE.o] at hk2
     have HV2:=hH hk2
     rw[lp_length,tl_len] at hnx
     have hts:=hn.1.1
     have hnx:=hH hnx
     clear hk2 hdr1 hn hon he hkd
     go_wp2_with fail
     go_fit (HK.o)
     rintro e wz ⟨rfl,rfl⟩
     go_wp2_with fail
     go_fit (HV1.o)
     rintro e wz ⟨rfl,rfl⟩
     go_wp2_with fail
     go_fit (HV2.o)
     rintro e wz ⟨rfl,hkz⟩
     have HB2:=hH (HBR.o.keep hkz (by simp))
     have c0:(wz).cell? ⟨g,o+8,none⟩=some v0:=by rw[HB2.o.cell];exact hv0
     have f0:=HB2.o.frozen (o+8)
     clear hv0
     go_wp2_with fail
     refine Handed.intro g' (by omega) (HJ.o _ _ _ ⟨rfl,rfl,rfl,rfl,rfl,rfl,?_⟩)
     have hrs:RSt B xb (wz) o (l.take k++[x]) (cs'.setIfInBounds (o+8) (.string x.text)):=(HST.o.keep hkz (by simp) (by simp)).one (by omega) 26 8 _ hid (by omega) (by omega) rfl (by decide) rfl
     exact⟨k+1,(cs'.setIfInBounds (o+8) (.string x.text)),rfl,by rw[hnx.o];go_num,by omega,by omega,(HB2.o.set_ (o+8) (.string x.text)),(by simpa using hz'),(set_far (o:=o) (a:=8) (v:=.string x.text) HFAR.o (by omega)),by rw[htk.o];exact hrs.keep (Keeps.setCell (wz) ⟨g,o+8,none⟩ (.string x.text)) (by simpa using hxg) (fun q hq=>.inl (by simp at hq;omega)),(HKW.o.trans (hkz) (by simp)).trans (Keeps.setCell (wz) ⟨g,o+8,none⟩ (.string x.text)) (by simp)⟩
    ·as_aux_lemma=>
     have hkd:kindOf x.id=6:=by rw[hid];rfl
     have he:encP x=UInt8.ofNat 28::lp x.text.data.toList:=by unfold encP;rw[hkd,hid];rfl
     have hdr:=HDR.o
     rw[he,List.cons_append] at hdr
     have hnx:=HNXT.o
     rw[he,List.length_cons] at hnx
     have hk1:=decKey_c wr xb ob c (encL l++rest) _ off 28 28 rfl (by decide) HRR.o hdr (by rw[HLE.o];exact hxl)
     rw[HLE.o] at hk1
     have HK:=hH hk1
     have HV1:=hH (vppT_c wr 28 28 pkt rfl (by decide) (by have h:=HVP.o;rwa [hid] at h))
     have hdr1:(encL l++rest).drop (off+1)=lp x.text.data.toList++(encL (l.drop (k+1))++rest):=drop_one hdr
     have hon:=HON.o
     rw[he,List.length_cons] at hon
     clear hk1 hdr
     have ca0:=HBR.o.cell (o+9)
     have hsz:o+9<cs'.size:=by omega
     obtain⟨v0,hv0⟩:=gv hsz
     clear ca0 hsz
     have hn:=HOK.o.k6 hkd
     have hk2:=decodeString_c wr xb ob c (encL l++rest) _ x.text (off+1) HRR.o hdr1 hn.1.1 (by rw[HLE.o];exact hxl) (by rw[HLE.o];exact hc1) hn.1.2.1 hn.1.2.2 HTR.o
     rw[HLE.o] at hk2
     have HV2:=hH hk2
     rw[lp_length,tl_len] at hnx
     have hts:=hn.1.1
     have hnx:=hH hnx
     clear hk2 hdr1 hn hon he hkd
     go_wp2_with fail
     go_fit (HK.o)
     rintro e wz ⟨rfl,rfl⟩
     go_wp2_with fail
     go_fit (HV1.o)
     rintro e wz ⟨rfl,rfl⟩
     go_wp2_with fail
     go_fit (HV2.o)
     rintro e wz ⟨rfl,hkz⟩
     have HB2:=hH (HBR.o.keep hkz (by simp))
     have c0:(wz).cell? ⟨g,o+9,none⟩=some v0:=by rw[HB2.o.cell];exact hv0
     have f0:=HB2.o.frozen (o+9)
     clear hv0
     go_wp2_with fail
     refine Handed.intro g' (by omega) (HJ.o _ _ _ ⟨rfl,rfl,rfl,rfl,rfl,rfl,?_⟩)
     have hrs:RSt B xb (wz) o (l.take k++[x]) (cs'.setIfInBounds (o+9) (.string x.text)):=(HST.o.keep hkz (by simp) (by simp)).one (by omega) 28 9 _ hid (by omega) (by omega) rfl (by decide) rfl
     exact⟨k+1,(cs'.setIfInBounds (o+9) (.string x.text)),rfl,by rw[hnx.o];go_num,by omega,by omega,(HB2.o.set_ (o+9) (.string x.text)),(by simpa using hz'),(set_far (o:=o) (a:=9) (v:=.string x.text) HFAR.o (by omega)),by rw[htk.o];exact hrs.keep (Keeps.setCell (wz) ⟨g,o+9,none⟩ (.string x.text)) (by simpa using hxg) (fun q hq=>.inl (by simp at hq;omega)),(HKW.o.trans (hkz) (by simp)).trans (Keeps.setCell (wz) ⟨g,o+9,none⟩ (.string x.text)) (by simp)⟩
    ·as_aux_lemma=>
     have hkd:kindOf x.id=6:=by rw[hid];rfl
     have he:encP x=UInt8.ofNat 31::lp x.text.data.toList:=by unfold encP;rw[hkd,hid];rfl
     have hdr:=HDR.o
     rw[he,List.cons_append] at hdr
     have hnx:=HNXT.o
     rw[he,List.length_cons] at hnx
     have hk1:=decKey_c wr xb ob c (encL l++rest) _ off 31 31 rfl (by decide) HRR.o hdr (by rw[HLE.o];exact hxl)
     rw[HLE.o] at hk1
     have HK:=hH hk1
     have HV1:=hH (vppT_c wr 31 31 pkt rfl (by decide) (by have h:=HVP.o;rwa [hid] at h))
     have hdr1:(encL l++rest).drop (off+1)=lp x.text.data.toList++(encL (l.drop (k+1))++rest):=drop_one hdr
     have hon:=HON.o
     rw[he,List.length_cons] at hon
     clear hk1 hdr
     have ca0:=HBR.o.cell (o+10)
     have hsz:o+10<cs'.size:=by omega
     obtain⟨v0,hv0⟩:=gv hsz
     clear ca0 hsz
     have hn:=HOK.o.k6 hkd
     have hk2:=decodeString_c wr xb ob c (encL l++rest) _ x.text (off+1) HRR.o hdr1 hn.1.1 (by rw[HLE.o];exact hxl) (by rw[HLE.o];exact hc1) hn.1.2.1 hn.1.2.2 HTR.o
     rw[HLE.o] at hk2
     have HV2:=hH hk2
     rw[lp_length,tl_len] at hnx
     have hts:=hn.1.1
     have hnx:=hH hnx
     clear hk2 hdr1 hn hon he hkd
     go_wp2_with fail
     go_fit (HK.o)
     rintro e wz ⟨rfl,rfl⟩
     go_wp2_with fail
     go_fit (HV1.o)
     rintro e wz ⟨rfl,rfl⟩
     go_wp2_with fail
     go_fit (HV2.o)
     rintro e wz ⟨rfl,hkz⟩
     have HB2:=hH (HBR.o.keep hkz (by simp))
     have c0:(wz).cell? ⟨g,o+10,none⟩=some v0:=by rw[HB2.o.cell];exact hv0
     have f0:=HB2.o.frozen (o+10)
     clear hv0
     go_wp2_with fail
     refine Handed.intro g' (by omega) (HJ.o _ _ _ ⟨rfl,rfl,rfl,rfl,rfl,rfl,?_⟩)
     have hrs:RSt B xb (wz) o (l.take k++[x]) (cs'.setIfInBounds (o+10) (.string x.text)):=(HST.o.keep hkz (by simp) (by simp)).one (by omega) 31 10 _ hid (by omega) (by omega) rfl (by decide) rfl
     exact⟨k+1,(cs'.setIfInBounds (o+10) (.string x.text)),rfl,by rw[hnx.o];go_num,by omega,by omega,(HB2.o.set_ (o+10) (.string x.text)),(by simpa using hz'),(set_far (o:=o) (a:=10) (v:=.string x.text) HFAR.o (by omega)),by rw[htk.o];exact hrs.keep (Keeps.setCell (wz) ⟨g,o+10,none⟩ (.string x.text)) (by simpa using hxg) (fun q hq=>.inl (by simp at hq;omega)),(HKW.o.trans (hkz) (by simp)).trans (Keeps.setCell (wz) ⟨g,o+10,none⟩ (.string x.text)) (by simp)⟩
    ·as_aux_lemma=>
     have hkd:kindOf x.id=2:=by rw[hid];rfl
     have he:encP x=UInt8.ofNat 33::be2 x.n:=by unfold encP;rw[hkd,hid];rfl
     have hdr:=HDR.o
     rw[he,List.cons_append] at hdr
     have hnx:=HNXT.o
     rw[he,List.length_cons] at hnx
     have hk1:=decKey_c wr xb ob c (encL l++rest) _ off 33 33 rfl (by decide) HRR.o hdr (by rw[HLE.o];exact hxl)
     rw[HLE.o] at hk1
     have HK:=hH hk1
     have HV1:=hH (vppT_c wr 33 33 pkt rfl (by decide) (by have h:=HVP.o;rwa [hid] at h))
     have hdr1:(encL l++rest).drop (off+1)=be2 x.n++(encL (l.drop (k+1))++rest):=drop_one hdr
     have hon:=HON.o
     rw[he,List.length_cons] at hon
     clear hk1 hdr
     have ca0:=HBR.o.cell (o+16)
     have hsz:o+16<cs'.size:=by omega
     obtain⟨v0,hv0⟩:=gv hsz
     clear ca0 hsz
     have ok:=HOK.o
     have hn:=(ok.k2 hkd).1
     have hk2:=decodeUint16_c wr (some ⟨xb,ob,none⟩) c (encL l++rest) _ (off+1) x.n (rb_rd HRR.o) hdr1 (by omega) (by rw[HLE.o];exact hxl) (by rw[HLE.o];exact hc1)
     rw[HLE.o] at hk2
     have HV2:=hH hk2
     rw[be2_length] at hnx
     have hnx:=hH hnx
     clear hk2 hdr1 ok hn hon he hkd
     go_wp2_with fail
     go_fit (HK.o)
     rintro e wz ⟨rfl,rfl⟩
     go_wp2_with fail
     go_fit (HV1.o)
     rintro e wz ⟨rfl,rfl⟩
     go_wp2_with fail
     go_fit (HV2.o)
     rintro e wz ⟨rfl,m,rfl⟩
     have HB2:=hH (HBR.o.keep (Keeps.drewN wr m) (by simp))
     have c0:(wr.drewN m).cell? ⟨g,o+16,none⟩=some v0:=by rw[HB2.o.cell];exact hv0
     have f0:=HB2.o.frozen (o+16)
     clear hv0
     go_wp2_with fail
     refine Handed.intro g' (by omega) (HJ.o _ _ _ ⟨rfl,rfl,rfl,rfl,rfl,rfl,?_⟩)
     have hrs:RSt B xb (wr.drewN m) o (l.take k++[x]) (cs'.setIfInBounds (o+16) (.int .u16 (x.n:Int))):=(HST.o.keep (Keeps.drewN wr m) (by simp) (by simp)).one (by omega) 33 16 _ hid (by omega) (by omega) rfl (by decide) rfl
     exact⟨k+1,(cs'.setIfInBounds (o+16) (.int .u16 (x.n:Int))),rfl,by rw[hnx.o];go_num,by omega,by omega,(HB2.o.set_ (o+16) (.int .u16 (x.n:Int))),(by simpa using hz'),(set_far (o:=o) (a:=16) (v:=.int .u16 (x.n:Int)) HFAR.o (by omega)),by rw[htk.o];exact hrs.keep (Keeps.setCell (wr.drewN m) ⟨g,o+16,none⟩ (.int .u16 (x.n:Int))) (by simpa using hxg) (fun q hq=>.inl (by simp at hq;omega)),(HKW.o.trans ((Keeps.drewN wr m)) (by simp)).trans (Keeps.setCell (wr.drewN m) ⟨g,o+16,none⟩ (.int .u16 (x.n:Int))) (by simp)⟩
    ·as_aux_lemma=>
     have hkd:kindOf x.id=2:=by rw[hid];rfl
     have he:encP x=UInt8.ofNat 34::be2 x.n:=by unfold encP;rw[hkd,hid];rfl
     have hdr:=HDR.o
     rw[he,List.cons_append] at hdr
     have hnx:=HNXT.o
     rw[he,List.length_cons] at hnx
     have hk1:=decKey_c wr xb ob c (encL l++rest) _ off 34 34 rfl (by decide) HRR.o hdr (by rw[HLE.o];exact hxl)
     rw[HLE.o] at hk1
     have HK:=hH hk1
     have HV1:=hH (vppT_c wr 34 34 pkt rfl (by decide) (by have h:=HVP.o;rwa [hid] at h))
     have hdr1:(encL l++rest).drop (off+1)=be2 x.n++(encL (l.drop (k+1))++rest):=drop_one hdr
     have hon:=HON.o
     rw[he,List.length_cons] at hon
     clear hk1 hdr
     have ca0:=HBR.o.cell (o+17)
     have hsz:o+17<cs'.size:=by omega
     obtain⟨v0,hv0⟩:=gv hsz
     clear ca0 hsz
     have ok:=HOK.o
     have hn:=(ok.k2 hkd).1
     have hk2:=decodeUint16_c wr (some ⟨xb,ob,none⟩) c (encL l++rest) _ (off+1) x.n (rb_rd HRR.o) hdr1 (by omega) (by rw[HLE.o];exact hxl) (by rw[HLE.o];exact hc1)
     rw[HLE.o] at hk2
     have HV2:=hH hk2
     rw[be2_length] at hnx
     have hnx:=hH hnx
     clear hk2 hdr1 ok hn hon he hkd
     go_wp2_with fail
     go_fit (HK.o)
     rintro e wz ⟨rfl,rfl⟩
     go_wp2_with fail
     go_fit (HV1.o)
     rintro e wz ⟨rfl,rfl⟩
     go_wp2_with fail
     go_fit (HV2.o)
     rintro e wz ⟨rfl,m,rfl⟩
     have HB2:=hH (HBR.o.keep (Keeps.drewN wr m) (by simp))
     have c0:(wr.drewN m).cell? ⟨g,o+17,none⟩=some v0:=by rw[HB2.o.cell];exact hv0
     have f0:=HB2.o.frozen (o+17)
     clear hv0
     go_wp2_with fail
     refine Handed.intro g' (by omega) (HJ.o _ _ _ ⟨rfl,rfl,rfl,rfl,rfl,rfl,?_⟩)
     have hrs:RSt B xb (wr.drewN m) o (l.take k++[x]) (cs'.setIfInBounds (o+17) (.int .u16 (x.n:Int))):=(HST.o.keep (Keeps.drewN wr m) (by simp) (by simp)).one (by omega) 34 17 _ hid (by omega) (by omega) rfl (by decide) rfl
     exact⟨k+1,(cs'.setIfInBounds (o+17) (.int .u16 (x.n:Int))),rfl,by rw[hnx.o];go_num,by omega,by omega,(HB2.o.set_ (o+17) (.int .u16 (x.n:Int))),(by simpa using hz'),(set_far (o:=o) (a:=17) (v:=.int .u16 (x.n:Int)) HFAR.o (by omega)),by rw[htk.o];exact hrs.keep (Keeps.setCell (wr.drewN m) ⟨g,o+17,none⟩ (.int .u16 (x.n:Int))) (by simpa using hxg) (fun q hq=>.inl (by simp at hq;omega)),(HKW.o.trans ((Keeps.drewN wr m)) (by simp)).trans (Keeps.setCell (wr.drewN m) ⟨g,o+17,none⟩ (.int .u16 (x.n:Int))) (by simp)⟩
    ·as_aux_lemma=>
     have hkd:kindOf x.id=2:=by rw[hid];rfl
     have he:encP x=UInt8.ofNat 35::be2 x.n:=by unfold encP;rw[hkd,hid];rfl
     have hdr:=HDR.o
     rw[he,List.cons_append] at hdr
     have hnx:=HNXT.o
     rw[he,List.length_cons] at hnx
     have hk1:=decKey_c wr xb ob c (encL l++rest) _ off 35 35 rfl (by decide) HRR.o hdr (by rw[HLE.o];exact hxl)
     rw[HLE.o] at hk1
     have HK:=hH hk1
     have HV1:=hH (vppT_c wr 35 35 pkt rfl (by decide) (by have h:=HVP.o;rwa [hid] at h))
     have hdr1:(encL l++rest).drop (off+1)=be2 x.n++(encL (l.drop (k+1))++rest):=drop_one hdr
     have hon:=HON.o
     rw[he,List.length_cons] at hon
     clear hk1 hdr
     have ca0:=HBR.o.cell (o+18)
     have hsz:o+18<cs'.size:=by omega
     obtain⟨v0,hv0⟩:=gv hsz
     obtain⟨v1,hv1⟩:∃v1,cs'[o+26]?=some v1:=⟨_,Array.getElem?_eq_getElem (by omega)⟩
     clear ca0 hsz
     have ok:=HOK.o
     have hn:=(ok.k2 hkd).1
     have hk2:=decodeUint16_c wr (some ⟨xb,ob,none⟩) c (encL l++rest) _ (off+1) x.n (rb_rd HRR.o) hdr1 (by omega) (by rw[HLE.o];exact hxl) (by rw[HLE.o];exact hc1)
     rw[HLE.o] at hk2
     have HV2:=hH hk2
     rw[be2_length] at hnx
     have hnx:=hH hnx
     clear hk2 hdr1 ok hn hon he hkd
     go_wp2_with fail
     go_fit (HK.o)
     rintro e wz ⟨rfl,rfl⟩
     go_wp2_with fail
     go_fit (HV1.o)
     rintro e wz ⟨rfl,rfl⟩
     go_wp2_with fail
     go_fit (HV2.o)
     rintro e wz ⟨rfl,m,rfl⟩
     have HB2:=hH (HBR.o.keep (Keeps.drewN wr m) (by simp))
     have c0:(wr.drewN m).cell? ⟨g,o+18,none⟩=some v0:=by rw[HB2.o.cell];exact hv0
     have f0:=HB2.o.frozen (o+18)
     have c1:(wr.drewN m).cell? ⟨g,o+26,none⟩=some v1:=by rw[HB2.o.cell];exact hv1
     have f1:=HB2.o.frozen (o+26)
     clear hv0 hv1
     go_wp2_with fail
     refine Handed.intro g' (by omega) (HJ.o _ _ _ ⟨rfl,rfl,rfl,rfl,rfl,rfl,?_⟩)
     have hrs:RSt B xb (wr.drewN m) o (l.take k++[x]) ((cs'.setIfInBounds (o+18) (.int .u16 (x.n:Int))).setIfInBounds (o+26) (.bool true)):=(HST.o.keep (Keeps.drewN wr m) (by simp) (by simp)).two (by omega) 35 18 26 _ _ hid (by omega) (by omega) (by omega) (by omega) (by omega) rfl rfl (by decide) rfl rfl
     exact⟨k+1,((cs'.setIfInBounds (o+18) (.int .u16 (x.n:Int))).setIfInBounds (o+26) (.bool true)),rfl,by rw[hnx.o];go_num,by omega,by omega,((HB2.o.set_ (o+18) (.int .u16 (x.n:Int))).set_ (o+26) (.bool true)),(by simpa using hz'),(set_far (o:=o) (a:=26) (v:=.bool true) (set_far (o:=o) (a:=18) (v:=.int .u16 (x.n:Int)) HFAR.o (by omega)) (by omega)),by rw[htk.o];exact hrs.keep (((Keeps.setCell (wr.drewN m) ⟨g,o+18,none⟩ (.int .u16 (x.n:Int)))).trans (Keeps.setCell _ ⟨g,o+26,none⟩ (.bool true)) (by simp)) (by simpa using hxg) (fun q hq=>.inl (by simp at hq;omega)),(HKW.o.trans ((Keeps.drewN wr m)) (by simp)).trans (((Keeps.setCell (wr.drewN m) ⟨g,o+18,none⟩ (.int .u16 (x.n:Int)))).trans (Keeps.setCell _ ⟨g,o+26,none⟩ (.bool true)) (by simp)) (by simp)⟩
    ·as_aux_lemma=>
     have hkd:kindOf x.id=1:=by rw[hid];rfl
     have he:encP x=UInt8.ofNat 36::[UInt8.ofNat x.n]:=by unfold encP;rw[hkd,hid];rfl
     have hdr:=HDR.o
     rw[he,List.cons_append] at hdr
     have hnx:=HNXT.o
     rw[he,List.length_cons] at hnx
     have hk1:=decKey_c wr xb ob c (encL l++rest) _ off 36 36 rfl (by decide) HRR.o hdr (by rw[HLE.o];exact hxl)
     rw[HLE.o] at hk1
     have HK:=hH hk1
     have HV1:=hH (vppT_c wr 36 36 pkt rfl (by decide) (by have h:=HVP.o;rwa [hid] at h))
     have hdr1:(encL l++rest).drop (off+1)=[UInt8.ofNat x.n]++(encL (l.drop (k+1))++rest):=drop_one hdr
     have hon:=HON.o
     rw[he,List.length_cons] at hon
     clear hk1 hdr
     have ca0:=HBR.o.cell (o+27)
     have hsz:o+27<cs'.size:=by omega
     obtain⟨v0,hv0⟩:=gv hsz
     obtain⟨v1,hv1⟩:∃v1,cs'[o+28]?=some v1:=⟨_,Array.getElem?_eq_getElem (by omega)⟩
     clear ca0 hsz
     have ok:=HOK.o
     have hn:=(ok.k1 hkd).1
     have hk2:=decKey_c wr xb ob c (encL l++rest) _ (off+1) x.n x.n rfl (by omega) HRR.o (by simpa using hdr1) (by rw[HLE.o];exact hxl)
     rw[HLE.o] at hk2
     have HV2:=hH hk2
     simp only[List.length_singleton] at hnx
     have hnx:=hH hnx
     clear hk2 hdr1 ok hn hon he hkd
     go_wp2_with fail
     go_fit (HK.o)
     rintro e wz ⟨rfl,rfl⟩
     go_wp2_with fail
     go_fit (HV1.o)
     rintro e wz ⟨rfl,rfl⟩
     go_wp2_with fail
     go_fit (HV2.o)
     rintro e wz ⟨rfl,rfl⟩
     have HB2:=hH (HBR.o.keep (Keeps.refl [] wr) (by simp))
     have c0:(wr).cell? ⟨g,o+27,none⟩=some v0:=by rw[HB2.o.cell];exact hv0
     have f0:=HB2.o.frozen (o+27)
     have c1:(wr).cell? ⟨g,o+28,none⟩=some v1:=by rw[HB2.o.cell];exact hv1
     have f1:=HB2.o.frozen (o+28)
     clear hv0 hv1
     go_wp2_with fail
     refine Handed.intro g' (by omega) (HJ.o _ _ _ ⟨rfl,rfl,rfl,rfl,rfl,rfl,?_⟩)
     have hrs:RSt B xb (wr) o (l.take k++[x]) ((cs'.setIfInBounds (o+27) (.int .u8 (x.n:Int))).setIfInBounds (o+28) (.bool true)):=(HST.o.keep (Keeps.refl [] wr) (by simp) (by simp)).two (by omega) 36 27 28 _ _ hid (by omega) (by omega) (by omega) (by omega) (by omega) rfl rfl (by decide) rfl rfl
     exact⟨k+1,((cs'.setIfInBounds (o+27) (.int .u8 (x.n:Int))).setIfInBounds (o+28) (.bool true)),rfl,by rw[hnx.o];go_num,by omega,by omega,((HB2.o.set_ (o+27) (.int .u8 (x.n:Int))).set_ (o+28) (.bool true)),(by simpa using hz'),(set_far (o:=o) (a:=28) (v:=.bool true) (set_far (o:=o) (a:=27) (v:=.int .u8 (x.n:Int)) HFAR.o (by omega)) (by omega)),by rw[htk.o];exact hrs.keep (((Keeps.setCell (wr) ⟨g,o+27,none⟩ (.int .u8 (x.n:Int)))).trans (Keeps.setCell _ ⟨g,o+28,none⟩ (.bool true)) (by simp)) (by simpa using hxg) (fun q hq=>.inl (by simp at hq;omega)),(HKW.o.trans ((Keeps.refl [] wr)) (by simp)).trans (((Keeps.setCell (wr) ⟨g,o+27,none⟩ (.int .u8 (x.n:Int)))).trans (Keeps.setCell _ ⟨g,o+28,none⟩ (.bool true)) (by simp)) (by simp)⟩
    ·as_aux_lemma=>
     have hkd:kindOf x.id=1:=by rw[hid];rfl
     have he:encP x=UInt8.ofNat 37::[UInt8.ofNat x.n]:=by unfold encP;rw[hkd,hid];rfl
     have hdr:=HDR.o
     rw[he,List.cons_append] at hdr
     have hnx:=HNXT.o
     rw[he,List.length_cons] at hnx
     have hk1:=decKey_c wr xb ob c (encL l++rest) _ off 37 37 rfl (by decide) HRR.o hdr (by rw[HLE.o];exact hxl)
     rw[HLE.o] at hk1
     have HK:=hH hk1
     have HV1:=hH (vppT_c wr 37 37 pkt rfl (by decide) (by have h:=HVP.o;rwa [hid] at h))
     have hdr1:(encL l++rest).drop (off+1)=[UInt8.ofNat x.n]++(encL (l.drop (k+1))++rest):=drop_one hdr
     have hon:=HON.o
     rw[he,List.length_cons] at hon
     clear hk1 hdr
     have ca0:=HBR.o.cell (o+29)
     have hsz:o+29<cs'.size:=by omega
     obtain⟨v0,hv0⟩:=gv hsz
     obtain⟨v1,hv1⟩:∃v1,cs'[o+30]?=some v1:=⟨_,Array.getElem?_eq_getElem (by omega)⟩
     clear ca0 hsz
     have ok:=HOK.o
     have hn:=(ok.k1 hkd).1
     have hk2:=decKey_c wr xb ob c (encL l++rest) _ (off+1) x.n x.n rfl (by omega) HRR.o (by simpa using hdr1) (by rw[HLE.o];exact hxl)
     rw[HLE.o] at hk2
     have HV2:=hH hk2
     simp only[List.length_singleton] at hnx
     have hnx:=hH hnx
     clear hk2 hdr1 ok hn hon he hkd
     go_wp2_with fail
     go_fit (HK.o)
     rintro e wz ⟨rfl,rfl⟩
     go_wp2_with fail
     go_fit (HV1.o)
     rintro e wz ⟨rfl,rfl⟩
     go_wp2_with fail
     go_fit (HV2.o)
     rintro e wz ⟨rfl,rfl⟩
     have HB2:=hH (HBR.o.keep (Keeps.refl [] wr) (by simp))
     have c0:(wr).cell? ⟨g,o+29,none⟩=some v0:=by rw[HB2.o.cell];exact hv0
     have f0:=HB2.o.frozen (o+29)
     have c1:(wr).cell? ⟨g,o+30,none⟩=some v1:=by rw[HB2.o.cell];exact hv1
     have f1:=HB2.o.frozen (o+30)
     clear hv0 hv1
     go_wp2_with fail
     refine Handed.intro g' (by omega) (HJ.o _ _ _ ⟨rfl,rfl,rfl,rfl,rfl,rfl,?_⟩)
     have hrs:RSt B xb (wr) o (l.take k++[x]) ((cs'.setIfInBounds (o+29) (.int .u8 (x.n:Int))).setIfInBounds (o+30) (.bool true)):=(HST.o.keep (Keeps.refl [] wr) (by simp) (by simp)).two (by omega) 37 29 30 _ _ hid (by omega) (by omega) (by omega) (by omega) (by omega) rfl rfl (by decide) rfl rfl
     exact⟨k+1,((cs'.setIfInBounds (o+29) (.int .u8 (x.n:Int))).setIfInBounds (o+30) (.bool true)),rfl,by rw[hnx.o];go_num,by omega,by omega,((HB2.o.set_ (o+29) (.int .u8 (x.n:Int))).set_ (o+30) (.bool true)),(by simpa using hz'),(set_far (o:=o) (a:=30) (v:=.bool true) (set_far (o:=o) (a:=29) (v:=.int .u8 (x.n:Int)) HFAR.o (by omega)) (by omega)),by rw[htk.o];exact hrs.keep (((Keeps.setCell (wr) ⟨g,o+29,none⟩ (.int .u8 (x.n:Int)))).trans (Keeps.setCell _ ⟨g,o+30,none⟩ (.bool true)) (by simp)) (by simpa using hxg) (fun q hq=>.inl (by simp at hq;omega)),(HKW.o.trans ((Keeps.refl [] wr)) (by simp)).trans (((Keeps.setCell (wr) ⟨g,o+29,none⟩ (.int .u8 (x.n:Int)))).trans (Keeps.setCell _ ⟨g,o+30,none⟩ (.bool true)) (by simp)) (by simp)⟩
    ·as_aux_lemma=>
     have hkd:kindOf x.id=8:=by rw[hid];rfl
     have he:encP x=UInt8.ofNat 38::(lp x.text.data.toList++lp x.other.data.toList):=by unfold encP;rw[hkd,hid];rfl
     have hdr:=HDR.o
     rw[he,List.cons_append] at hdr
     have hnx:=HNXT.o
     rw[he,List.length_cons] at hnx
     have hk1:=decKey_c wr xb ob c (encL l++rest) _ off 38 38 rfl (by decide) HRR.o hdr (by rw[HLE.o];exact hxl)
     rw[HLE.o] at hk1
     have HK:=hH hk1
     have HV1:=hH (vppT_c wr 38 38 pkt rfl (by decide) (by have h:=HVP.o;rwa [hid] at h))
     have hdr1:(encL l++rest).drop (off+1)=(lp x.text.data.toList++lp x.other.data.toList)++(encL (l.drop (k+1))++rest):=drop_one hdr
     have hon:=HON.o
     rw[he,List.length_cons] at hon
     clear hk1 hdr
     have ca0:=HBR.o.cell (o+3)
     have hsz:o+3<cs'.size:=by omega
     obtain⟨v0,hv0⟩:=gv hsz
     clear ca0 hsz
     have hn:=HOK.o.k8 hkd
     have hdr2:=hdr1
     rw[List.append_assoc] at hdr2
     have hk2:=decodeString_c wr xb ob c (encL l++rest) _ x.text (off+1) HRR.o hdr2 hn.1.1 (by rw[HLE.o];exact hxl) (by rw[HLE.o];exact hc1) hn.1.2.1 hn.1.2.2 HTR.o
     have hdr3:=drop_more hdr2 (2+x.text.size) (by rw[lp_length,tl_len])
     rw[←Nat.add_assoc] at hdr3
     have hk3:=fun (w':World) (k':Keeps [] wr w')=>decodeString_c w' xb ob c (encL l++rest) _ x.other (off+1+2+x.text.size) (HRR.o.keep k' (by simp)) hdr3 hn.2.1 (by rw[HLE.o];exact hxl) (by rw[HLE.o];exact hc1) hn.2.2.1 hn.2.2.2 (tabs_keep HTR.o k' (by simp) (by simp))
     rw[HLE.o] at hk2 hk3
     have HV2:=hH hk2
     have HV3:=hH hk3
     rw[List.length_append,lp_length,lp_length,tl_len,tl_len] at hnx
     have hts:=hn.1.1
     have hts2:=hn.2.1
     have hnx:=hH hnx
     clear hk2 hk3 hdr1 hdr2 hdr3 hn hon he hkd
     obtain⟨i0,hi0,hz0,hz1,hz2⟩:=info_parts infoR124
     go_wp2_with fail
     go_fit (HK.o)
     rintro e wz ⟨rfl,rfl⟩
     go_wp2_with fail
     go_fit (HV1.o)
     rintro e wz ⟨rfl,rfl⟩
     go_wp2_with fail
     go_fit (HV2.o)
     rintro e wz ⟨rfl,hkz⟩
     go_wp2_with fail
     go_fit (HV3.o _ hkz)
     rintro e wy ⟨rfl,hky⟩
     have hkz2:=hkz.trans hky (by simp)
     have hstz:=HST.o.keep hkz2 (by simp) (by simp)
     obtain⟨A1,c1,x1,x2,x3⟩:=hstz.us
     have hle:(usersOf (l.take k)).length≤l.length:=Nat.le_trans (usersOf_le _) (by simp;omega)
     obtain⟨NL,hNL⟩:∃NL,(usersOf (l.take k)).length=NL:=⟨_,rfl⟩
     rw[hNL] at x1 x2 hle
     have hl20b:=hl20
     have HB1b:=hH (HBR.o.keep hkz2 (by simp))
     have ca:wy.cell? ⟨g,o+3,none⟩=some (.slice A1 NL c1):=by rw[HB1b.o.cell];exact x1
     have ho2:(wy.alloc (.cells #[.string x.text,.string x.other] 124)).ownsRow 0 124 2 (.slice A1 NL c1) NL _:=x2.alloc _
     have hr2:Rd (wy.alloc (.cells #[.string x.text,.string x.other] 124)) 2 (some ⟨wy.heap.size,0,none⟩) 1 [.string x.text,.string x.other]:=rd_new wy 124 #[.string x.text,.string x.other] 2 1 rfl
     have HB2b:=hH (HB1b.o.alloc (.cells #[.string x.text,.string x.other] 124))
     have hk12:Keeps [] wr (wy.alloc (.cells #[.string x.text,.string x.other] 124)):=hkz2.trans (Keeps.alloc _ _) (by simp)
     have HST2:=hH (HST.o.keep hk12 (by simp) (by simp))
     have HK12:=hH hk12
     have HX2:=hH ho2
     have HR2:=hH hr2
     have HX3:=hH x3
     have HNN:=hH hNL
     have HX1:=hH x1
     have hBw:B≤(wy.alloc (.cells #[.string x.text,.string x.other] 124)).heap.size:=by have h1:=HBE.o;have h3:=HKW.o.size;have h4:=hk12.size;omega
     clear hk12 ho2 hr2 x1 x2 x3 hNL hv0 hstz
     go_wp2_with (at_builtin;refine wpList_append_rd _ rfl (.tmp 404) (.tmp 408) 72 rfl 124 i0 _ 2 32 underlying72 hi0 hz0 hz1 hz2 rfl (by decide) (.slice A1 NL c1) NL _ rfl HX2.o _ 1 1 _ rfl HR2.o (by intro u hu;simp at hu;rcases hu with rfl|rfl<;>rfl) (by omega) (by unfold maxLen;omega) ?_;intro A2 c2 w3 ho3 hk3 hd3;rw[own_slice] at hk3 hd3;have hne:g∉(A1.map (·.block)).toList:=(by intro hm;cases e:A1.map (·.block) with|none=>rw[e] at hm;simp at hm|some q=>rw[e] at hm;simp at hm;have:=HX3.o q e;omega);have HB3:=hH (HB2b.o.keep hk3 hne);have ca3:w3.cell? ⟨g,o+3,none⟩=some (.slice A1 NL c1):=(by rw[HB3.o.cell];exact HX1.o);have fa3:w3.frozen? ⟨g,o+3,none⟩=false:=HB3.o.frozen _)
     refine Handed.intro g' (by omega) (HJ.o _ _ _ ⟨rfl,rfl,rfl,rfl,rfl,rfl,?_⟩)
     have hBA:∀q,A2.map (·.block)=some q→B≤q:=fun q hq=>(by rcases hd3 with h|h;exact HX3.o q (by rw[←h,hq]);rw[h] at hq;injection hq with hq;omega)
     have hrs:=HST2.o.row3 (A:=A2) (c:=c2) (A0:=A1) (c0:=c1) (cs:=cs') (by omega) hid (by rw[HNN.o];exact HX2.o) HX3.o hk3 hxB (by rw[HNN.o];exact ho3) hBA
     rw[HNN.o] at hrs
     exact⟨k+1,_,rfl,by rw[hnx.o];go_num,by omega,by omega,HB3.o.set_ (o+3) (.slice A2 (NL+1) c2),by simpa using hz',set_far (o:=o) (a:=3) HFAR.o (by omega),by rw[htk.o];exact hrs.keep (Keeps.setCell _ ⟨g,o+3,none⟩ _) (by simpa using hxg) (fun q hq=>.inl (by simp at hq;omega)),((HKW.o.trans HK12.o (by simp)).trans hk3 (fun q hq=>.inr (by cases e:A1.map (·.block) with|none=>rw[e] at hq;simp at hq|some r=>rw[e] at hq;simp at hq;have h9:=HX3.o r e;have h1:=HBE.o;omega))).trans (Keeps.setCell _ _ _) (by simp)⟩
    ·as_aux_lemma=>
     have hkd:kindOf x.id=4:=by rw[hid];rfl
     have he:encP x=UInt8.ofNat 39::be4 x.n:=by unfold encP;rw[hkd,hid];rfl
     have hdr:=HDR.o
     rw[he,List.cons_append] at hdr
     have hnx:=HNXT.o
     rw[he,List.length_cons] at hnx
     have hk1:=decKey_c wr xb ob c (encL l++rest) _ off 39 39 rfl (by decide) HRR.o hdr (by rw[HLE.o];exact hxl)
     rw[HLE.o] at hk1
     have HK:=hH hk1
     have HV1:=hH (vppT_c wr 39 39 pkt rfl (by decide) (by have h:=HVP.o;rwa [hid] at h))
     have hdr1:(encL l++rest).drop (off+1)=be4 x.n++(encL (l.drop (k+1))++rest):=drop_one hdr
     have hon:=HON.o
     rw[he,List.length_cons] at hon
     clear hk1 hdr
     have ca0:=HBR.o.cell (o+14)
     have hsz:o+14<cs'.size:=by omega
     obtain⟨v0,hv0⟩:=gv hsz
     clear ca0 hsz
     have ok:=HOK.o
     have hn:=(ok.k4 hkd).1
     have hk2:=decodeUint32_c wr (some ⟨xb,ob,none⟩) c (encL l++rest) _ (off+1) x.n (rb_rd HRR.o) hdr1 (by omega) (by rw[HLE.o];exact hxl) (by rw[HLE.o];exact hc1)
     rw[HLE.o] at hk2
     have HV2:=hH hk2
     rw[be4_length] at hnx
     have hnx:=hH hnx
     clear hk2 hdr1 ok hn hon he hkd
     go_wp2_with fail
     go_fit (HK.o)
     rintro e wz ⟨rfl,rfl⟩
     go_wp2_with fail
     go_fit (HV1.o)
     rintro e wz ⟨rfl,rfl⟩
     go_wp2_with fail
     go_fit (HV2.o)
     rintro e wz ⟨rfl,m,rfl⟩
     have HB2:=hH (HBR.o.keep (Keeps.drewN wr m) (by simp))
     have c0:(wr.drewN m).cell? ⟨g,o+14,none⟩=some v0:=by rw[HB2.o.cell];exact hv0
     have f0:=HB2.o.frozen (o+14)
     clear hv0
     go_wp2_with fail
     refine Handed.intro g' (by omega) (HJ.o _ _ _ ⟨rfl,rfl,rfl,rfl,rfl,rfl,?_⟩)
     have hrs:RSt B xb (wr.drewN m) o (l.take k++[x]) (cs'.setIfInBounds (o+14) (.int .u32 (x.n:Int))):=(HST.o.keep (Keeps.drewN wr m) (by simp) (by simp)).one (by omega) 39 14 _ hid (by omega) (by omega) rfl (by decide) rfl
     exact⟨k+1,(cs'.setIfInBounds (o+14) (.int .u32 (x.n:Int))),rfl,by rw[hnx.o];go_num,by omega,by omega,(HB2.o.set_ (o+14) (.int .u32 (x.n:Int))),(by simpa using hz'),(set_far (o:=o) (a:=14) (v:=.int .u32 (x.n:Int)) HFAR.o (by omega)),by rw[htk.o];exact hrs.keep (Keeps.setCell (wr.drewN m) ⟨g,o+14,none⟩ (.int .u32 (x.n:Int))) (by simpa using hxg) (fun q hq=>.inl (by simp at hq;omega)),(HKW.o.trans ((Keeps.drewN wr m)) (by simp)).trans (Keeps.setCell (wr.drewN m) ⟨g,o+14,none⟩ (.int .u32 (x.n:Int))) (by simp)⟩
    ·as_aux_lemma=>
     have hkd:kindOf x.id=1:=by rw[hid];rfl
     have he:encP x=UInt8.ofNat 40::[UInt8.ofNat x.n]:=by unfold encP;rw[hkd,hid];rfl
     have hdr:=HDR.o
     rw[he,List.cons_append] at hdr
     have hnx:=HNXT.o
     rw[he,List.length_cons] at hnx
     have hk1:=decKey_c wr xb ob c (encL l++rest) _ off 40 40 rfl (by decide) HRR.o hdr (by rw[HLE.o];exact hxl)
     rw[HLE.o] at hk1
     have HK:=hH hk1
     have HV1:=hH (vppT_c wr 40 40 pkt rfl (by decide) (by have h:=HVP.o;rwa [hid] at h))
     have hdr1:(encL l++rest).drop (off+1)=[UInt8.ofNat x.n]++(encL (l.drop (k+1))++rest):=drop_one hdr
     have hon:=HON.o
     rw[he,List.length_cons] at hon
     clear hk1 hdr
     have ca0:=HBR.o.cell (o+31)
     have hsz:o+31<cs'.size:=by omega
     obtain⟨v0,hv0⟩:=gv hsz
     obtain⟨v1,hv1⟩:∃v1,cs'[o+32]?=some v1:=⟨_,Array.getElem?_eq_getElem (by omega)⟩
     clear ca0 hsz
     have ok:=HOK.o
     have hn:=(ok.k1 hkd).1
     have hk2:=decKey_c wr xb ob c (encL l++rest) _ (off+1) x.n x.n rfl (by omega) HRR.o (by simpa using hdr1) (by rw[HLE.o];exact hxl)
     rw[HLE.o] at hk2
     have HV2:=hH hk2
     simp only[List.length_singleton] at hnx
     have hnx:=hH hnx
     clear hk2 hdr1 ok hn hon he hkd
     go_wp2_with fail
     go_fit (HK.o)
     rintro e wz ⟨rfl,rfl⟩
     go_wp2_with fail
     go_fit (HV1.o)
     rintro e wz ⟨rfl,rfl⟩
     go_wp2_with fail
     go_fit (HV2.o)
     rintro e wz ⟨rfl,rfl⟩
     have HB2:=hH (HBR.o.keep (Keeps.refl [] wr) (by simp))
     have c0:(wr).cell? ⟨g,o+31,none⟩=some v0:=by rw[HB2.o.cell];exact hv0
     have f0:=HB2.o.frozen (o+31)
     have c1:(wr).cell? ⟨g,o+32,none⟩=some v1:=by rw[HB2.o.cell];exact hv1
     have f1:=HB2.o.frozen (o+32)
     clear hv0 hv1
     go_wp2_with fail
     refine Handed.intro g' (by omega) (HJ.o _ _ _ ⟨rfl,rfl,rfl,rfl,rfl,rfl,?_⟩)
     have hrs:RSt B xb (wr) o (l.take k++[x]) ((cs'.setIfInBounds (o+31) (.int .u8 (x.n:Int))).setIfInBounds (o+32) (.bool true)):=(HST.o.keep (Keeps.refl [] wr) (by simp) (by simp)).two (by omega) 40 31 32 _ _ hid (by omega) (by omega) (by omega) (by omega) (by omega) rfl rfl (by decide) rfl rfl
     exact⟨k+1,((cs'.setIfInBounds (o+31) (.int .u8 (x.n:Int))).setIfInBounds (o+32) (.bool true)),rfl,by rw[hnx.o];go_num,by omega,by omega,((HB2.o.set_ (o+31) (.int .u8 (x.n:Int))).set_ (o+32) (.bool true)),(by simpa using hz'),(set_far (o:=o) (a:=32) (v:=.bool true) (set_far (o:=o) (a:=31) (v:=.int .u8 (x.n:Int)) HFAR.o (by omega)) (by omega)),by rw[htk.o];exact hrs.keep (((Keeps.setCell (wr) ⟨g,o+31,none⟩ (.int .u8 (x.n:Int)))).trans (Keeps.setCell _ ⟨g,o+32,none⟩ (.bool true)) (by simp)) (by simpa using hxg) (fun q hq=>.inl (by simp at hq;omega)),(HKW.o.trans ((Keeps.refl [] wr)) (by simp)).trans (((Keeps.setCell (wr) ⟨g,o+31,none⟩ (.int .u8 (x.n:Int)))).trans (Keeps.setCell _ ⟨g,o+32,none⟩ (.bool true)) (by simp)) (by simp)⟩
    ·as_aux_lemma=>
     have hkd:kindOf x.id=1:=by rw[hid];rfl
     have he:encP x=UInt8.ofNat 41::[UInt8.ofNat x.n]:=by unfold encP;rw[hkd,hid];rfl
     have hdr:=HDR.o
     rw[he,List.cons_append] at hdr
     have hnx:=HNXT.o
     rw[he,List.length_cons] at hnx
     have hk1:=decKey_c wr xb ob c (encL l++rest) _ off 41 41 rfl (by decide) HRR.o hdr (by rw[HLE.o];exact hxl)
     rw[HLE.o] at hk1
     have HK:=hH hk1
     have HV1:=hH (vppT_c wr 41 41 pkt rfl (by decide) (by have h:=HVP.o;rwa [hid] at h))
     have hdr1:(encL l++rest).drop (off+1)=[UInt8.ofNat x.n]++(encL (l.drop (k+1))++rest):=drop_one hdr
     have hon:=HON.o
     rw[he,List.length_cons] at hon
     clear hk1 hdr
     have ca0:=HBR.o.cell (o+33)
     have hsz:o+33<cs'.size:=by omega
     obtain⟨v0,hv0⟩:=gv hsz
     obtain⟨v1,hv1⟩:∃v1,cs'[o+34]?=some v1:=⟨_,Array.getElem?_eq_getElem (by omega)⟩
     clear ca0 hsz
     have ok:=HOK.o
     have hn:=(ok.k1 hkd).1
     have hk2:=decKey_c wr xb ob c (encL l++rest) _ (off+1) x.n x.n rfl (by omega) HRR.o (by simpa using hdr1) (by rw[HLE.o];exact hxl)
     rw[HLE.o] at hk2
     have HV2:=hH hk2
     simp only[List.length_singleton] at hnx
     have hnx:=hH hnx
     clear hk2 hdr1 ok hn hon he hkd
     go_wp2_with fail
     go_fit (HK.o)
     rintro e wz ⟨rfl,rfl⟩
     go_wp2_with fail
     go_fit (HV1.o)
     rintro e wz ⟨rfl,rfl⟩
     go_wp2_with fail
     go_fit (HV2.o)
     rintro e wz ⟨rfl,rfl⟩
     have HB2:=hH (HBR.o.keep (Keeps.refl [] wr) (by simp))
     have c0:(wr).cell? ⟨g,o+33,none⟩=some v0:=by rw[HB2.o.cell];exact hv0
     have f0:=HB2.o.frozen (o+33)
     have c1:(wr).cell? ⟨g,o+34,none⟩=some v1:=by rw[HB2.o.cell];exact hv1
     have f1:=HB2.o.frozen (o+34)
     clear hv0 hv1
     go_wp2_with fail
     refine Handed.intro g' (by omega) (HJ.o _ _ _ ⟨rfl,rfl,rfl,rfl,rfl,rfl,?_⟩)
     have hrs:RSt B xb (wr) o (l.take k++[x]) ((cs'.setIfInBounds (o+33) (.int .u8 (x.n:Int))).setIfInBounds (o+34) (.bool true)):=(HST.o.keep (Keeps.refl [] wr) (by simp) (by simp)).two (by omega) 41 33 34 _ _ hid (by omega) (by omega) (by omega) (by omega) (by omega) rfl rfl (by decide) rfl rfl
     exact⟨k+1,((cs'.setIfInBounds (o+33) (.int .u8 (x.n:Int))).setIfInBounds (o+34) (.bool true)),rfl,by rw[hnx.o];go_num,by omega,by omega,((HB2.o.set_ (o+33) (.int .u8 (x.n:Int))).set_ (o+34) (.bool true)),(by simpa using hz'),(set_far (o:=o) (a:=34) (v:=.bool true) (set_far (o:=o) (a:=33) (v:=.int .u8 (x.n:Int)) HFAR.o (by omega)) (by omega)),by rw[htk.o];exact hrs.keep (((Keeps.setCell (wr) ⟨g,o+33,none⟩ (.int .u8 (x.n:Int)))).trans (Keeps.setCell _ ⟨g,o+34,none⟩ (.bool true)) (by simp)) (by simpa using hxg) (fun q hq=>.inl (by simp at hq;omega)),(HKW.o.trans ((Keeps.refl [] wr)) (by simp)).trans (((Keeps.setCell (wr) ⟨g,o+33,none⟩ (.int .u8 (x.n:Int)))).trans (Keeps.setCell _ ⟨g,o+34,none⟩ (.bool true)) (by simp)) (by simp)⟩
    ·as_aux_lemma=>
     have hkd:kindOf x.id=1:=by rw[hid];rfl
     have he:encP x=UInt8.ofNat 42::[UInt8.ofNat x.n]:=by unfold encP;rw[hkd,hid];rfl
     have hdr:=HDR.o
     rw[he,List.cons_append] at hdr
     have hnx:=HNXT.o
     rw[he,List.length_cons] at hnx
     have hk1:=decKey_c wr xb ob c (encL l++rest) _ off 42 42 rfl (by decide) HRR.o hdr (by rw[HLE.o];exact hxl)
     rw[HLE.o] at hk1
     have HK:=hH hk1
     have HV1:=hH (vppT_c wr 42 42 pkt rfl (by decide) (by have h:=HVP.o;rwa [hid] at h))
     have hdr1:(encL l++rest).drop (off+1)=[UInt8.ofNat x.n]++(encL (l.drop (k+1))++rest):=drop_one hdr
     have hon:=HON.o
     rw[he,List.length_cons] at hon
     clear hk1 hdr
     have ca0:=HBR.o.cell (o+35)
     have hsz:o+35<cs'.size:=by omega
     obtain⟨v0,hv0⟩:=gv hsz
     obtain⟨v1,hv1⟩:∃v1,cs'[o+36]?=some v1:=⟨_,Array.getElem?_eq_getElem (by omega)⟩
     clear ca0 hsz
     have ok:=HOK.o
     have hn:=(ok.k1 hkd).1
     have hk2:=decKey_c wr xb ob c (encL l++rest) _ (off+1) x.n x.n rfl (by omega) HRR.o (by simpa using hdr1) (by rw[HLE.o];exact hxl)
     rw[HLE.o] at hk2
     have HV2:=hH hk2
     simp only[List.length_singleton] at hnx
     have hnx:=hH hnx
     clear hk2 hdr1 ok hn hon he hkd
     go_wp2_with fail
     go_fit (HK.o)
     rintro e wz ⟨rfl,rfl⟩
     go_wp2_with fail
     go_fit (HV1.o)
     rintro e wz ⟨rfl,rfl⟩
     go_wp2_with fail
     go_fit (HV2.o)
     rintro e wz ⟨rfl,rfl⟩
     have HB2:=hH (HBR.o.keep (Keeps.refl [] wr) (by simp))
     have c0:(wr).cell? ⟨g,o+35,none⟩=some v0:=by rw[HB2.o.cell];exact hv0
     have f0:=HB2.o.frozen (o+35)
     have c1:(wr).cell? ⟨g,o+36,none⟩=some v1:=by rw[HB2.o.cell];exact hv1
     have f1:=HB2.o.frozen (o+36)
     clear hv0 hv1
     go_wp2_with fail
     refine Handed.intro g' (by omega) (HJ.o _ _ _ ⟨rfl,rfl,rfl,rfl,rfl,rfl,?_⟩)
     have hrs:RSt B xb (wr) o (l.take k++[x]) ((cs'.setIfInBounds (o+35) (.int .u8 (x.n:Int))).setIfInBounds (o+36) (.bool true)):=(HST.o.keep (Keeps.refl [] wr) (by simp) (by simp)).two (by omega) 42 35 36 _ _ hid (by omega) (by omega) (by omega) (by omega) (by omega) rfl rfl (by decide) rfl rfl
     exact⟨k+1,((cs'.setIfInBounds (o+35) (.int .u8 (x.n:Int))).setIfInBounds (o+36) (.bool true)),rfl,by rw[hnx.o];go_num,by omega,by omega,((HB2.o.set_ (o+35) (.int .u8 (x.n:Int))).set_ (o+36) (.bool true)),(by simpa using hz'),(set_far (o:=o) (a:=36) (v:=.bool true) (set_far (o:=o) (a:=35) (v:=.int .u8 (x.n:Int)) HFAR.o (by omega)) (by omega)),by rw[htk.o];exact hrs.keep (((Keeps.setCell (wr) ⟨g,o+35,none⟩ (.int .u8 (x.n:Int)))).trans (Keeps.setCell _ ⟨g,o+36,none⟩ (.bool true)) (by simp)) (by simpa using hxg) (fun q hq=>.inl (by simp at hq;omega)),(HKW.o.trans ((Keeps.refl [] wr)) (by simp)).trans (((Keeps.setCell (wr) ⟨g,o+35,none⟩ (.int .u8 (x.n:Int)))).trans (Keeps.setCell _ ⟨g,o+36,none⟩ (.bool true)) (by simp)) (by simp)⟩
   ·as_aux_lemma=>
    have hkl:l.take k=l:=List.take_of_length_le (by omega)
    rw[hkl,HNE.o]
    have hst:=HST.o
    rw[hkl] at hst
    have HS2:=hH hst
    clear hst hkl
    go_wp2_with fail
    go_ret2
    exact⟨by simp,cs',HBR.o,hz',HFAR.o,HS2.o.mono hwB,(HK1.o.mono (S':=[g,bb]) (by simp)).trans HKW.o (by simp)⟩
end Go.Proofs.YtkglmacaecmhdaaGreatDoor
