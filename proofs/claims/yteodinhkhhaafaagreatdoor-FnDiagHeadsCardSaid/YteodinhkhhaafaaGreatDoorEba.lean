/- Walks of the program, and plain facts. -/
import Derived.Test.YteodinhkhhaafaaGreatDoorEaz
set_option linter.unusedVariables false
set_option linter.unusedSimpArgs false
set_option maxRecDepth 100000
set_option maxHeartbeats 6400000
namespace Go.Proofs.YteodinhkhhaafaaGreatDoor
section
open Go.RowKit
theorem headIn (m n form:Nat) (hm:m<8) (hn:n<18446744073709551616) (hf:form≤100) (w:World):
  Calls Tryz.prog 55 #[.int .i64 (m:Int),.int .u64 (n:Int),.int .i64 (form:Int)] w fun e w'=>e= .returned (.string ⟨(headB m n form).toArray⟩)∧Fr [] w w':=by
 by_cases hs:form=0∧n<24
 ·obtain ⟨rfl,hs⟩:=hs;exact headIn_small m n hm hs w
 ·have e:headB m n form=UInt8.ofNat (m*32+24+lgB form n)::beB (2^lgB form n) n:=if_neg hs;rw [e];by_cases h1:form≤1∧n<256
  ·have:lgB form n=0:=if_pos h1;rw [this];exact headIn_0 m n form hm hn hf hs h1 w
  ·by_cases h2:form≤2∧n<65536
   ·have:lgB form n=1:=by unfold lgB;rw [if_neg h1,if_pos h2]
    rw [this];exact headIn_1 m n form hm hn hf hs h1 h2 w
   ·by_cases h3:form≤3∧n<4294967296
    ·have:lgB form n=2:=by unfold lgB;rw [if_neg h1,if_neg h2,if_pos h3]
     rw [this];exact headIn_2 m n form hm hn hf hs h1 h2 h3 w
    ·have:lgB form n=3:=by unfold lgB;rw [if_neg h1,if_neg h2,if_neg h3]
     rw [this];exact headIn_3 m n form hm hn hf hs h1 h2 h3 w
theorem head (m n:Nat) (hm:m<8) (hn:n<18446744073709551616) (w:World):
  Calls Tryz.prog 25 #[.int .i64 (m:Int),.int .u64 (n:Int)] w fun e w'=>e= .returned (.string ⟨(headB m n 0).toArray⟩)∧Fr [] w w':=by
 have K:=Hz (headIn m n 0 hm hn (by omega))
 go_enter Tryz.func25,Tryz.ntmps25
 go_wp2_with fail
 refine (K.out _).mono ?_
 rintro e w1 ⟨rfl,hf⟩;go_wp2;go_ret
 exact ⟨rfl,hf⟩
theorem beB_length: ∀k n,(beB k n).length=k
 |0,_=>rfl
 |k+1,n=>by simp [beB,beB_length k n]
theorem be_beB: ∀k n,∀a,List.foldl (fun a (b:UInt8)=>a*256+b.toNat) a (beB k n)=a*256^k+n%256^k
 |0,n,a=>by simp [beB,Nat.mod_one]
 |k+1,n,a=>by
  simp only [beB,List.foldl_cons];rw [be_beB k n];have h1:(UInt8.ofNat (n/256^k%256)).toNat=n/256^k%256:=by simp
  rw [h1,Nat.pow_succ,Nat.mod_mul,Nat.add_mul,Nat.mul_assoc a 256,Nat.mul_comm 256 (256^k),Nat.mul_comm (n/256^k%256)];omega
theorem be_beB0 (k n:Nat) (h:n<256^k):be (beB k n)=n:=by
 unfold be;rw [be_beB k n 0,Nat.mod_eq_of_lt h];omega
theorem lgB_lt (form n:Nat):lgB form n<4:=by unfold lgB;split;omega;split;omega;split<;>omega
theorem lgB_fits (form n:Nat) (hn:n<18446744073709551616):n<256^2^lgB form n:=by
 unfold lgB
 split
 ·rename_i h;simpa using h.2
 ·split
  ·rename_i h;simpa using h.2
  ·split
   ·rename_i h;simpa using h.2
   ·simpa using hn
theorem hd_headB (m n form:Nat) (hm:m<7) (hn:n<18446744073709551616) (pre post:List UInt8):
  ∃ai,hd (pre++(headB m n form++post)) pre.length= .ok (m,ai,n,pre.length+(headB m n form).length)∧ai<28:=by
 unfold hd;by_cases hs:form=0∧n<24
 ·have e:headB m n form=[UInt8.ofNat (m*32+n)]:=if_pos hs;rw [e];have h1:(UInt8.ofNat (m*32+n)).toNat=m*32+n:=by simp;omega
  refine ⟨n,?_,by omega⟩
  simp only [List.singleton_append,List.getElem?_append_right (Nat.le_refl _),Nat.sub_self,List.getElem?_cons_zero,h1];rw [if_pos (by omega)]
  have a1:(m*32+n)/32=m:=by omega
  have a2:(m*32+n)%32=n:=by omega
  rw [a1,a2]
  rfl
 ·have e:headB m n form=UInt8.ofNat (m*32+24+lgB form n)::beB (2^lgB form n) n:=if_neg hs;have hl:=lgB_lt form n;have hfit:=lgB_fits form n hn;rw [e];generalize lgB form n=J at *
  have h1:(UInt8.ofNat (m*32+24+J)).toNat=m*32+24+J:=by simp;omega
  refine ⟨24+J,?_,by omega⟩
  simp only [List.cons_append,List.getElem?_append_right (Nat.le_refl _),Nat.sub_self,List.getElem?_cons_zero,h1];have a1:(m*32+24+J)/32=m:=by omega
  have a2:(m*32+24+J)%32=24+J:=by omega
  rw [a1,a2,if_neg (by omega),if_pos (by omega),show 24+J-24=J from by omega]
  have hlen:(pre++UInt8.ofNat (m*32+24+J)::(beB (2^J) n++post)).length=pre.length+1+2^J+post.length:=by
   simp [beB_length];omega
  rw [if_neg (by rw [hlen];omega),if_neg (by omega)]
  have hd1:List.drop (pre.length+1) (pre++UInt8.ofNat (m*32+24+J)::(beB (2^J) n++post))=beB (2^J) n++post:=by
   rw [List.drop_append,List.drop_eq_nil_of_le (by omega),List.nil_append,show pre.length+1-pre.length=1 from by omega]
   rfl
  rw [hd1,List.take_append_of_le_length (by rw [beB_length];omega),List.take_of_length_le (by rw [beB_length];omega),be_beB0 _ _ hfit]
  simp [beB_length];omega
end
section
section
open Go.RowKit
def EncAt (bs:List UInt8) (t:Tr):Prop:= ∀pre post,Enc (pre++(bs++post)) t pre.length (pre.length+bs.length)
def EncsAt (bs:List UInt8) (l:List Tr):Prop:= ∀pre post,Encs (pre++(bs++post)) l pre.length (pre.length+bs.length)
theorem EncsAt.nil:EncsAt [] []:=fun pre post=>by rw [Encs];rfl
theorem EncsAt.cons {b c:List UInt8} {t:Tr} {l:List Tr} (h:EncAt b t) (g:EncsAt c l):EncsAt (b++c) (t::l):=fun pre post=>by
 rw [Encs];refine ⟨pre.length+b.length,?_,?_⟩
 ·have:=h pre (c++post)
  simpa [List.append_assoc] using this
 ·have:=g (pre++b) post
  simpa [List.append_assoc,Nat.add_assoc] using this
theorem EncAt.nint {n:Nat} (hn:n<18446744073709551616) (f:Nat):EncAt (headB 1 n f) (.int true n):=fun pre post=>by
 obtain ⟨ai,h,_⟩:=hd_headB 1 n f (by omega) hn pre post
 rw [Enc];exact ⟨ai,h⟩
theorem EncAt.arr {l:List Tr} {bs:List UInt8} (f:Nat) (hn:l.length<18446744073709551616) (h:EncsAt bs l):EncAt (headB 4 l.length f++bs) (.arr false l):=fun pre post=>by
 obtain ⟨ai,hh,ha⟩:=hd_headB 4 l.length f (by omega) hn pre (bs++post)
 rw [Enc];refine ⟨ai,_,by simpa [List.append_assoc] using hh,by omega,?_⟩
 have:=h (pre++headB 4 l.length f) post
 simpa [List.append_assoc,Nat.add_assoc] using this
theorem EncAt.map {l:List Tr} {bs:List UInt8} (f v:Nat) (hv:l.length=v*2) (hn:v<18446744073709551616) (h:EncsAt bs l):EncAt (headB 5 v f++bs) (.map false l):=fun pre post=>by
 obtain ⟨ai,hh,ha⟩:=hd_headB 5 v f (by omega) hn pre (bs++post)
 rw [Enc];refine ⟨ai,v,_,by simpa [List.append_assoc] using hh,by omega,hv,?_⟩
 have:=h (pre++headB 5 v f) post
 simpa [List.append_assoc,Nat.add_assoc] using this
theorem EncAt.tag {n:Nat} {t:Tr} {bs:List UInt8} (f:Nat) (hn:n<18446744073709551616) (h:EncAt bs t):EncAt (headB 6 n f++bs) (.tag n t):=fun pre post=>by
 obtain ⟨ai,hh,ha⟩:=hd_headB 6 n f (by omega) hn pre (bs++post)
 rw [Enc];refine ⟨ai,_,by simpa [List.append_assoc] using hh,?_⟩
 have:=h (pre++headB 6 n f) post
 simpa [List.append_assoc,Nat.add_assoc] using this
theorem EncAt.str {b:List UInt8} (tx:Bool) (f:Nat) (hn:b.length<9223372036854775808):EncAt (headB (majS tx) b.length f++b) (.str tx b):=fun pre post=>by
 obtain ⟨ai,hh,ha⟩:=hd_headB (majS tx) b.length f (by cases tx<;>simp [majS]) (by omega) pre (b++post)
 rw [Enc];refine ⟨ai,b.length,_,by simpa [List.append_assoc] using hh,by omega,?_,hn,?_,?_⟩
 ·simp;omega
 ·simp [Nat.add_assoc]
 ·have e:pre++(headB (majS tx) b.length f++b++post)=(pre++headB (majS tx) b.length f)++(b++post):=by simp [List.append_assoc]
  rw [e,←List.length_append,List.drop_left,List.take_left]
end
section
open Go.RowKit
theorem rem_nat (a:Int) (m:Nat) (hm:0<m) (hm2:m<1000): ∃k:Nat,k<m∧(IntKind.u64.wrap a).tmod m=(k:Int)∧wrap64 ((IntKind.u64.wrap a).tmod m)=(k:Int):=by
 have h0:0≤IntKind.u64.wrap a:=by show 0≤a%18446744073709551616;omega
 have h1:0≤IntKind.u64.wrap a%(m:Int):=Int.emod_nonneg _ (by omega)
 have h2:IntKind.u64.wrap a%(m:Int)<m:=Int.emod_lt_of_pos _ (by omega)
 rw [Int.tmod_eq_emod_of_nonneg h0];generalize IntKind.u64.wrap a%(m:Int)=z at *
 refine ⟨z.toNat,by omega,by omega,?_⟩
 unfold wrap64;omega
end
end
section
set_option exponentiation.threshold 3000
open Go.RowKit
theorem read64 (b:Nat) (hb:b<18446744073709551616) (hf:b/4503599627370496%2048≠2047):Ieee.double.read b= .number (b/9223372036854775808==1) (fMant b) (fExp b-52):=by
 have e1:Ieee.double.signWeight=9223372036854775808:=by decide
 have e2:Ieee.double.binade=4503599627370496:=by decide
 have e3:Ieee.double.infRung=9218868437227405312:=by decide
 have e4:Ieee.double.leastPlace= -1074:=by decide
 unfold Ieee.Format.read;rw [e1,e2,e3,e4];dsimp only;have h2:b/9223372036854775808%2=b/9223372036854775808:=by omega
 rw [h2];unfold fMant fExp;by_cases h0:b/4503599627370496%2048=0
 ·rw [if_pos h0,if_pos h0,if_pos (by omega)]
  congr 1
  omega
 ·rw [if_neg h0,if_neg h0,if_neg (by omega),if_pos (by omega)]
  congr 1
  ·omega
  ·omega
theorem order_self (b:Nat) (hb:b<18446744073709551616) (hf:b/4503599627370496%2048≠2047):Ieee.double.order b b=some .eq:=by
 unfold Ieee.Format.order;rw [read64 b hb hf];simp [Ieee.Datum.order]
theorem fMant_lt (b:Nat):fMant b<9007199254740992:=by unfold fMant;split<;>omega
theorem fExp_le (b:Nat) (hf:b/4503599627370496%2048≠2047):fExp b-52≤971∧ -1074≤fExp b-52:=by unfold fExp;split<;>omega
theorem shl_le (m k:Nat) (h:m<9007199254740992):m≤9007199254740991<<<k:=by
 rw [Nat.shiftLeft_eq];have:=Nat.mul_le_mul (show m≤9007199254740991 by omega) (Nat.pow_pos (n:=k) (show 0<2 by decide))
 omega
theorem order_max (b:Nat) (hb:b<18446744073709551616) (hf:b/4503599627370496%2048≠2047):Ieee.double.order b 9218868437227405311≠some .gt∧Ieee.double.order b 18442240474082181119≠some .lt:=by
 have r1:Ieee.double.read 9218868437227405311= .number false 9007199254740991 971:=by decide
 have r2:Ieee.double.read 18442240474082181119= .number true 9007199254740991 971:=by decide
 have hm:=fMant_lt b;obtain ⟨he,_⟩:=fExp_le b hf;unfold Ieee.Format.order;rw [read64 b hb hf,r1,r2];generalize fMant b=m at *
 generalize fExp b-52=i at *
 generalize (b/9223372036854775808==1)=s at *
 have hk:=shl_le m (971-i).toNat hm;simp only [Ieee.Datum.order,Int.min_eq_left he];have h0:(i-i).toNat=0:=by omega
 rw [h0]
 constructor
 ·intro e;injection e with e
  rw [Int.compare_eq_gt] at e;unfold Ieee.signed at e;rw [Nat.shiftLeft_zero] at e;generalize 9007199254740991<<<(971-i).toNat=S at *
  cases s
  ·simp at e;omega
  ·simp at e;omega
 ·intro e;injection e with e
  rw [Int.compare_eq_lt] at e;unfold Ieee.signed at e;rw [Nat.shiftLeft_zero] at e;generalize 9007199254740991<<<(971-i).toNat=S at *
  cases s
  ·simp at e;omega
  ·simp at e;omega
def s2d (y:Nat):Nat:=Ieee.double.write (Ieee.single.read y)
theorem double_consts:Ieee.double.signWeight=9223372036854775808∧Ieee.double.binade=4503599627370496∧Ieee.double.infRung=9218868437227405312∧Ieee.double.leastPlace= -1074∧Ieee.double.fractionBits=52:=by decide
theorem cut0 (n:Nat) (s:Bool):Ieee.Toward.even.cut s n 0=n:=by
 unfold Ieee.Toward.cut;simp [Nat.mod_one]
theorem near64 (s:Bool) (m:Nat) (p:Int) (hm:0<m) (hm2:m<16777216) (hp1: -149≤p) (hp2:p≤104):
  Ieee.double.nearest s m p=(if s then 9223372036854775808 else 0)+(p+m.log2+1022).toNat*4503599627370496+m*2^(52-m.log2):=by
 obtain ⟨c1,c2,c3,c4,c5⟩:=double_consts;have hl:m.log2≤23:=by
  have:=(Nat.log2_lt (n:=m) (k:=24) (by omega)).2 (by omega)
  omega
 have hup:m<2^(m.log2+1):=Nat.lt_log2_self;have hlo:2^m.log2≤m:=Nat.log2_self_le (by omega)
 unfold Ieee.Format.nearest;rw [if_neg (by omega),c2,c3,c4,c5]
 dsimp only;have hmax:max (p+(m.log2:Int)-(52:Nat)) (-1074)=p+m.log2-52:=by omega
 rw [hmax,show (p-(p+(m.log2:Int)-52)).toNat=52-m.log2 by omega,show (p+(m.log2:Int)-52-p).toNat=0 by omega,cut0,Nat.shiftLeft_eq,show (p+(m.log2:Int)-52- -1074).toNat=(p+m.log2+1022).toNat by omega]
 have hkept:m*2^(52-m.log2)<9007199254740992:=by
  have h:=Nat.mul_lt_mul_of_pos_right hup (Nat.pow_pos (n:=52-m.log2) (show 0<2 by decide))
  rw [←Nat.pow_add,show m.log2+1+(52-m.log2)=53 by omega] at h
  exact h
 have hmin:min ((p+(m.log2:Int)+1022).toNat*4503599627370496+m*2^(52-m.log2)) 9218868437227405312=(p+m.log2+1022).toNat*4503599627370496+m*2^(52-m.log2):=by
  have:(p+(m.log2:Int)+1022).toNat≤1149:=by omega
  apply Nat.min_eq_left
  have h:=Nat.mul_le_mul_right 4503599627370496 this;clear hup hlo hmax;generalize m*2^(52-m.log2)=K at *
  generalize (p+(m.log2:Int)+1022).toNat=Q at *
  clear hl hp1 hp2 hm hm2 this c1 c2 c3 c4 c5;exact Nat.le_trans (Nat.add_le_add h (Nat.le_of_lt hkept)) (by decide)
 rw [hmin];unfold Ieee.Format.word;rw [c1];cases s
 ·simp
 ·simp;omega
theorem arith1 (sg l t:Nat) (h4:8388608≤t):sg+(873+l)*4503599627370496+t*536870912=sg+(874+l)*4503599627370496+(t-8388608)*536870912:=by omega
theorem arith2 (sg e f:Nat):sg+(e+895)*4503599627370496+(8388608+f)*536870912=sg+(e+1024-128)*4503599627370496+f*536870912:=by omega
theorem log2_23 (f:Nat) (h:f<8388608):(8388608+f).log2=23:=by
 have h1:=(Nat.log2_lt (n:=8388608+f) (k:=24) (by omega)).2 (by omega)
 have h2:=(Nat.le_log2 (n:=8388608+f) (k:=23) (by omega)).2 (by omega)
 omega
theorem s2d_wide (y:Nat) (hy:y<4294967296) (hf:y/8388608%256≠255):s2d y=widen y 8 23:=by
 have e1:Ieee.single.signWeight=2147483648:=by decide
 have e2:Ieee.single.binade=8388608:=by decide
 have e3:Ieee.single.infRung=2139095040:=by decide
 have e4:Ieee.single.leastPlace= -149:=by decide
 have h2:y/2147483648%2=y/2147483648:=by omega
 have hsg:(if (y/2147483648==1)=true then 9223372036854775808 else 0)=y/2147483648%2*9223372036854775808:=by
  rcases (show y/2147483648=0∨y/2147483648=1 by omega) with e|e
  ·rw [e];rfl
  ·rw [e];rfl
 unfold s2d Ieee.Format.read;rw [e1,e2,e3,e4];dsimp only;rw [h2];unfold widen;rw [show (2:Nat)^23=8388608 by decide,show (2:Nat)^8=256 by decide,show (2:Nat)^(8+23)=2147483648 by decide,show (2:Nat)^63=9223372036854775808 by decide,show (2:Nat)^52=4503599627370496 by decide,show (2:Nat)^(52-23)=536870912 by decide,show (2:Nat)^(8-1)=128 by decide]
 rw [if_neg hf];by_cases h0:y/8388608%256=0
 ·have hr:y%2147483648=y%8388608:=by omega
  rw [if_pos (by omega),if_neg (by omega),hr]
  show Ieee.double.nearest _ _ _=_
  have hm:=Nat.mod_lt y (show 0<8388608 by decide)
  generalize y%8388608=m at *
  by_cases hm0:m=0
  ·rw [if_pos hm0,hm0,←hsg];unfold Ieee.Format.nearest;rw [if_pos rfl];unfold Ieee.Format.word;rw [double_consts.1]
  ·rw [if_neg hm0,near64 _ m _ (by omega) (by omega) (by omega) (by omega),hsg]
   have hl:m.log2≤22:=by
    have:=(Nat.log2_lt (n:=m) (k:=23) (by omega)).2 (by omega)
    omega
   have hlo:2^m.log2≤m:=Nat.log2_self_le (by omega)
   have h3:m*2^(52-m.log2)=m*2^(23-m.log2)*536870912:=by
    rw [Nat.mul_assoc,show (536870912:Nat)=2^29 by decide,←Nat.pow_add]
    congr 2
    omega
   have h4:8388608≤m*2^(23-m.log2):=by
    have h:=Nat.mul_le_mul_right (2^(23-m.log2)) hlo;rw [←Nat.pow_add,show m.log2+(23-m.log2)=23 by omega] at h
    exact h
   rw [h3];generalize m*2^(23-m.log2)=t at *
   obtain ⟨sg,hsg2⟩: ∃sg,sg=y/2147483648%2*9223372036854775808:=⟨_,rfl⟩;rw [←hsg2];clear hsg2;generalize m.log2=l at *
   have:(-149+(l:Int)+1022).toNat=873+l:=by omega
   rw [this,show 1025-128-(23-l)=874+l by omega]
   exact arith1 sg l t h4
 ·rw [if_neg (by omega),if_pos (by omega),if_pos (by omega)]
  show Ieee.double.nearest _ _ _=_
  have hr:y%2147483648%8388608=y%8388608:=by omega
  rw [hr];have hm:=Nat.mod_lt y (show 0<8388608 by decide)
  have he:y%2147483648/8388608=y/8388608%256:=by omega
  rw [he];have hel:=Nat.mod_lt (y/8388608) (show 0<256 by decide)
  generalize y/8388608%256=e at *
  have hlog:=log2_23 (y%8388608) hm;rw [near64 _ _ _ (by omega) (by omega) (by omega) (by omega),hsg,hlog]
  have:(-149+((e-1:Nat):Int)+((23:Nat):Int)+1022).toNat=e+895:=by omega
  rw [this,show 52-23=29 by decide,show (2:Nat)^29=536870912 by decide]
  obtain ⟨sg,hsg2⟩: ∃sg,sg=y/2147483648%2*9223372036854775808:=⟨_,rfl⟩;rw [←hsg2];clear hsg2;exact arith2 sg e (y%8388608)
end
end Go.Proofs.YteodinhkhhaafaaGreatDoor
