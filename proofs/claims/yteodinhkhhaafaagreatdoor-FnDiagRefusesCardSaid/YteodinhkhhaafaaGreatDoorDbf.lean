/- Walks of the program, and plain facts. -/
import Derived.Test.YteodinhkhhaafaaGreatDoorDbe
import Derived.Test.YteodinhkhhaafaaGreatDoorDap
set_option linter.unusedVariables false
set_option linter.unusedSimpArgs false
set_option maxRecDepth 100000
set_option maxHeartbeats 6400000
namespace Go.Proofs.YteodinhkhhaafaaGreatDoor
section
open Go.RowKit
theorem headIn (m n form:Nat) (hm:m<8) (hn:n<18446744073709551616) (hf:form≤100) (w:World):
  Calls Tryz.prog 55 #[.int .i64 (m:Int),.int .u64 (n:Int),.int .i64 (form:Int)] w fun e w'=>e= .returned (.string ⟨(headB m n form).toArray⟩)∧Fr [] w w':=by
 by_cases hs:form=0∧n<24
 ·obtain ⟨rfl,hs⟩:=hs
  exact headIn_small m n hm hs w
 ·have e:headB m n form=UInt8.ofNat (m*32+24+lgB form n)::beB (2^lgB form n) n:=if_neg hs
  rw [e]
  by_cases h1:form≤1∧n<256
  ·have:lgB form n=0:=if_pos h1
   rw [this]
   exact headIn_0 m n form hm hn hf hs h1 w
  ·by_cases h2:form≤2∧n<65536
   ·have:lgB form n=1:=by unfold lgB;rw [if_neg h1,if_pos h2]
    rw [this]
    exact headIn_1 m n form hm hn hf hs h1 h2 w
   ·by_cases h3:form≤3∧n<4294967296
    ·have:lgB form n=2:=by unfold lgB;rw [if_neg h1,if_neg h2,if_pos h3]
     rw [this]
     exact headIn_2 m n form hm hn hf hs h1 h2 h3 w
    ·have:lgB form n=3:=by unfold lgB;rw [if_neg h1,if_neg h2,if_neg h3]
     rw [this]
     exact headIn_3 m n form hm hn hf hs h1 h2 h3 w
theorem head (m n:Nat) (hm:m<8) (hn:n<18446744073709551616) (w:World):
  Calls Tryz.prog 25 #[.int .i64 (m:Int),.int .u64 (n:Int)] w fun e w'=>e= .returned (.string ⟨(headB m n 0).toArray⟩)∧Fr [] w w':=by
 have K:=Hz (headIn m n 0 hm hn (by omega))
 go_enter Tryz.func25,Tryz.ntmps25
 go_wp2_with fail
 refine (K.out _).mono ?_
 rintro e w1 ⟨rfl,hf⟩
 go_wp2
 go_ret
 exact ⟨rfl,hf⟩
theorem beB_length: ∀k n,(beB k n).length=k
 |0,_=>rfl
 |k+1,n=>by simp [beB,beB_length k n]
theorem be_beB: ∀k n,∀a,List.foldl (fun a (b:UInt8)=>a*256+b.toNat) a (beB k n)=a*256^k+n%256^k
 |0,n,a=>by simp [beB,Nat.mod_one]
 |k+1,n,a=>by
  simp only [beB,List.foldl_cons]
  rw [be_beB k n]
  have h1:(UInt8.ofNat (n/256^k%256)).toNat=n/256^k%256:=by simp
  rw [h1,Nat.pow_succ,Nat.mod_mul,Nat.add_mul,Nat.mul_assoc a 256,Nat.mul_comm 256 (256^k),Nat.mul_comm (n/256^k%256)]
  omega
theorem be_beB0 (k n:Nat) (h:n<256^k):be (beB k n)=n:=by
 unfold be
 rw [be_beB k n 0,Nat.mod_eq_of_lt h]
 omega
theorem lgB_lt (form n:Nat):lgB form n<4:=by unfold lgB;split;omega;split;omega;split<;>omega
theorem lgB_fits (form n:Nat) (hn:n<18446744073709551616):n<256^2^lgB form n:=by
 unfold lgB
 split
 ·rename_i h;simpa using h.2
 ·split
  ·rename_i h;simpa using h.2
  ·split
   ·rename_i h;simpa using h.2
   ·simpa using hn
theorem hd_headB (m n form:Nat) (hm:m<7) (hn:n<18446744073709551616) (pre post:List UInt8):
  ∃ai,hd (pre++(headB m n form++post)) pre.length= .ok (m,ai,n,pre.length+(headB m n form).length)∧ai<28:=by
 unfold hd
 by_cases hs:form=0∧n<24
 ·have e:headB m n form=[UInt8.ofNat (m*32+n)]:=if_pos hs
  rw [e]
  have h1:(UInt8.ofNat (m*32+n)).toNat=m*32+n:=by simp;omega
  refine ⟨n,?_,by omega⟩
  simp only [List.singleton_append,List.getElem?_append_right (Nat.le_refl _),Nat.sub_self,List.getElem?_cons_zero,h1]
  rw [if_pos (by omega)]
  have a1:(m*32+n)/32=m:=by omega
  have a2:(m*32+n)%32=n:=by omega
  rw [a1,a2]
  rfl
 ·have e:headB m n form=UInt8.ofNat (m*32+24+lgB form n)::beB (2^lgB form n) n:=if_neg hs
  have hl:=lgB_lt form n
  have hfit:=lgB_fits form n hn
  rw [e]
  generalize lgB form n=J at *
  have h1:(UInt8.ofNat (m*32+24+J)).toNat=m*32+24+J:=by simp;omega
  refine ⟨24+J,?_,by omega⟩
  simp only [List.cons_append,List.getElem?_append_right (Nat.le_refl _),Nat.sub_self,List.getElem?_cons_zero,h1]
  have a1:(m*32+24+J)/32=m:=by omega
  have a2:(m*32+24+J)%32=24+J:=by omega
  rw [a1,a2,if_neg (by omega),if_pos (by omega),show 24+J-24=J from by omega]
  have hlen:(pre++UInt8.ofNat (m*32+24+J)::(beB (2^J) n++post)).length=pre.length+1+2^J+post.length:=by
   simp [beB_length];omega
  rw [if_neg (by rw [hlen];omega),if_neg (by omega)]
  have hd1:List.drop (pre.length+1) (pre++UInt8.ofNat (m*32+24+J)::(beB (2^J) n++post))=beB (2^J) n++post:=by
   rw [List.drop_append,List.drop_eq_nil_of_le (by omega),List.nil_append,show pre.length+1-pre.length=1 from by omega]
   rfl
  rw [hd1,List.take_append_of_le_length (by rw [beB_length];omega),List.take_of_length_le (by rw [beB_length];omega),be_beB0 _ _ hfit]
  simp [beB_length]
  omega
end
section
section
open Go.RowKit
def EncAt (bs:List UInt8) (t:Tr):Prop:= ∀pre post,Enc (pre++(bs++post)) t pre.length (pre.length+bs.length)
def EncsAt (bs:List UInt8) (l:List Tr):Prop:= ∀pre post,Encs (pre++(bs++post)) l pre.length (pre.length+bs.length)
theorem EncsAt.nil:EncsAt [] []:=fun pre post=>by rw [Encs];rfl
theorem EncsAt.cons {b c:List UInt8} {t:Tr} {l:List Tr} (h:EncAt b t) (g:EncsAt c l):EncsAt (b++c) (t::l):=fun pre post=>by
 rw [Encs]
 refine ⟨pre.length+b.length,?_,?_⟩
 ·have:=h pre (c++post)
  simpa [List.append_assoc] using this
 ·have:=g (pre++b) post
  simpa [List.append_assoc,Nat.add_assoc] using this
theorem EncAt.nint {n:Nat} (hn:n<18446744073709551616) (f:Nat):EncAt (headB 1 n f) (.int true n):=fun pre post=>by
 obtain ⟨ai,h,_⟩:=hd_headB 1 n f (by omega) hn pre post
 rw [Enc]
 exact ⟨ai,h⟩
theorem EncAt.arr {l:List Tr} {bs:List UInt8} (f:Nat) (hn:l.length<18446744073709551616) (h:EncsAt bs l):EncAt (headB 4 l.length f++bs) (.arr false l):=fun pre post=>by
 obtain ⟨ai,hh,ha⟩:=hd_headB 4 l.length f (by omega) hn pre (bs++post)
 rw [Enc]
 refine ⟨ai,_,by simpa [List.append_assoc] using hh,by omega,?_⟩
 have:=h (pre++headB 4 l.length f) post
 simpa [List.append_assoc,Nat.add_assoc] using this
theorem EncAt.map {l:List Tr} {bs:List UInt8} (f v:Nat) (hv:l.length=v*2) (hn:v<18446744073709551616) (h:EncsAt bs l):EncAt (headB 5 v f++bs) (.map false l):=fun pre post=>by
 obtain ⟨ai,hh,ha⟩:=hd_headB 5 v f (by omega) hn pre (bs++post)
 rw [Enc]
 refine ⟨ai,v,_,by simpa [List.append_assoc] using hh,by omega,hv,?_⟩
 have:=h (pre++headB 5 v f) post
 simpa [List.append_assoc,Nat.add_assoc] using this
theorem EncAt.tag {n:Nat} {t:Tr} {bs:List UInt8} (f:Nat) (hn:n<18446744073709551616) (h:EncAt bs t):EncAt (headB 6 n f++bs) (.tag n t):=fun pre post=>by
 obtain ⟨ai,hh,ha⟩:=hd_headB 6 n f (by omega) hn pre (bs++post)
 rw [Enc]
 refine ⟨ai,_,by simpa [List.append_assoc] using hh,?_⟩
 have:=h (pre++headB 6 n f) post
 simpa [List.append_assoc,Nat.add_assoc] using this
theorem EncAt.str {b:List UInt8} (tx:Bool) (f:Nat) (hn:b.length<9223372036854775808):EncAt (headB (majS tx) b.length f++b) (.str tx b):=fun pre post=>by
 obtain ⟨ai,hh,ha⟩:=hd_headB (majS tx) b.length f (by cases tx<;>simp [majS]) (by omega) pre (b++post)
 rw [Enc]
 refine ⟨ai,b.length,_,by simpa [List.append_assoc] using hh,by omega,?_,hn,?_,?_⟩
 ·simp;omega
 ·simp [Nat.add_assoc]
 ·have e:pre++(headB (majS tx) b.length f++b++post)=(pre++headB (majS tx) b.length f)++(b++post):=by simp [List.append_assoc]
  rw [e,←List.length_append,List.drop_left,List.take_left]
end
section
open Go.RowKit
theorem rem_nat (a:Int) (m:Nat) (hm:0<m) (hm2:m<1000): ∃k:Nat,k<m∧(IntKind.u64.wrap a).tmod m=(k:Int)∧wrap64 ((IntKind.u64.wrap a).tmod m)=(k:Int):=by
 have h0:0≤IntKind.u64.wrap a:=by show 0≤a%18446744073709551616;omega
 have h1:0≤IntKind.u64.wrap a%(m:Int):=Int.emod_nonneg _ (by omega)
 have h2:IntKind.u64.wrap a%(m:Int)<m:=Int.emod_lt_of_pos _ (by omega)
 rw [Int.tmod_eq_emod_of_nonneg h0]
 generalize IntKind.u64.wrap a%(m:Int)=z at *
 refine ⟨z.toNat,by omega,by omega,?_⟩
 unfold wrap64
 omega
end
end
end Go.Proofs.YteodinhkhhaafaaGreatDoor
