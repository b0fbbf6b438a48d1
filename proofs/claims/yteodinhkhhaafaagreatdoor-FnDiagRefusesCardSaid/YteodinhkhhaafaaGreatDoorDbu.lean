/- Walks of the program, and plain facts. -/
import Derived.Test.YteodinhkhhaafaaGreatDoorDbt
set_option linter.unusedVariables false
set_option linter.unusedSimpArgs false
set_option maxRecDepth 100000
set_option maxHeartbeats 6400000
namespace Go.Proofs.YteodinhkhhaafaaGreatDoor
section
open Go.RowKit
def runeN (n b0 b1 b2 b3:Nat):Nat:=
 if b0<128 then 1
 else if 194≤b0∧b0<224 then (if n<2∨b1/64≠2 then 0 else if b0%32*64+b1%64<128 then 0 else 2)
 else if 224≤b0∧b0<240 then (if n<3∨b1/64≠2∨b2/64≠2 then 0
  else if b0%16*4096+b1%64*64+b2%64<2048∨(55296≤b0%16*4096+b1%64*64+b2%64∧b0%16*4096+b1%64*64+b2%64<57344) then 0 else 3)
 else if 240≤b0∧b0<245 then (if n<4∨b1/64≠2∨b2/64≠2∨b3/64≠2 then 0
  else if b0%8*262144+b1%64*4096+b2%64*64+b3%64<65536∨1114111<b0%8*262144+b1%64*4096+b2%64*64+b3%64 then 0 else 4)
 else 0
theorem runeN_eq (n b0 b1 b2 b3:Nat) (hn:1≤n) (h0:b0<256) (h1:b1<256) (h2:b2<256) (h3:b3<256):
  runeN n b0 b1 b2 b3=if (Lib.decodeN n b0 b1 b2 b3).1=65533∧(Lib.decodeN n b0 b1 b2 b3).2=1 then 0 else (Lib.decodeN n b0 b1 b2 b3).2:=by
 have key: ∀(r:Nat) (p:Nat×Nat),(p=(65533,1)∧r=0)∨(p.2=r∧(r=1→p.1<128))→r=if p.1=65533∧p.2=1 then 0 else p.2:=by
  rintro r p (⟨rfl,rfl⟩|⟨h1,h2⟩)
  ·simp
  ·rw [if_neg (by rintro ⟨a,b⟩;have:=h2 (by omega);omega),h1]
 apply key
 unfold runeN Lib.decodeN
 repeat' split
 all_goals first|(exfalso;omega)|(left;exact ⟨rfl,rfl⟩)|(right;exact ⟨rfl,by omega⟩)
end
section
open Go.RowKit
theorem and192 (b:Nat) (hb:b<256):bits .and .u8 (b:Int) 192=((b/64*64:Nat):Int):=by
 rw [show (192:Int)=((192:Nat):Int) from rfl,u8_and_nat _ _ (by omega) (by decide)]
 have key: ∀x:Fin 256,(x.val&&&192)=x.val/64*64:=by decide+kernel
 exact congrArg _ (key ⟨b,hb⟩)
theorem and_low (b k:Nat) (hb:b<256) (hk:k≤8):bits .and .u8 (b:Int) ((2^k-1:Nat):Int)=((b%2^k:Nat):Int):=by
 have hp:=Nat.pow_le_pow_right (n:=2) (by omega) hk
 rw [u8_and_nat _ _ (by omega) (by omega),Nat.and_two_pow_sub_one_eq_mod]
theorem or6 (r y:Nat) (hr:r<100000000) (hy:y<64):bits .or .i64 ((r:Int)*64) (y:Int)=((r*64+y:Nat):Int):=by
 rw [show (r:Int)*64=((r*64:Nat):Int) by omega,i64_or_nat _ _ (by omega) (by omega)]
 have t:=Nat.two_pow_add_eq_or_of_lt (i:=6) (b:=y) hy r
 rw [Nat.mul_comm (2^6) r] at t
 rw [←t]
def bt' (xs:List UInt8) (i:Nat):Nat:=(xs.getD i 0).toNat
theorem bt_lt (xs:List UInt8) (i:Nat):bt' xs i<256:=UInt8.toNat_lt _
theorem bt_at (xs:List UInt8) (i:Nat) (h:i<xs.length):((⟨xs.toArray⟩:ByteArray)[i]'(by show i<xs.toArray.size;simpa using h)).toNat=bt' xs i:=by
 unfold bt'
 rw [List.getD_eq_getElem?_getD,List.getElem?_eq_getElem h]
 rfl
def rv (xs:List UInt8) (i a:Nat):Nat→Nat
 |0=>a
 |k+1=>rv xs i a k*64+bt' xs (i+(k+1))%64
theorem runeAt2 (xs:List UInt8) (hl:xs.length≤1000000000) (i:Nat) (hi:i<xs.length) (h0:194≤bt' xs i∧bt' xs i<224) (w:World):
  Calls Tryz.prog 79 #[.string ⟨xs.toArray⟩,.int .i64 (i:Int)] w fun e w'=>e= .returned (.int .i64 (runeN (xs.length-i) (bt' xs i) (bt' xs (i+1)) (bt' xs (i+2)) (bt' xs (i+3)):Int))∧w'=w:=by
 have hx: ∀j,(h:j<xs.length)→((⟨xs.toArray⟩:ByteArray)[j]'(by show j<xs.toArray.size;simpa using h)).toNat=bt' xs j:=bt_at xs
 have hi0:=hx i hi
 have q1:(i:Int)<(xs.length:Int):=by omega
 have q2:(⟨xs.toArray⟩:ByteArray).size=xs.length:=by simp [ByteArray.size]
 have am:bits .and .u8 (bt' xs i:Int) 31=((bt' xs i%32:Nat):Int):=and_low (bt' xs i) 5 (bt_lt xs i) (by omega)
 have hb:=bt_lt xs i
 obtain ⟨a,ha⟩: ∃a,a=bt' xs i%32:=⟨_,rfl⟩
 rw [←ha] at am
 have ha2:a<32:=by omega
 have hres:runeN (xs.length-i) (bt' xs i) (bt' xs (i+1)) (bt' xs (i+2)) (bt' xs (i+3))=if xs.length-i<2∨bt' xs (i+1)/64≠2 then 0 else if a*64+bt' xs (i+1)%64<128 then 0 else 2:=by
  unfold runeN
  rw [ha]
  repeat' split
  all_goals first|rfl|(exfalso;omega)
 obtain ⟨b0,hb0⟩: ∃b0,b0=bt' xs i:=⟨_,rfl⟩
 rw [←hb0] at hi0 am h0 hres hb ⊢
 have c1:(194:Int)≤(b0:Int):=by omega
 have c2:(b0:Int)<224:=by omega
 obtain ⟨R,hR⟩: ∃R,R=runeN (xs.length-i) b0 (bt' xs (i+1)) (bt' xs (i+2)) (bt' xs (i+3)):=⟨_,rfl⟩
 rw [←hR] at hres ⊢
 replace hR:=Hz hR
 replace hb0:=Hz hb0
 replace ha:=Hz ha
 replace hx:=Hz hx
 by_cases hn:xs.length-i<2
 ·rw [if_pos (.inl hn)] at hres
  subst hres
  have t1:(xs.length:Int)<(i:Int)+2:=by omega
  clear hn
  go_enter Tryz.func79,Tryz.ntmps79
  go_wp2
  go_ret
  exact ⟨rfl,rfl⟩
 ·have t1: ¬(xs.length:Int)<(i:Int)+2:=by omega
  replace hres:=Hz hres
  go_enter Tryz.func79,Tryz.ntmps79
  go_wp2
  go_loopg [8,9] 1 (fun g v8 v9 wr=> ∃k:Nat,v9= .int .i64 (k:Int)∧1≤k∧k+g=2∧v8= .int .i64 (rv xs i a (k-1):Int)∧Hid (∀j,1≤j→j<k→bt' xs (i+j)/64=2)∧rv xs i a (k-1)<32*64^(k-1)∧wr=w)
  case atStart=>exact ⟨1,by go_num,by omega,by omega,rfl,Hz (fun j h1 h2=>absurd h1 (by omega)),by simp [rv];exact ha2,rfl⟩
  case round=>
   obtain ⟨k,rfl,hk1,hk,rfl,hcs,hrl,rfl⟩:=hrel
   by_cases hg:gk=0
   ·subst hg
    obtain rfl:k=2:=by omega
    have hC:=hcs.out
    have hr:=hres.out
    rw [if_neg (by have:=hC 1 (by omega) (by omega);omega)] at hr
    have hval:rv xs i a (2-1)=a*64+bt' xs (i+1)%64:=by simp [rv]
    rw [←hval] at hr
    have hV:rv xs i a (2-1)<2048:=Nat.lt_of_lt_of_le hrl (by decide)
    generalize rv xs i a (2-1)=V at *
    clear hres hcs hrl hC hval
    by_cases d1:V<128
    ·rw [if_pos d1] at hr
     subst hr
     have e1:(V:Int)<128:=by omega
     go_wp2
     go_ret
     exact ⟨rfl,rfl⟩
    ·rw [if_neg d1] at hr
     subst hr
     have e1: ¬(V:Int)<128:=by omega
     have e2: ¬(1114111:Int)<(V:Int):=by omega
     have e3: ¬(55296:Int)≤(V:Int):=by omega
     go_wp2
     go_ret
     exact ⟨rfl,rfl⟩
   ·obtain ⟨g,rfl⟩: ∃g,gk=g+1:=⟨gk-1,by omega⟩
    have hik:i+k<xs.length:=by omega
    have t5:(k:Int)<2:=by omega
    have q3:(i:Int)+(k:Int)<(xs.length:Int):=by omega
    have hxk:=hx.out (i+k) hik
    have hbk:=bt_lt xs (i+k)
    have a1:=and192 (bt' xs (i+k)) hbk
    have a2:bits .and .u8 (bt' xs (i+k):Int) 63=((bt' xs (i+k)%64:Nat):Int):=and_low (bt' xs (i+k)) 6 hbk (by omega)
    have hstep:rv xs i a k=rv xs i a (k-1)*64+bt' xs (i+k)%64:=by
     obtain ⟨k',rfl⟩: ∃k',k=k'+1:=⟨k-1,by omega⟩
     rfl
    have hpw:32*64^(k-1)≤2000000:=Nat.le_trans (Nat.mul_le_mul_left _ (Nat.pow_le_pow_right (by decide) (show k-1≤2-2 by omega))) (by decide)
    have hpk:32*64^k=32*64^(k-1)*64:=by rw [Nat.mul_assoc,←Nat.pow_succ];congr 2;omega
    have a3:=or6 (rv xs i a (k-1)) (bt' xs (i+k)%64) (by omega) (by omega)
    have hnew:rv xs i a k<32*64^k:=by rw [hstep,hpk];omega
    obtain ⟨y,hy⟩: ∃y,y=bt' xs (i+k)%64:=⟨_,rfl⟩
    obtain ⟨z,hz⟩: ∃z,z=bt' xs (i+k)/64*64:=⟨_,rfl⟩
    have hy64:y<64:=by omega
    rw [←hy] at a2 a3 hstep
    rw [←hz] at a1
    by_cases hbad:bt' xs (i+k)/64=2
    ·have t6:(z:Int)=128:=by omega
     have hcs2:Hid (∀j,1≤j→j<k+1→bt' xs (i+j)/64=2):=Hz (fun j h1 h2=>by
      by_cases e:j=k
      ·subst e;exact hbad
      ·exact hcs.out j h1 (by omega))
     generalize hB:bt' xs (i+k)=bk at *
     rw [←hstep] at a3
     have hrl2:rv xs i a (k-1)<2000000:=by omega
     generalize hP:rv xs i a (k-1)=pv at *
     generalize hP2:rv xs i a k=pv2 at *
     replace hB:=Hz hB
     replace hP:=Hz hP
     replace hstep:=Hz hstep
     replace hnew:=Hz hnew
     clear hbad hrl hpw hpk hy hz
     go_wp2
     go_roundg g
     case measure=>omega
     case rel=>exact ⟨k+1,by go_num,by omega,by omega,by rw [Nat.add_sub_cancel,hP2],hcs2,by rw [Nat.add_sub_cancel,hP2];exact hnew.out,rfl⟩
    ·have t6: ¬(z:Int)=128:=by omega
     have hr:=hres.out
     rw [if_pos (.inr (by obtain rfl:k=1:=(by omega);exact hbad))] at hr
     subst hr
     generalize bt' xs (i+k)=bk at *
     clear hbad hrl hpw hpk hstep hnew a2 a3 hy hz
     go_wp2
     go_ret
     exact ⟨rfl,rfl⟩
theorem runeAt3 (xs:List UInt8) (hl:xs.length≤1000000000) (i:Nat) (hi:i<xs.length) (h0:224≤bt' xs i∧bt' xs i<240) (w:World):
  Calls Tryz.prog 79 #[.string ⟨xs.toArray⟩,.int .i64 (i:Int)] w fun e w'=>e= .returned (.int .i64 (runeN (xs.length-i) (bt' xs i) (bt' xs (i+1)) (bt' xs (i+2)) (bt' xs (i+3)):Int))∧w'=w:=by
 have hx: ∀j,(h:j<xs.length)→((⟨xs.toArray⟩:ByteArray)[j]'(by show j<xs.toArray.size;simpa using h)).toNat=bt' xs j:=bt_at xs
 have hi0:=hx i hi
 have q1:(i:Int)<(xs.length:Int):=by omega
 have q2:(⟨xs.toArray⟩:ByteArray).size=xs.length:=by simp [ByteArray.size]
 have am:bits .and .u8 (bt' xs i:Int) 15=((bt' xs i%16:Nat):Int):=and_low (bt' xs i) 4 (bt_lt xs i) (by omega)
 have hb:=bt_lt xs i
 obtain ⟨a,ha⟩: ∃a,a=bt' xs i%16:=⟨_,rfl⟩
 rw [←ha] at am
 have ha2:a<16:=by omega
 have hres:runeN (xs.length-i) (bt' xs i) (bt' xs (i+1)) (bt' xs (i+2)) (bt' xs (i+3))=if xs.length-i<3∨bt' xs (i+1)/64≠2∨bt' xs (i+2)/64≠2 then 0 else if (a*64+bt' xs (i+1)%64)*64+bt' xs (i+2)%64<2048∨(55296≤(a*64+bt' xs (i+1)%64)*64+bt' xs (i+2)%64∧(a*64+bt' xs (i+1)%64)*64+bt' xs (i+2)%64<57344) then 0 else 3:=by
  unfold runeN
  rw [ha]
  repeat' split
  all_goals first|rfl|(exfalso;omega)
 obtain ⟨b0,hb0⟩: ∃b0,b0=bt' xs i:=⟨_,rfl⟩
 rw [←hb0] at hi0 am h0 hres hb ⊢
 have c1:(224:Int)≤(b0:Int):=by omega
 have c2:(b0:Int)<240:=by omega
 obtain ⟨R,hR⟩: ∃R,R=runeN (xs.length-i) b0 (bt' xs (i+1)) (bt' xs (i+2)) (bt' xs (i+3)):=⟨_,rfl⟩
 rw [←hR] at hres ⊢
 replace hR:=Hz hR
 replace hb0:=Hz hb0
 replace ha:=Hz ha
 replace hx:=Hz hx
 by_cases hn:xs.length-i<3
 ·rw [if_pos (.inl hn)] at hres
  subst hres
  have t1:(xs.length:Int)<(i:Int)+3:=by omega
  clear hn
  go_enter Tryz.func79,Tryz.ntmps79
  go_wp2
  go_ret
  exact ⟨rfl,rfl⟩
 ·have t1: ¬(xs.length:Int)<(i:Int)+3:=by omega
  replace hres:=Hz hres
  go_enter Tryz.func79,Tryz.ntmps79
  go_wp2
  go_loopg [8,9] 2 (fun g v8 v9 wr=> ∃k:Nat,v9= .int .i64 (k:Int)∧1≤k∧k+g=3∧v8= .int .i64 (rv xs i a (k-1):Int)∧Hid (∀j,1≤j→j<k→bt' xs (i+j)/64=2)∧rv xs i a (k-1)<16*64^(k-1)∧wr=w)
  case atStart=>exact ⟨1,by go_num,by omega,by omega,rfl,Hz (fun j h1 h2=>absurd h1 (by omega)),by simp [rv];exact ha2,rfl⟩
  case round=>
   obtain ⟨k,rfl,hk1,hk,rfl,hcs,hrl,rfl⟩:=hrel
   by_cases hg:gk=0
   ·subst hg
    obtain rfl:k=3:=by omega
    have hC:=hcs.out
    have hr:=hres.out
    rw [if_neg (by have:=hC 1 (by omega) (by omega);have:=hC 2 (by omega) (by omega);omega)] at hr
    have hval:rv xs i a (3-1)=(a*64+bt' xs (i+1)%64)*64+bt' xs (i+2)%64:=by simp [rv]
    rw [←hval] at hr
    have hV:rv xs i a (3-1)<65536:=Nat.lt_of_lt_of_le hrl (by decide)
    generalize rv xs i a (3-1)=V at *
    clear hres hcs hrl hC hval
    by_cases d1:V<2048
    ·rw [if_pos (.inl d1)] at hr
     subst hr
     have e1:(V:Int)<2048:=by omega
     go_wp2
     go_ret
     exact ⟨rfl,rfl⟩
    ·have e1: ¬(V:Int)<2048:=by omega
     have e2: ¬(1114111:Int)<(V:Int):=by omega
     by_cases d2:55296≤V
     ·have e3:(55296:Int)≤(V:Int):=by omega
      by_cases d3:V<57344
      ·rw [if_pos (.inr ⟨d2,d3⟩)] at hr
       subst hr
       have e4:(V:Int)<57344:=by omega
       go_wp2
       go_ret
       exact ⟨rfl,rfl⟩
      ·rw [if_neg (by omega)] at hr
       subst hr
       have e4: ¬(V:Int)<57344:=by omega
       go_wp2
       go_ret
       exact ⟨rfl,rfl⟩
     ·rw [if_neg (by omega)] at hr
      subst hr
      have e3: ¬(55296:Int)≤(V:Int):=by omega
      go_wp2
      go_ret
      exact ⟨rfl,rfl⟩
   ·obtain ⟨g,rfl⟩: ∃g,gk=g+1:=⟨gk-1,by omega⟩
    have hik:i+k<xs.length:=by omega
    have t5:(k:Int)<3:=by omega
    have q3:(i:Int)+(k:Int)<(xs.length:Int):=by omega
    have hxk:=hx.out (i+k) hik
    have hbk:=bt_lt xs (i+k)
    have a1:=and192 (bt' xs (i+k)) hbk
    have a2:bits .and .u8 (bt' xs (i+k):Int) 63=((bt' xs (i+k)%64:Nat):Int):=and_low (bt' xs (i+k)) 6 hbk (by omega)
    have hstep:rv xs i a k=rv xs i a (k-1)*64+bt' xs (i+k)%64:=by
     obtain ⟨k',rfl⟩: ∃k',k=k'+1:=⟨k-1,by omega⟩
     rfl
    have hpw:16*64^(k-1)≤2000000:=Nat.le_trans (Nat.mul_le_mul_left _ (Nat.pow_le_pow_right (by decide) (show k-1≤3-2 by omega))) (by decide)
    have hpk:16*64^k=16*64^(k-1)*64:=by rw [Nat.mul_assoc,←Nat.pow_succ];congr 2;omega
    have a3:=or6 (rv xs i a (k-1)) (bt' xs (i+k)%64) (by omega) (by omega)
    have hnew:rv xs i a k<16*64^k:=by rw [hstep,hpk];omega
    obtain ⟨y,hy⟩: ∃y,y=bt' xs (i+k)%64:=⟨_,rfl⟩
    obtain ⟨z,hz⟩: ∃z,z=bt' xs (i+k)/64*64:=⟨_,rfl⟩
    have hy64:y<64:=by omega
    rw [←hy] at a2 a3 hstep
    rw [←hz] at a1
    by_cases hbad:bt' xs (i+k)/64=2
    ·have t6:(z:Int)=128:=by omega
     have hcs2:Hid (∀j,1≤j→j<k+1→bt' xs (i+j)/64=2):=Hz (fun j h1 h2=>by
      by_cases e:j=k
      ·subst e;exact hbad
      ·exact hcs.out j h1 (by omega))
     generalize hB:bt' xs (i+k)=bk at *
     rw [←hstep] at a3
     have hrl2:rv xs i a (k-1)<2000000:=by omega
     generalize hP:rv xs i a (k-1)=pv at *
     generalize hP2:rv xs i a k=pv2 at *
     replace hB:=Hz hB
     replace hP:=Hz hP
     replace hstep:=Hz hstep
     replace hnew:=Hz hnew
     clear hbad hrl hpw hpk hy hz
     go_wp2
     go_roundg g
     case measure=>omega
     case rel=>exact ⟨k+1,by go_num,by omega,by omega,by rw [Nat.add_sub_cancel,hP2],hcs2,by rw [Nat.add_sub_cancel,hP2];exact hnew.out,rfl⟩
    ·have t6: ¬(z:Int)=128:=by omega
     have hr:=hres.out
     rw [if_pos (.inr (by rcases (show k=1∨k=2 by omega) with rfl|rfl;exact .inl hbad;exact .inr hbad))] at hr
     subst hr
     generalize bt' xs (i+k)=bk at *
     clear hbad hrl hpw hpk hstep hnew a2 a3 hy hz
     go_wp2
     go_ret
     exact ⟨rfl,rfl⟩
theorem runeAt4 (xs:List UInt8) (hl:xs.length≤1000000000) (i:Nat) (hi:i<xs.length) (h0:240≤bt' xs i∧bt' xs i<245) (w:World):
  Calls Tryz.prog 79 #[.string ⟨xs.toArray⟩,.int .i64 (i:Int)] w fun e w'=>e= .returned (.int .i64 (runeN (xs.length-i) (bt' xs i) (bt' xs (i+1)) (bt' xs (i+2)) (bt' xs (i+3)):Int))∧w'=w:=by
 have hx: ∀j,(h:j<xs.length)→((⟨xs.toArray⟩:ByteArray)[j]'(by show j<xs.toArray.size;simpa using h)).toNat=bt' xs j:=bt_at xs
 have hi0:=hx i hi
 have q1:(i:Int)<(xs.length:Int):=by omega
 have q2:(⟨xs.toArray⟩:ByteArray).size=xs.length:=by simp [ByteArray.size]
 have am:bits .and .u8 (bt' xs i:Int) 7=((bt' xs i%8:Nat):Int):=and_low (bt' xs i) 3 (bt_lt xs i) (by omega)
 have hb:=bt_lt xs i
 obtain ⟨a,ha⟩: ∃a,a=bt' xs i%8:=⟨_,rfl⟩
 rw [←ha] at am
 have ha2:a<8:=by omega
 have hres:runeN (xs.length-i) (bt' xs i) (bt' xs (i+1)) (bt' xs (i+2)) (bt' xs (i+3))=if xs.length-i<4∨bt' xs (i+1)/64≠2∨bt' xs (i+2)/64≠2∨bt' xs (i+3)/64≠2 then 0 else if ((a*64+bt' xs (i+1)%64)*64+bt' xs (i+2)%64)*64+bt' xs (i+3)%64<65536∨1114111<((a*64+bt' xs (i+1)%64)*64+bt' xs (i+2)%64)*64+bt' xs (i+3)%64 then 0 else 4:=by
  unfold runeN
  rw [ha]
  repeat' split
  all_goals first|rfl|(exfalso;omega)
 obtain ⟨b0,hb0⟩: ∃b0,b0=bt' xs i:=⟨_,rfl⟩
 rw [←hb0] at hi0 am h0 hres hb ⊢
 have c1:(240:Int)≤(b0:Int):=by omega
 have c2:(b0:Int)<245:=by omega
 obtain ⟨R,hR⟩: ∃R,R=runeN (xs.length-i) b0 (bt' xs (i+1)) (bt' xs (i+2)) (bt' xs (i+3)):=⟨_,rfl⟩
 rw [←hR] at hres ⊢
 replace hR:=Hz hR
 replace hb0:=Hz hb0
 replace ha:=Hz ha
 replace hx:=Hz hx
 by_cases hn:xs.length-i<4
 ·rw [if_pos (.inl hn)] at hres
  subst hres
  have t1:(xs.length:Int)<(i:Int)+4:=by omega
  clear hn
  go_enter Tryz.func79,Tryz.ntmps79
  go_wp2
  go_ret
  exact ⟨rfl,rfl⟩
 ·have t1: ¬(xs.length:Int)<(i:Int)+4:=by omega
  replace hres:=Hz hres
  go_enter Tryz.func79,Tryz.ntmps79
  go_wp2
  go_loopg [8,9] 3 (fun g v8 v9 wr=> ∃k:Nat,v9= .int .i64 (k:Int)∧1≤k∧k+g=4∧v8= .int .i64 (rv xs i a (k-1):Int)∧Hid (∀j,1≤j→j<k→bt' xs (i+j)/64=2)∧rv xs i a (k-1)<8*64^(k-1)∧wr=w)
  case atStart=>exact ⟨1,by go_num,by omega,by omega,rfl,Hz (fun j h1 h2=>absurd h1 (by omega)),by simp [rv];exact ha2,rfl⟩
  case round=>
   obtain ⟨k,rfl,hk1,hk,rfl,hcs,hrl,rfl⟩:=hrel
   by_cases hg:gk=0
   ·subst hg
    obtain rfl:k=4:=by omega
    have hC:=hcs.out
    have hr:=hres.out
    rw [if_neg (by have:=hC 1 (by omega) (by omega);have:=hC 2 (by omega) (by omega);have:=hC 3 (by omega) (by omega);omega)] at hr
    have hval:rv xs i a (4-1)=((a*64+bt' xs (i+1)%64)*64+bt' xs (i+2)%64)*64+bt' xs (i+3)%64:=by simp [rv]
    rw [←hval] at hr
    have hV:rv xs i a (4-1)<2097152:=Nat.lt_of_lt_of_le hrl (by decide)
    generalize rv xs i a (4-1)=V at *
    clear hres hcs hrl hC hval
    by_cases d1:V<65536
    ·rw [if_pos (.inl d1)] at hr
     subst hr
     have e1:(V:Int)<65536:=by omega
     go_wp2
     go_ret
     exact ⟨rfl,rfl⟩
    ·have e1: ¬(V:Int)<65536:=by omega
     by_cases d2:1114111<V
     ·rw [if_pos (.inr d2)] at hr
      subst hr
      have e2:(1114111:Int)<(V:Int):=by omega
      go_wp2
      go_ret
      exact ⟨rfl,rfl⟩
     ·rw [if_neg (by omega)] at hr
      subst hr
      have e2: ¬(1114111:Int)<(V:Int):=by omega
      have e3:(55296:Int)≤(V:Int):=by omega
      have e4: ¬(V:Int)<57344:=by omega
      go_wp2
      go_ret
      exact ⟨rfl,rfl⟩
   ·obtain ⟨g,rfl⟩: ∃g,gk=g+1:=⟨gk-1,by omega⟩
    have hik:i+k<xs.length:=by omega
    have t5:(k:Int)<4:=by omega
    have q3:(i:Int)+(k:Int)<(xs.length:Int):=by omega
    have hxk:=hx.out (i+k) hik
    have hbk:=bt_lt xs (i+k)
    have a1:=and192 (bt' xs (i+k)) hbk
    have a2:bits .and .u8 (bt' xs (i+k):Int) 63=((bt' xs (i+k)%64:Nat):Int):=and_low (bt' xs (i+k)) 6 hbk (by omega)
    have hstep:rv xs i a k=rv xs i a (k-1)*64+bt' xs (i+k)%64:=by
     obtain ⟨k',rfl⟩: ∃k',k=k'+1:=⟨k-1,by omega⟩
     rfl
    have hpw:8*64^(k-1)≤2000000:=Nat.le_trans (Nat.mul_le_mul_left _ (Nat.pow_le_pow_right (by decide) (show k-1≤4-2 by omega))) (by decide)
    have hpk:8*64^k=8*64^(k-1)*64:=by rw [Nat.mul_assoc,←Nat.pow_succ];congr 2;omega
    have a3:=or6 (rv xs i a (k-1)) (bt' xs (i+k)%64) (by omega) (by omega)
    have hnew:rv xs i a k<8*64^k:=by rw [hstep,hpk];omega
    obtain ⟨y,hy⟩: ∃y,y=bt' xs (i+k)%64:=⟨_,rfl⟩
    obtain ⟨z,hz⟩: ∃z,z=bt' xs (i+k)/64*64:=⟨_,rfl⟩
    have hy64:y<64:=by omega
    rw [←hy] at a2 a3 hstep
    rw [←hz] at a1
    by_cases hbad:bt' xs (i+k)/64=2
    ·have t6:(z:Int)=128:=by omega
     have hcs2:Hid (∀j,1≤j→j<k+1→bt' xs (i+j)/64=2):=Hz (fun j h1 h2=>by
      by_cases e:j=k
      ·subst e;exact hbad
      ·exact hcs.out j h1 (by omega))
     generalize hB:bt' xs (i+k)=bk at *
     rw [←hstep] at a3
     have hrl2:rv xs i a (k-1)<2000000:=by omega
     generalize hP:rv xs i a (k-1)=pv at *
     generalize hP2:rv xs i a k=pv2 at *
     replace hB:=Hz hB
     replace hP:=Hz hP
     replace hstep:=Hz hstep
     replace hnew:=Hz hnew
     clear hbad hrl hpw hpk hy hz
     go_wp2
     go_roundg g
     case measure=>omega
     case rel=>exact ⟨k+1,by go_num,by omega,by omega,by rw [Nat.add_sub_cancel,hP2],hcs2,by rw [Nat.add_sub_cancel,hP2];exact hnew.out,rfl⟩
    ·have t6: ¬(z:Int)=128:=by omega
     have hr:=hres.out
     rw [if_pos (.inr (by rcases (show k=1∨k=2∨k=3 by omega) with rfl|rfl|rfl;exact .inl hbad;exact .inr (.inl hbad);exact .inr (.inr hbad)))] at hr
     subst hr
     generalize bt' xs (i+k)=bk at *
     clear hbad hrl hpw hpk hstep hnew a2 a3 hy hz
     go_wp2
     go_ret
     exact ⟨rfl,rfl⟩
theorem runeAt (xs:List UInt8) (hl:xs.length≤1000000000) (i:Nat) (hi:i<xs.length) (w:World):
  Calls Tryz.prog 79 #[.string ⟨xs.toArray⟩,.int .i64 (i:Int)] w fun e w'=>e= .returned (.int .i64 (runeN (xs.length-i) (bt' xs i) (bt' xs (i+1)) (bt' xs (i+2)) (bt' xs (i+3)):Int))∧w'=w:=by
 by_cases h2:194≤bt' xs i∧bt' xs i<224
 ·exact runeAt2 xs hl i hi h2 w
 ·by_cases h3:224≤bt' xs i∧bt' xs i<240
  ·exact runeAt3 xs hl i hi h3 w
  ·by_cases h4:240≤bt' xs i∧bt' xs i<245
   ·exact runeAt4 xs hl i hi h4 w
   ·have hi0:=bt_at xs i hi
    have q1:(i:Int)<(xs.length:Int):=by omega
    have q2:(⟨xs.toArray⟩:ByteArray).size=xs.length:=by simp [ByteArray.size]
    by_cases h1:bt' xs i<128
    ·have hr:runeN (xs.length-i) (bt' xs i) (bt' xs (i+1)) (bt' xs (i+2)) (bt' xs (i+3))=1:=by unfold runeN;rw [if_pos h1]
     rw [hr]
     generalize bt' xs i=b0 at *
     have c1:(b0:Int)<128:=by omega
     clear h2 h3 h4 hr
     go_enter Tryz.func79,Tryz.ntmps79
     go_wp2
     go_ret
     exact ⟨rfl,rfl⟩
    ·have hr:runeN (xs.length-i) (bt' xs i) (bt' xs (i+1)) (bt' xs (i+2)) (bt' xs (i+3))=0:=by unfold runeN;rw [if_neg h1,if_neg h2,if_neg h3,if_neg h4]
     rw [hr]
     generalize bt' xs i=b0 at *
     have c1: ¬(b0:Int)<128:=by omega
     clear hr
     by_cases h5:b0<194
     ·have c2: ¬(194:Int)≤(b0:Int):=by omega
      have c3: ¬(224:Int)≤(b0:Int):=by omega
      have c4: ¬(240:Int)≤(b0:Int):=by omega
      clear h2 h3 h4
      go_enter Tryz.func79,Tryz.ntmps79
      go_wp2
      go_ret
      exact ⟨rfl,rfl⟩
     ·have c2: ¬(b0:Int)<224:=by omega
      have c3: ¬(b0:Int)<240:=by omega
      have c4: ¬(b0:Int)<245:=by omega
      clear h2 h3 h4
      go_enter Tryz.func79,Tryz.ntmps79
      go_wp2
      go_ret
      exact ⟨rfl,rfl⟩
theorem valid_at (xs:List UInt8) (i:Nat) (hi:i<xs.length):Lib.validD (xs.drop i)=if runeN (xs.length-i) (bt' xs i) (bt' xs (i+1)) (bt' xs (i+2)) (bt' xs (i+3))=0 then false else Lib.validD (xs.drop (i+runeN (xs.length-i) (bt' xs i) (bt' xs (i+1)) (bt' xs (i+2)) (bt' xs (i+3)))):=by
 have hne:xs.drop i≠[]:=by intro e;have:=List.drop_eq_nil_iff.1 e;omega
 have hd:Lib.decodeL (xs.drop i)=Lib.decodeN (xs.length-i) (bt' xs i) (bt' xs (i+1)) (bt' xs (i+2)) (bt' xs (i+3)):=by
  unfold Lib.decodeL
  rw [Lib.decode_at]
  have hg: ∀j,((⟨(xs.drop i).toArray⟩:ByteArray).get! j).toNat=bt' xs (i+j):=by
   intro j
   unfold bt'
   show (((xs.drop i).toArray)[j]!).toNat=_
   congr 1
   rw [List.getD_eq_getElem?_getD,←List.getElem?_drop]
   simp [getElem!_def]
   rfl
  rw [hg,hg,hg,hg]
  have hs:(⟨(xs.drop i).toArray⟩:ByteArray).size=xs.length-i:=by simp [ByteArray.size]
  rw [hs]
  rfl
 rw [Lib.validD_step _ hne,hd,runeN_eq _ _ _ _ _ (by omega) (bt_lt _ _) (bt_lt _ _) (bt_lt _ _) (bt_lt _ _)]
 have hw:=Lib.decodeL_width (xs.drop i)
 rw [hd] at hw
 generalize Lib.decodeN (xs.length-i) (bt' xs i) (bt' xs (i+1)) (bt' xs (i+2)) (bt' xs (i+3))=p at *
 by_cases h:p.1=65533∧p.2=1
 ·rw [if_pos h,if_pos h];simp
 ·rw [if_neg h,if_neg h,if_neg (by omega),List.drop_drop]
theorem valid (xs:List UInt8) (hl:xs.length≤1000000000) (w:World):
  Calls Tryz.prog 50 #[.string ⟨xs.toArray⟩] w fun e w'=>e= .returned (.bool (Lib.validD xs))∧w'=w:=by
 generalize hV:Lib.validD xs=V
 replace hV:=Hz hV
 go_enter Tryz.func50,Tryz.ntmps50
 go_wp2
 go_loopg [3] (xs.length+1) (fun g v3 wr=> ∃i:Nat,v3= .int .i64 (i:Int)∧i≤xs.length+4∧xs.length<i+g∧Hid (V=Lib.validD (xs.drop i))∧wr=w)
 case atStart=>exact ⟨0,by go_num,by omega,by omega,Hz (by rw [List.drop_zero,hV.out]),rfl⟩
 case round=>
  obtain ⟨i,rfl,hi4,hg,hVi,rfl⟩:=hrel
  by_cases hi:i<xs.length
  ·have t1:(i:Int)<(xs.length:Int):=by omega
   have hv:=hVi.out
   rw [valid_at xs i hi] at hv
   have K:=runeAt xs hl i hi wr
   have hrl:runeN (xs.length-i) (bt' xs i) (bt' xs (i+1)) (bt' xs (i+2)) (bt' xs (i+3))≤4:=by unfold runeN;repeat' split<;>try omega
   generalize runeN (xs.length-i) (bt' xs i) (bt' xs (i+1)) (bt' xs (i+2)) (bt' xs (i+3))=n at *
   replace K:=Hz K
   obtain ⟨g,rfl⟩: ∃g,gk=g+1:=⟨gk-1,by omega⟩
   by_cases hn:n=0
   ·subst hn
    rw [if_pos rfl] at hv
    subst hv
    clear hVi
    go_wp2_with fail
    refine K.out.mono ?_
    rintro e w1 ⟨rfl,rfl⟩
    go_wp2
    go_ret
    exact ⟨rfl,rfl⟩
   ·rw [if_neg hn] at hv
    have t2: ¬(n:Int)=0:=by omega
    replace hv:=Hz hv
    clear hVi
    go_wp2_with fail
    refine K.out.mono ?_
    rintro e w1 ⟨rfl,rfl⟩
    go_wp2
    go_roundg g
    case measure=>omega
    case rel=>exact ⟨i+n,by go_num,by omega,by omega,hv,rfl⟩
  ·have t1: ¬(i:Int)<(xs.length:Int):=by omega
   have hv:=hVi.out
   rw [List.drop_eq_nil_of_le (by omega)] at hv
   obtain rfl:V=true:=hv
   clear hVi
   go_wp2
   go_ret
   exact ⟨rfl,rfl⟩
end
section
open Go.RowKit
mutual
def AllN (p:Tr→Prop):Tr→Prop
 | .int a b=>p (.int a b)
 | .str a b=>p (.str a b)
 | .chk a l=>p (.chk a l)∧AllNs p l
 | .arr a l=>p (.arr a l)∧AllNs p l
 | .map a l=>p (.map a l)∧AllNs p l
 | .tag a t=>p (.tag a t)∧AllN p t
 | .prim a b=>p (.prim a b)
def AllNs (p:Tr→Prop):List Tr→Prop
 |[]=>True
 |t::l=>AllN p t∧AllNs p l
end
theorem allN_self {p:Tr→Prop} {t:Tr} (h:AllN p t):p t:=by
 cases t<;>rw [AllN] at h<;>first|exact h|exact h.1
theorem allNs_mem {p:Tr→Prop}: ∀{l:List Tr} {u:Tr},AllNs p l→u∈l→AllN p u
 |[],u,_,h=>by cases h
 |t::l,u,hl,h=>by
  rw [AllNs] at hl
  rcases List.mem_cons.1 h with rfl|h
  ·exact hl.1
  ·exact allNs_mem hl.2 h
theorem allN_ks {p:Tr→Prop} {t u:Tr} (h:AllN p t) (hu:u∈t.ks):AllN p u:=by
 cases t with
 |chk tx l=>rw [AllN] at h;exact allNs_mem h.2 hu
 |arr o l=>rw [AllN] at h;exact allNs_mem h.2 hu
 |map o l=>rw [AllN] at h;exact allNs_mem h.2 hu
 |tag n t=>rw [AllN] at h;simp [Tr.ks] at hu;subst hu;exact h.2
 |int neg n=>simp [Tr.ks] at hu
 |str tx b=>simp [Tr.ks] at hu
 |prim ai v=>simp [Tr.ks] at hu
def Few (B:Nat) (t:Tr):Prop:=t.ks.length≤B∧(gn t).tex.length≤B
mutual
theorem enc_few {xs:List UInt8}: ∀(t:Tr) (off o:Nat),Enc xs t off o→AllN (Few xs.length) t
 | .int _ _,off,o,h=>by rw [AllN];exact ⟨by simp [Tr.ks],by simp [gn,Gn.tex]⟩
 | .str tx b,off,o,h=>by
  rw [AllN]
  rw [Enc] at h
  obtain ⟨ai,v,o1,h,_,hv,_,rfl,hb⟩:=h
  have hl:b.length=v:=by rw [hb];simp;omega
  exact ⟨by simp [Tr.ks],by simp [gn,Gn.tex];omega⟩
 | .chk tx l,off,o,h=>by
  have he:=enc_off _ _ _ h
  rw [Enc] at h
  obtain ⟨v,o1,h,hc⟩:=h
  have:=chunks_off tx l _ _ hc
  rw [AllN]
  exact ⟨⟨by show l.length≤_;omega,by simp [gn,Gn.tex]⟩,chunks_few tx l _ _ hc⟩
 | .arr false l,off,o,h=>by
  rw [Enc] at h
  obtain ⟨ai,o1,h,h31,hc⟩:=h
  have:=encs_off l _ _ hc (hd_val h).2
  rw [AllN]
  exact ⟨⟨by show l.length≤_;omega,by simp [gn,Gn.tex]⟩,encs_few l _ _ hc⟩
 | .arr true l,off,o,h=>by
  rw [Enc] at h
  obtain ⟨v,o1,h,hc⟩:=h
  have:=opens_off l _ _ hc
  rw [AllN]
  exact ⟨⟨by show l.length≤_;omega,by simp [gn,Gn.tex]⟩,opens_few l _ _ hc⟩
 | .map false l,off,o,h=>by
  rw [Enc] at h
  obtain ⟨ai,v,o1,h,h31,hv,hc⟩:=h
  have:=encs_off l _ _ hc (hd_val h).2
  rw [AllN]
  exact ⟨⟨by show l.length≤_;omega,by simp [gn,Gn.tex]⟩,encs_few l _ _ hc⟩
 | .map true l,off,o,h=>by
  rw [Enc] at h
  obtain ⟨v,o1,h,h2,hc⟩:=h
  have:=opens_off l _ _ hc
  rw [AllN]
  exact ⟨⟨by show l.length≤_;omega,by simp [gn,Gn.tex]⟩,opens_few l _ _ hc⟩
 | .tag n t,off,o,h=>by
  have he:=enc_off _ _ _ h
  rw [Enc] at h
  obtain ⟨ai,o1,h,hc⟩:=h
  rw [AllN]
  exact ⟨⟨by show 1≤_;omega,by simp [gn,Gn.tex]⟩,enc_few t _ _ hc⟩
 | .prim ai v,off,o,h=>by rw [AllN];exact ⟨by simp [Tr.ks],by simp [gn,Gn.tex]⟩
theorem encs_few {xs:List UInt8}: ∀(l:List Tr) (off o:Nat),Encs xs l off o→AllNs (Few xs.length) l
 |[],off,o,h=>by rw [AllNs];trivial
 |t::l,off,o,h=>by
  rw [Encs] at h
  obtain ⟨mid,h1,h2⟩:=h
  rw [AllNs]
  exact ⟨enc_few t _ _ h1,encs_few l _ _ h2⟩
theorem opens_few {xs:List UInt8}: ∀(l:List Tr) (off o:Nat),Opens xs l off o→AllNs (Few xs.length) l
 |[],off,o,h=>by rw [AllNs];trivial
 |t::l,off,o,h=>by
  rw [Opens] at h
  obtain ⟨b,mid,_,_,h1,h2⟩:=h
  rw [AllNs]
  exact ⟨enc_few t _ _ h1,opens_few l _ _ h2⟩
theorem chunks_few {xs:List UInt8} (tx:Bool): ∀(l:List Tr) (off o:Nat),Chunks xs tx l off o→AllNs (Few xs.length) l
 |[],off,o,h=>by rw [AllNs];trivial
 |t::l,off,o,h=>by
  rw [Chunks] at h
  obtain ⟨b,mid,_,_,_,h1,h2⟩:=h
  rw [AllNs]
  exact ⟨enc_few t _ _ h1,chunks_few tx l _ _ h2⟩
end
def NdIn (w:World) (t:Tr) (kv:Value):Prop:= ∃bl,(∀b,b∈bl→b<w.heap.size)∧NdV w bl (gn t) kv
theorem NdIn.fr {w w':World} {t:Tr} {kv:Value} (h:NdIn w t kv) (hf:Fr [] w w'):NdIn w' t kv:=by
 obtain ⟨bl,h1,h2⟩:=h
 exact ⟨bl,fun b hb=>Nat.lt_of_lt_of_le (h1 b hb) hf.size,h2.fr (fun b hb=>hf.block b (h1 b hb) (by simp)) (fun b hb=>hb) _ _⟩
theorem NdIn.kids {w:World} {t:Tr} {kv:Value} (h:NdIn w t kv): ∃ao c g,kv= .slice ao t.ks.length c∧(t.ks≠[]→ao=some ⟨g,0,none⟩∧t.ks.length≤c)∧ ∀j (hj:j<t.ks.length),∃kv',At w g (8*j) (nd (gn t.ks[j]) kv')∧NdIn w t.ks[j] kv':=by
 obtain ⟨bl,h1,h2⟩:=h
 rw [ndV_ks,gn_ks] at h2
 rcases h2 with ⟨h3,ao,c,rfl⟩|⟨g,c,rfl,h3,h4,h5,h6⟩
 ·have h0:t.ks=[]:=by
   cases hk:t.ks with
   |nil=>rfl
   |cons u l=>rw [hk] at h3;simp [gns] at h3
  exact ⟨ao,c,0,by rw [h0];rfl,fun h=>absurd h0 h,fun j hj=>absurd hj (by rw [h0];simp)⟩
 ·rw [gns_length] at h3
  refine ⟨some ⟨g,0,none⟩,c,g,by rw [gns_length],fun _=>⟨rfl,h3⟩,fun j hj=> ?_⟩
  have:=NdFrom.at_ (gns t.ks) 0 j (gn t.ks[j]) h6 (by rw [gns_get,List.getElem?_eq_getElem hj];rfl)
  rw [Nat.zero_add] at this
  obtain ⟨kv',q1,q2⟩:=this
  exact ⟨kv',q1,bl,h1,q2⟩
theorem NdIn.slice {w:World} {t:Tr} {kv:Value} (h:NdIn w t kv): ∃ao n c,kv= .slice ao n c:=by
 obtain ⟨bl,_,h2⟩:=h
 exact h2.slice
theorem levs_take: ∀(l:List Tr) (j:Nat) (hj:j<l.length),Tr.levs (l.take (j+1))=max (Tr.levs (l.take j)) l[j].lev
 |[],j,hj=>by simp at hj
 |t::l,0,hj=>by simp [Tr.levs]
 |t::l,j+1,hj=>by
  simp only [List.take_succ_cons,Tr.levs,List.getElem_cons_succ]
  rw [levs_take l j (by simpa using hj)]
  omega
theorem levels: ∀(n:Nat) (t:Tr),SizeOf.sizeOf t≤n→t.lev≤1000000→AllN (Few 1000000000) t→ ∀(w:World) (kv:Value),NdIn w t kv→Calls Tryz.prog 53 #[.agg (nd (gn t) kv).toArray] w fun e w'=>e= .returned (.int .i64 (t.lev:Int))∧Fr [] w w':=by
 intro n
 induction n with
 |zero=>intro t h;cases t<;>simp at h<;>omega
 |succ n ih=>
  intro t hn hlv hfew w kv hN
  obtain ⟨ao,c,g,rfl,hao,hks⟩:=hN.kids
  have hunf:=lev_unf t
  have hlk:=(allN_self hfew).1
  have hks':Hid (∀(W:World),Fr [] w W→ ∀j (hj:j<t.ks.length),∃kv',At W g (8*j) (nd (gn t.ks[j]) kv')∧(∃ao n c,kv'= .slice ao n c)∧Fr [] w W∧ ∀W',Fr [] W W'→Calls Tryz.prog 53 #[.agg (nd (gn t.ks[j]) kv').toArray] W' fun e w'=>e= .returned (.int .i64 (t.ks[j].lev:Int))∧Fr [] W' w'):=Hz (fun W hW j hj=>by
   obtain ⟨kv',q1,q2⟩:=hks j hj
   have hb:g<w.heap.size:=by
    have:=q1 0 _ (by simp [nd];rfl)
    exact World.block_lt_of_cell? w _ this
   have hm:=List.getElem_mem hj
   refine ⟨kv',q1.fr (hW.block g hb (by simp)),q2.slice,hW,fun W' hW'=>ih _ ?_ ?_ (allN_ks hfew hm) _ _ (q2.fr (hW.trans hW'))⟩
   ·have:=ks_lt hm;omega
   ·have:=levs_le _ _ hm;omega)
  have hlt:=levs_take t.ks
  have hlm: ∀j,Tr.levs (t.ks.take j)≤1000000:=by
   intro j
   have h1:Tr.levs (t.ks.take j)≤Tr.levs t.ks:=by
    have: ∀(l:List Tr) j,Tr.levs (l.take j)≤Tr.levs l:=by
     intro l
     induction l with
     |nil=>intro j;simp [Tr.levs]
     |cons a l ih=>intro j;cases j with
      |zero=>simp [Tr.levs]
      |succ j=>simp only [List.take_succ_cons,Tr.levs];have:=ih j;omega
    exact this _ j
   omega
  generalize hK:t.ks=K at *
  obtain ⟨LV,hLV⟩: ∃LV,LV=t.lev:=⟨_,rfl⟩
  rw [←hLV] at hunf hlv ⊢
  obtain ⟨⟨m,nu,si,op,fl,bi,tx,gk0⟩,hG⟩: ∃G,G=gn t:=⟨_,rfl⟩
  rw [←hG] at hunf ⊢
  change LV=Tr.levs K+(if 4≤m∧m≤6 then 1 else 0) at hunf
  rw [nd_mk]
  replace hunf:=Hz hunf
  replace hlt:=Hz hlt
  replace hao:=Hz hao
  replace hlm:=Hz hlm
  clear hks hN hG hLV hK
  go_enter Tryz.func53,Tryz.ntmps53
  go_wp2_with fail
  go_loopg [3,9] K.length (fun k v3 v9 wr=> ∃j:Nat,v9= .int .i64 (j:Int)∧j+k=K.length∧v3= .int .i64 (Tr.levs (K.take j):Int)∧Fr [] w wr∧wr.heap[w.heap.size]? =some (.cells #[.int .i64 (m:Int),.int .u64 (nu:Int),.int .i64 (si:Int),.bool op,.bool fl,.bool bi,.string ⟨tx.toArray⟩,.slice ao K.length c] 45 (0,0)))
  case atStart=>exact ⟨0,by go_num,by omega,by simp [Tr.levs],(Fr.refl _ _).alloc _,blk_new w _⟩
  case round=>
   obtain ⟨j,rfl,hj,rfl,hF,hb⟩:=hrel
   by_cases hk:gk=0
   ·subst hk
    obtain rfl:j=K.length:=by omega
    rw [List.take_length]
    have c0:=cell_blk hb 0
    simp only [List.getElem?_toArray,List.getElem?_cons_zero] at c0
    have hu:=hunf.out
    have hl2:=hlm.out K.length
    rw [List.take_length] at hl2
    generalize Tr.levs K=Q at *
    clear hb hks' hao
    by_cases c4:4≤m
    ·have t4:(4:Int)≤(m:Int):=by omega
     by_cases c6:m≤6
     ·have t6:(m:Int)≤6:=by omega
      rw [if_pos ⟨c4,c6⟩] at hu
      subst hu
      go_wp2
      go_ret
      exact ⟨by go_num,hF⟩
     ·have t6: ¬(m:Int)≤6:=by omega
      rw [if_neg (by omega)] at hu
      subst hu
      go_wp2
      go_ret
      exact ⟨by go_num,hF⟩
    ·have t4: ¬(4:Int)≤(m:Int):=by omega
     rw [if_neg (by omega)] at hu
     subst hu
     go_wp2
     go_ret
     exact ⟨by go_num,hF⟩
   ·obtain ⟨q,rfl⟩: ∃q,gk=q+1:=⟨gk-1,by omega⟩
    have hjl:j<K.length:=by omega
    have t1:(j:Int)<(K.length:Int):=by omega
    obtain ⟨kv',hat,⟨ao',n',c',rfl⟩,_,KL⟩:=hks'.out wr hF j hjl
    obtain ⟨rfl,hcap⟩:=hao.out (by intro e;rw [e] at hjl;simp at hjl)
    have hst:=hlt.out j hjl
    have hl2:=hlm.out (j+1)
    have hl3:=hlm.out j
    replace KL:=Hz KL
    obtain ⟨⟨m2,nu2,si2,op2,fl2,bi2,tx2,gk2⟩,hG⟩: ∃G,G=gn K[j]:=⟨_,rfl⟩
    rw [←hG] at hat KL
    rw [nd_mk] at KL
    have e0:=hat 0 _ rfl
    have e1:=hat 1 _ rfl
    have e2:=hat 2 _ rfl
    have e3:=hat 3 _ rfl
    have e4:=hat 4 _ rfl
    have e5:=hat 5 _ rfl
    have e6:=hat 6 _ rfl
    have e7:=hat 7 _ rfl
    simp only [Gn.maj,Gn.num,Gn.siz,Gn.opn,Gn.flt,Gn.big,Gn.tex] at e0 e1 e2 e3 e4 e5 e6
    rw [Nat.mul_comm 8 j] at e0 e1 e2 e3 e4 e5 e6 e7
    rw [Nat.add_zero] at e0
    clear hat hG
    obtain ⟨LJ,hLJ⟩: ∃LJ,LJ=K[j].lev:=⟨_,rfl⟩
    obtain ⟨LT,hLT⟩: ∃LT,LT=Tr.levs (K.take (j+1)):=⟨_,rfl⟩
    rw [←hLJ] at hst KL
    rw [←hLT] at hst hl2
    generalize Tr.levs (K.take j)=LQ at *
    replace hLT:=Hz hLT
    replace hLJ:=Hz hLJ
    replace hb:=Hz hb
    have hmax:LT=max LQ LJ:=hst
    replace hst:=Hz hst
    clear hmax
    go_wp2_with fail
    refine (KL.out _ ((Fr.refl _ _).alloc _)).mono ?_
    rintro e w2 ⟨rfl,hf2⟩
    go_wp2
    go_roundg q
    case measure=>omega
    case rel=>exact ⟨j+1,by go_num,by omega,by rw [←hLT.out,hst.out];congr 1;omega,hF.trans (((Fr.refl _ _).alloc _).trans hf2),hf2.blk (blk_alloc hb.out _) (by simp)⟩
theorem take_snoc' {α:Type} (l:List α) (i:Nat) (h:i<l.length):l.take (i+1)=l.take i++[l[i]]:=by
 rw [List.take_add_one,List.getElem?_eq_getElem h];rfl
theorem hm_tag {t:Tr} (h:(gn t).maj=6): ∃u,t.ks=[u]∧t.hm=(gn u).maj:=by
 cases t with
 |tag n u=>exact ⟨u,rfl,rfl⟩
 |int neg n=>cases neg<;>simp [gn,Gn.maj] at h
 |str tx b=>cases tx<;>simp [gn,Gn.maj,majS] at h
 |chk tx b=>cases tx<;>simp [gn,Gn.maj,majS] at h
 |arr o l=>simp [gn,Gn.maj] at h
 |map o l=>simp [gn,Gn.maj] at h
 |prim ai v=>simp [gn,Gn.maj] at h
theorem opn_tex {t:Tr} (h:(gn t).opn=true):(gn t).tex=[]:=by
 cases t<;>simp [gn,Gn.opn,Gn.tex] at h ⊢
theorem sound: ∀(n:Nat) (t:Tr),SizeOf.sizeOf t≤n→AllN (Few 1000000000) t→ ∀(w:World) (kv:Value),NdIn w t kv→Calls Tryz.prog 32 #[.agg (nd (gn t) kv).toArray] w fun e w'=>e= .returned (.bool (t.snd Lib.validD))∧Fr [] w w':=by
 intro n
 induction n with
 |zero=>intro t h;cases t<;>simp at h<;>omega
 |succ n ih=>
  intro t hn hfew w kv hN
  obtain ⟨ao,c,g,rfl,hao,hks⟩:=hN.kids
  have hunf:=snd_unf Lib.validD t
  have hlk:=(allN_self hfew).1
  have hlt:=(allN_self hfew).2
  have htag:= @hm_tag t
  have hopn:= @opn_tex t
  have hks':Hid (∀(W:World),Fr [] w W→ ∀j (hj:j<t.ks.length),∃kv',At W g (8*j) (nd (gn t.ks[j]) kv')∧(∃ao n c,kv'= .slice ao n c)∧Fr [] w W∧ ∀W',Fr [] W W'→Calls Tryz.prog 32 #[.agg (nd (gn t.ks[j]) kv').toArray] W' fun e w'=>e= .returned (.bool (t.ks[j].snd Lib.validD))∧Fr [] W' w'):=Hz (fun W hW j hj=>by
   obtain ⟨kv',q1,q2⟩:=hks j hj
   have hb:g<w.heap.size:=by
    have:=q1 0 _ (by simp [nd];rfl)
    exact World.block_lt_of_cell? w _ this
   have hm:=List.getElem_mem hj
   refine ⟨kv',q1.fr (hW.block g hb (by simp)),q2.slice,hW,fun W' hW'=>ih _ ?_ (allN_ks hfew hm) _ _ (q2.fr (hW.trans hW'))⟩
   have:=ks_lt hm;omega)
  obtain ⟨RR,hRR⟩: ∃RR,RR=t.snd Lib.validD:=⟨_,rfl⟩
  rw [←hRR] at hunf ⊢
  generalize t.hm=hm at *
  generalize hK:t.ks=K at *
  obtain ⟨⟨m,nu,si,op,fl,bi,tx,gk0⟩,hG⟩: ∃G,G=gn t:=⟨_,rfl⟩
  rw [←hG] at hunf hlt htag hopn ⊢
  change RR=(!(m==3&&(op==false)&& !Lib.validD tx)&& !(m==6&&(nu==2||nu==3)&&hm !=2)&&Tr.snds Lib.validD K) at hunf
  change tx.length≤1000000000 at hlt
  change m=6→ ∃u,K=[u]∧hm=(gn u).maj at htag
  change op=true→tx=[] at hopn
  rw [nd_mk]
  clear hN hG hK hRR
  have hbad1:m=3→Lib.validD tx=false→RR=false:=by
   intro h1 h2
   rw [hunf,h1,h2]
   cases op with
   |false=>simp
   |true=>rw [hopn rfl] at h2;cases h2
  have hbad2:m=6→(nu=2∨nu=3)→hm≠2→RR=false:=by
   intro h1 h2 h3
   rw [hunf,h1]
   rcases h2 with rfl|rfl<;>simp [h3]
  have hno:(∀u,u∈K→u.snd Lib.validD=false→RR=false):=by
   intro u hu h
   have:Tr.snds Lib.validD K=false:=by
    cases hs:Tr.snds Lib.validD K with
    |false=>rfl
    |true=>rw [(snds_take _ K).1 hs u hu] at h;cases h
   rw [hunf,this];simp
  have hyes:(¬(m=3∧Lib.validD tx=false))→(¬(m=6∧(nu=2∨nu=3)∧hm≠2))→(∀u,u∈K→u.snd Lib.validD=true)→RR=true:=by
   intro h1 h2 h3
   rw [hunf,(snds_take _ K).2 h3]
   have e1:(m==3&&(op==false)&& !Lib.validD tx)=false:=by
    cases hv:Lib.validD tx with
    |true=>simp
    |false=>have:m≠3:=fun e=>h1 ⟨e,hv⟩;simp [this]
   have e2:(m==6&&(nu==2||nu==3)&&hm !=2)=false:=by
    refine Bool.eq_false_iff.2 fun e=>h2 ?_
    simp at e
    exact ⟨e.1.1,e.1.2,e.2⟩
   rw [e1,e2];rfl
  replace hno:=Hz hno
  replace hao:=Hz hao
  clear hunf hopn
  have KV:=Hz (valid tx hlt)
  by_cases c3:m=3
  ·subst c3
   cases hv:Lib.validD tx with
   |false=>
    obtain rfl:RR=false:=hbad1 rfl hv
    rw [hv] at KV
    clear hks' hao hno hbad1 hbad2 hyes htag hks
    go_enter Tryz.func32,Tryz.ntmps32
    go_wp2_with fail
    refine (KV.out _).mono ?_
    rintro e w1 ⟨rfl,rfl⟩
    go_wp2
    go_ret
    exact ⟨rfl,(Fr.refl _ _).alloc _⟩
   |true=>
    rw [hv] at KV
    replace hyes:=Hz (hyes (by rw [hv];simp) (by omega))
    clear hbad1 hbad2 htag hks
    go_enter Tryz.func32,Tryz.ntmps32
    go_wp2_with fail
    refine (KV.out _).mono ?_
    rintro e w1 ⟨rfl,rfl⟩
    go_wp2_with fail
    go_loopg [40] K.length (fun k v40 wr=> ∃j:Nat,v40= .int .i64 (j:Int)∧j+k=K.length∧Hid (∀u,u∈K.take j→u.snd Lib.validD=true)∧Fr [] w wr)
    case atStart=>exact ⟨0,by go_num,by omega,Hz (by simp),(Fr.refl _ _).alloc _⟩
    case round=>
     obtain ⟨j,rfl,hj,hsj,hF⟩:=hrel
     by_cases hk:gk=0
     ·subst hk
      obtain rfl:j=K.length:=by omega
      have hfin:=hsj.out
      rw [List.take_length] at hfin
      have hR:RR=true:=hyes.out hfin
      subst hR
      clear hks' hao hyes hno
      go_wp2
      go_ret
      exact ⟨rfl,hF⟩
     ·obtain ⟨q,rfl⟩: ∃q,gk=q+1:=⟨gk-1,by omega⟩
      have hjl:j<K.length:=by omega
      have t1:(j:Int)<(K.length:Int):=by omega
      obtain ⟨kv',hat,⟨ao',n',c',rfl⟩,_,KL⟩:=hks'.out wr hF j hjl
      obtain ⟨rfl,hcap⟩:=hao.out (by intro e;rw [e] at hjl;simp at hjl)
      obtain ⟨⟨m2,nu2,si2,op2,fl2,bi2,tx2,gk2⟩,hG⟩: ∃G,G=gn K[j]:=⟨_,rfl⟩
      rw [←hG] at hat KL
      rw [nd_mk] at KL
      have e0:=hat 0 _ rfl
      have e1:=hat 1 _ rfl
      have e2:=hat 2 _ rfl
      have e3:=hat 3 _ rfl
      have e4:=hat 4 _ rfl
      have e5:=hat 5 _ rfl
      have e6:=hat 6 _ rfl
      have e7:=hat 7 _ rfl
      simp only [Gn.maj,Gn.num,Gn.siz,Gn.opn,Gn.flt,Gn.big,Gn.tex] at e0 e1 e2 e3 e4 e5 e6
      rw [Nat.mul_comm 8 j] at e0 e1 e2 e3 e4 e5 e6 e7
      rw [Nat.add_zero] at e0
      clear hat hG
      obtain ⟨BJ,hBJ⟩: ∃BJ,BJ=K[j].snd Lib.validD:=⟨_,rfl⟩
      rw [←hBJ] at KL
      replace KL:=Hz KL
      replace hBJ:=Hz hBJ
      go_wp2_with fail
      refine (KL.out _ ((Fr.refl _ _).alloc _)).mono ?_
      rintro e w2 ⟨rfl,hf2⟩
      cases BJ with
      |false=>
       have hR:RR=false:=hno.out _ (List.getElem_mem hjl) hBJ.out.symm
       subst hR
       clear hks' hao hyes hno
       go_wp2
       go_ret
       exact ⟨rfl,hF.trans (((Fr.refl _ _).alloc _).trans hf2)⟩
      |true=>
       have hsj2:Hid (∀u,u∈K.take (j+1)→u.snd Lib.validD=true):=Hz (fun u hu=>by
        rw [take_snoc' K j hjl] at hu
        rcases List.mem_append.1 hu with hu|hu
        ·exact hsj.out u hu
        ·simp at hu;subst hu;exact hBJ.out.symm)
       go_wp2
       go_roundg q
       case measure=>omega
       case rel=>exact ⟨j+1,by go_num,by omega,hsj2,hF.trans (((Fr.refl _ _).alloc _).trans hf2)⟩
  ·have t3:((m:Int)==3)=false:=by simp;omega
   by_cases c6:m=6
   ·obtain ⟨u,hKu,hhm⟩:=htag c6
    subst c6
    have hK1:K.length=1:=by rw [hKu];rfl
    have h0:(gn (K[0]'(by omega))).maj=hm:=by simp [hKu,hhm]
    clear htag hks hbad1 hKu hhm
    by_cases c2:nu=2∨nu=3
    ·obtain ⟨kv',hat,_⟩:=hks'.out w (Fr.refl _ _) 0 (by omega)
     obtain ⟨rfl,hcap⟩:=hao.out (by intro e;rw [e] at hK1;cases hK1)
     have e0:=hat 0 (.int .i64 (hm:Int)) (by rw [←h0];rfl)
     rw [show 8*0+0=0 from rfl] at e0
     have e0': ∀o,(w.alloc o).cell? ⟨g,0,none⟩=some (.int .i64 (hm:Int)):=fun o=>((Fr.refl [] w).alloc o).cell e0 (by simp)
     have t4:(0:Int)<(K.length:Int):=by omega
     clear hat h0
     by_cases ch:hm=2
     ·replace hyes:=Hz (hyes (by omega) (by omega))
      subst ch
      clear hbad2
      rcases c2 with rfl|rfl
      ·go_enter Tryz.func32,Tryz.ntmps32
       go_wp2_with fail
       go_loopg [40] K.length (fun k v40 wr=> ∃j:Nat,v40= .int .i64 (j:Int)∧j+k=K.length∧Hid (∀u,u∈K.take j→u.snd Lib.validD=true)∧Fr [] w wr)
       case atStart=>exact ⟨0,by go_num,by omega,Hz (by simp),(Fr.refl _ _).alloc _⟩
       case round=>
        obtain ⟨j,rfl,hj,hsj,hF⟩:=hrel
        by_cases hk:gk=0
        ·subst hk
         obtain rfl:j=K.length:=by omega
         have hfin:=hsj.out
         rw [List.take_length] at hfin
         have hR:RR=true:=hyes.out hfin
         subst hR
         clear hks' hao hyes hno
         go_wp2
         go_ret
         exact ⟨rfl,hF⟩
        ·obtain ⟨q,rfl⟩: ∃q,gk=q+1:=⟨gk-1,by omega⟩
         have hjl:j<K.length:=by omega
         have t1:(j:Int)<(K.length:Int):=by omega
         obtain ⟨kv',hat,⟨ao',n',c',rfl⟩,_,KL⟩:=hks'.out wr hF j hjl
         have hcap:=hao.out (by intro e;rw [e] at hjl;simp at hjl)
         obtain ⟨⟨m2,nu2,si2,op2,fl2,bi2,tx2,gk2⟩,hG⟩: ∃G,G=gn K[j]:=⟨_,rfl⟩
         rw [←hG] at hat KL
         rw [nd_mk] at KL
         have e0:=hat 0 _ rfl
         have e1:=hat 1 _ rfl
         have e2:=hat 2 _ rfl
         have e3:=hat 3 _ rfl
         have e4:=hat 4 _ rfl
         have e5:=hat 5 _ rfl
         have e6:=hat 6 _ rfl
         have e7:=hat 7 _ rfl
         simp only [Gn.maj,Gn.num,Gn.siz,Gn.opn,Gn.flt,Gn.big,Gn.tex] at e0 e1 e2 e3 e4 e5 e6
         rw [Nat.mul_comm 8 j] at e0 e1 e2 e3 e4 e5 e6 e7
         rw [Nat.add_zero] at e0
         clear hat hG
         obtain ⟨BJ,hBJ⟩: ∃BJ,BJ=K[j].snd Lib.validD:=⟨_,rfl⟩
         rw [←hBJ] at KL
         replace KL:=Hz KL
         replace hBJ:=Hz hBJ
         go_wp2_with fail
         refine (KL.out _ ((Fr.refl _ _).alloc _)).mono ?_
         rintro e w2 ⟨rfl,hf2⟩
         cases BJ with
         |false=>
          have hR:RR=false:=hno.out _ (List.getElem_mem hjl) hBJ.out.symm
          subst hR
          clear hks' hao hyes hno
          go_wp2
          go_ret
          exact ⟨rfl,hF.trans (((Fr.refl _ _).alloc _).trans hf2)⟩
         |true=>
          have hsj2:Hid (∀u,u∈K.take (j+1)→u.snd Lib.validD=true):=Hz (fun u hu=>by
           rw [take_snoc' K j hjl] at hu
           rcases List.mem_append.1 hu with hu|hu
           ·exact hsj.out u hu
           ·simp at hu;subst hu;exact hBJ.out.symm)
          go_wp2
          go_roundg q
          case measure=>omega
          case rel=>exact ⟨j+1,by go_num,by omega,hsj2,hF.trans (((Fr.refl _ _).alloc _).trans hf2)⟩
      ·go_enter Tryz.func32,Tryz.ntmps32
       go_wp2_with fail
       go_loopg [40] K.length (fun k v40 wr=> ∃j:Nat,v40= .int .i64 (j:Int)∧j+k=K.length∧Hid (∀u,u∈K.take j→u.snd Lib.validD=true)∧Fr [] w wr)
       case atStart=>exact ⟨0,by go_num,by omega,Hz (by simp),(Fr.refl _ _).alloc _⟩
       case round=>
        obtain ⟨j,rfl,hj,hsj,hF⟩:=hrel
        by_cases hk:gk=0
        ·subst hk
         obtain rfl:j=K.length:=by omega
         have hfin:=hsj.out
         rw [List.take_length] at hfin
         have hR:RR=true:=hyes.out hfin
         subst hR
         clear hks' hao hyes hno
         go_wp2
         go_ret
         exact ⟨rfl,hF⟩
        ·obtain ⟨q,rfl⟩: ∃q,gk=q+1:=⟨gk-1,by omega⟩
         have hjl:j<K.length:=by omega
         have t1:(j:Int)<(K.length:Int):=by omega
         obtain ⟨kv',hat,⟨ao',n',c',rfl⟩,_,KL⟩:=hks'.out wr hF j hjl
         have hcap:=hao.out (by intro e;rw [e] at hjl;simp at hjl)
         obtain ⟨⟨m2,nu2,si2,op2,fl2,bi2,tx2,gk2⟩,hG⟩: ∃G,G=gn K[j]:=⟨_,rfl⟩
         rw [←hG] at hat KL
         rw [nd_mk] at KL
         have e0:=hat 0 _ rfl
         have e1:=hat 1 _ rfl
         have e2:=hat 2 _ rfl
         have e3:=hat 3 _ rfl
         have e4:=hat 4 _ rfl
         have e5:=hat 5 _ rfl
         have e6:=hat 6 _ rfl
         have e7:=hat 7 _ rfl
         simp only [Gn.maj,Gn.num,Gn.siz,Gn.opn,Gn.flt,Gn.big,Gn.tex] at e0 e1 e2 e3 e4 e5 e6
         rw [Nat.mul_comm 8 j] at e0 e1 e2 e3 e4 e5 e6 e7
         rw [Nat.add_zero] at e0
         clear hat hG
         obtain ⟨BJ,hBJ⟩: ∃BJ,BJ=K[j].snd Lib.validD:=⟨_,rfl⟩
         rw [←hBJ] at KL
         replace KL:=Hz KL
         replace hBJ:=Hz hBJ
         go_wp2_with fail
         refine (KL.out _ ((Fr.refl _ _).alloc _)).mono ?_
         rintro e w2 ⟨rfl,hf2⟩
         cases BJ with
         |false=>
          have hR:RR=false:=hno.out _ (List.getElem_mem hjl) hBJ.out.symm
          subst hR
          clear hks' hao hyes hno
          go_wp2
          go_ret
          exact ⟨rfl,hF.trans (((Fr.refl _ _).alloc _).trans hf2)⟩
         |true=>
          have hsj2:Hid (∀u,u∈K.take (j+1)→u.snd Lib.validD=true):=Hz (fun u hu=>by
           rw [take_snoc' K j hjl] at hu
           rcases List.mem_append.1 hu with hu|hu
           ·exact hsj.out u hu
           ·simp at hu;subst hu;exact hBJ.out.symm)
          go_wp2
          go_roundg q
          case measure=>omega
          case rel=>exact ⟨j+1,by go_num,by omega,hsj2,hF.trans (((Fr.refl _ _).alloc _).trans hf2)⟩
     ·obtain rfl:RR=false:=hbad2 rfl c2 ch
      have t5:((hm:Int)==2)=false:=by simp;omega
      have t6: ¬(hm:Int)=2:=by omega
      clear hyes hno hks' hao hbad2
      rcases c2 with rfl|rfl
      all_goals
       go_enter Tryz.func32,Tryz.ntmps32
       go_wp2
       go_ret
       exact ⟨rfl,(Fr.refl _ _).alloc _⟩
    ·replace hyes:=Hz (hyes (by omega) (by omega))
     have t5:((nu:Int)==2)=false:=by simp;omega
     have t6:((nu:Int)==3)=false:=by simp;omega
     clear hbad2 h0 hK1
     go_enter Tryz.func32,Tryz.ntmps32
     go_wp2_with fail
     go_loopg [40] K.length (fun k v40 wr=> ∃j:Nat,v40= .int .i64 (j:Int)∧j+k=K.length∧Hid (∀u,u∈K.take j→u.snd Lib.validD=true)∧Fr [] w wr)
     case atStart=>exact ⟨0,by go_num,by omega,Hz (by simp),(Fr.refl _ _).alloc _⟩
     case round=>
      obtain ⟨j,rfl,hj,hsj,hF⟩:=hrel
      by_cases hk:gk=0
      ·subst hk
       obtain rfl:j=K.length:=by omega
       have hfin:=hsj.out
       rw [List.take_length] at hfin
       have hR:RR=true:=hyes.out hfin
       subst hR
       clear hks' hao hyes hno
       go_wp2
       go_ret
       exact ⟨rfl,hF⟩
      ·obtain ⟨q,rfl⟩: ∃q,gk=q+1:=⟨gk-1,by omega⟩
       have hjl:j<K.length:=by omega
       have t1:(j:Int)<(K.length:Int):=by omega
       obtain ⟨kv',hat,⟨ao',n',c',rfl⟩,_,KL⟩:=hks'.out wr hF j hjl
       obtain ⟨rfl,hcap⟩:=hao.out (by intro e;rw [e] at hjl;simp at hjl)
       obtain ⟨⟨m2,nu2,si2,op2,fl2,bi2,tx2,gk2⟩,hG⟩: ∃G,G=gn K[j]:=⟨_,rfl⟩
       rw [←hG] at hat KL
       rw [nd_mk] at KL
       have e0:=hat 0 _ rfl
       have e1:=hat 1 _ rfl
       have e2:=hat 2 _ rfl
       have e3:=hat 3 _ rfl
       have e4:=hat 4 _ rfl
       have e5:=hat 5 _ rfl
       have e6:=hat 6 _ rfl
       have e7:=hat 7 _ rfl
       simp only [Gn.maj,Gn.num,Gn.siz,Gn.opn,Gn.flt,Gn.big,Gn.tex] at e0 e1 e2 e3 e4 e5 e6
       rw [Nat.mul_comm 8 j] at e0 e1 e2 e3 e4 e5 e6 e7
       rw [Nat.add_zero] at e0
       clear hat hG
       obtain ⟨BJ,hBJ⟩: ∃BJ,BJ=K[j].snd Lib.validD:=⟨_,rfl⟩
       rw [←hBJ] at KL
       replace KL:=Hz KL
       replace hBJ:=Hz hBJ
       go_wp2_with fail
       refine (KL.out _ ((Fr.refl _ _).alloc _)).mono ?_
       rintro e w2 ⟨rfl,hf2⟩
       cases BJ with
       |false=>
        have hR:RR=false:=hno.out _ (List.getElem_mem hjl) hBJ.out.symm
        subst hR
        clear hks' hao hyes hno
        go_wp2
        go_ret
        exact ⟨rfl,hF.trans (((Fr.refl _ _).alloc _).trans hf2)⟩
       |true=>
        have hsj2:Hid (∀u,u∈K.take (j+1)→u.snd Lib.validD=true):=Hz (fun u hu=>by
         rw [take_snoc' K j hjl] at hu
         rcases List.mem_append.1 hu with hu|hu
         ·exact hsj.out u hu
         ·simp at hu;subst hu;exact hBJ.out.symm)
        go_wp2
        go_roundg q
        case measure=>omega
        case rel=>exact ⟨j+1,by go_num,by omega,hsj2,hF.trans (((Fr.refl _ _).alloc _).trans hf2)⟩
   ·replace hyes:=Hz (hyes (by omega) (by omega))
    have t5:((m:Int)==6)=false:=by simp;omega
    clear hbad1 hbad2 htag hks
    go_enter Tryz.func32,Tryz.ntmps32
    go_wp2_with fail
    go_loopg [40] K.length (fun k v40 wr=> ∃j:Nat,v40= .int .i64 (j:Int)∧j+k=K.length∧Hid (∀u,u∈K.take j→u.snd Lib.validD=true)∧Fr [] w wr)
    case atStart=>exact ⟨0,by go_num,by omega,Hz (by simp),(Fr.refl _ _).alloc _⟩
    case round=>
     obtain ⟨j,rfl,hj,hsj,hF⟩:=hrel
     by_cases hk:gk=0
     ·subst hk
      obtain rfl:j=K.length:=by omega
      have hfin:=hsj.out
      rw [List.take_length] at hfin
      have hR:RR=true:=hyes.out hfin
      subst hR
      clear hks' hao hyes hno
      go_wp2
      go_ret
      exact ⟨rfl,hF⟩
     ·obtain ⟨q,rfl⟩: ∃q,gk=q+1:=⟨gk-1,by omega⟩
      have hjl:j<K.length:=by omega
      have t1:(j:Int)<(K.length:Int):=by omega
      obtain ⟨kv',hat,⟨ao',n',c',rfl⟩,_,KL⟩:=hks'.out wr hF j hjl
      obtain ⟨rfl,hcap⟩:=hao.out (by intro e;rw [e] at hjl;simp at hjl)
      obtain ⟨⟨m2,nu2,si2,op2,fl2,bi2,tx2,gk2⟩,hG⟩: ∃G,G=gn K[j]:=⟨_,rfl⟩
      rw [←hG] at hat KL
      rw [nd_mk] at KL
      have e0:=hat 0 _ rfl
      have e1:=hat 1 _ rfl
      have e2:=hat 2 _ rfl
      have e3:=hat 3 _ rfl
      have e4:=hat 4 _ rfl
      have e5:=hat 5 _ rfl
      have e6:=hat 6 _ rfl
      have e7:=hat 7 _ rfl
      simp only [Gn.maj,Gn.num,Gn.siz,Gn.opn,Gn.flt,Gn.big,Gn.tex] at e0 e1 e2 e3 e4 e5 e6
      rw [Nat.mul_comm 8 j] at e0 e1 e2 e3 e4 e5 e6 e7
      rw [Nat.add_zero] at e0
      clear hat hG
      obtain ⟨BJ,hBJ⟩: ∃BJ,BJ=K[j].snd Lib.validD:=⟨_,rfl⟩
      rw [←hBJ] at KL
      replace KL:=Hz KL
      replace hBJ:=Hz hBJ
      go_wp2_with fail
      refine (KL.out _ ((Fr.refl _ _).alloc _)).mono ?_
      rintro e w2 ⟨rfl,hf2⟩
      cases BJ with
      |false=>
       have hR:RR=false:=hno.out _ (List.getElem_mem hjl) hBJ.out.symm
       subst hR
       clear hks' hao hyes hno
       go_wp2
       go_ret
       exact ⟨rfl,hF.trans (((Fr.refl _ _).alloc _).trans hf2)⟩
      |true=>
       have hsj2:Hid (∀u,u∈K.take (j+1)→u.snd Lib.validD=true):=Hz (fun u hu=>by
        rw [take_snoc' K j hjl] at hu
        rcases List.mem_append.1 hu with hu|hu
        ·exact hsj.out u hu
        ·simp at hu;subst hu;exact hBJ.out.symm)
       go_wp2
       go_roundg q
       case measure=>omega
       case rel=>exact ⟨j+1,by go_num,by omega,hsj2,hF.trans (((Fr.refl _ _).alloc _).trans hf2)⟩
end
end Go.Proofs.YteodinhkhhaafaaGreatDoor
