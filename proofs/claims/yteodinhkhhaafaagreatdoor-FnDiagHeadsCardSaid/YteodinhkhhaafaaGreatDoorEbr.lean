/- Walks of the program, and plain facts. -/
import Derived.Lib.ValidLaws
import Derived.Test.YteodinhkhhaafaaGreatDoorEax
set_option linter.unusedVariables false
set_option linter.unusedSimpArgs false
set_option maxRecDepth 100000
set_option maxHeartbeats 6400000
namespace Go.Proofs.YteodinhkhhaafaaGreatDoor
section
open Go.RowKit
def runeN (n b0 b1 b2 b3:Nat):Nat:=
 if b0<128 then 1
 else if 194≤b0∧b0<224 then (if n<2∨b1/64≠2 then 0 else if b0%32*64+b1%64<128 then 0 else 2)
 else if 224≤b0∧b0<240 then (if n<3∨b1/64≠2∨b2/64≠2 then 0
  else if b0%16*4096+b1%64*64+b2%64<2048∨(55296≤b0%16*4096+b1%64*64+b2%64∧b0%16*4096+b1%64*64+b2%64<57344) then 0 else 3)
 else if 240≤b0∧b0<245 then (if n<4∨b1/64≠2∨b2/64≠2∨b3/64≠2 then 0
  else if b0%8*262144+b1%64*4096+b2%64*64+b3%64<65536∨1114111<b0%8*262144+b1%64*4096+b2%64*64+b3%64 then 0 else 4)
 else 0
theorem runeN_eq (n b0 b1 b2 b3:Nat) (hn:1≤n) (h0:b0<256) (h1:b1<256) (h2:b2<256) (h3:b3<256):
  runeN n b0 b1 b2 b3=if (Lib.decodeN n b0 b1 b2 b3).1=65533∧(Lib.decodeN n b0 b1 b2 b3).2=1 then 0 else (Lib.decodeN n b0 b1 b2 b3).2:=by
 have key: ∀(r:Nat) (p:Nat×Nat),(p=(65533,1)∧r=0)∨(p.2=r∧(r=1→p.1<128))→r=if p.1=65533∧p.2=1 then 0 else p.2:=by
  rintro r p (⟨rfl,rfl⟩|⟨h1,h2⟩)
  ·simp
  ·rw [if_neg (by rintro ⟨a,b⟩;have:=h2 (by omega);omega),h1]
 apply key
 unfold runeN Lib.decodeN
 repeat' split
 all_goals first|(exfalso;omega)|(left;exact ⟨rfl,rfl⟩)|(right;exact ⟨rfl,by omega⟩)
end
section
open Go.RowKit
theorem and192 (b:Nat) (hb:b<256):bits .and .u8 (b:Int) 192=((b/64*64:Nat):Int):=by
 rw [show (192:Int)=((192:Nat):Int) from rfl,u8_and_nat _ _ (by omega) (by decide)]
 have key: ∀x:Fin 256,(x.val&&&192)=x.val/64*64:=by decide+kernel
 exact congrArg _ (key ⟨b,hb⟩)
theorem and_low (b k:Nat) (hb:b<256) (hk:k≤8):bits .and .u8 (b:Int) ((2^k-1:Nat):Int)=((b%2^k:Nat):Int):=by
 have hp:=Nat.pow_le_pow_right (n:=2) (by omega) hk
 rw [u8_and_nat _ _ (by omega) (by omega),Nat.and_two_pow_sub_one_eq_mod]
theorem or6 (r y:Nat) (hr:r<100000000) (hy:y<64):bits .or .i64 ((r:Int)*64) (y:Int)=((r*64+y:Nat):Int):=by
 rw [show (r:Int)*64=((r*64:Nat):Int) by omega,i64_or_nat _ _ (by omega) (by omega)]
 have t:=Nat.two_pow_add_eq_or_of_lt (i:=6) (b:=y) hy r;rw [Nat.mul_comm (2^6) r] at t;rw [←t]
def bt' (xs:List UInt8) (i:Nat):Nat:=(xs.getD i 0).toNat
theorem bt_lt (xs:List UInt8) (i:Nat):bt' xs i<256:=UInt8.toNat_lt _
theorem bt_at (xs:List UInt8) (i:Nat) (h:i<xs.length):((⟨xs.toArray⟩:ByteArray)[i]'(by show i<xs.toArray.size;simpa using h)).toNat=bt' xs i:=by
 unfold bt';rw [List.getD_eq_getElem?_getD,List.getElem?_eq_getElem h]
 rfl
def rv (xs:List UInt8) (i a:Nat):Nat→Nat
 |0=>a
 |k+1=>rv xs i a k*64+bt' xs (i+(k+1))%64
theorem runeAt2 (xs:List UInt8) (hl:xs.length≤1000000000) (i:Nat) (hi:i<xs.length) (h0:194≤bt' xs i∧bt' xs i<224) (w:World):
  Calls Tryz.prog 79 #[.string ⟨xs.toArray⟩,.int .i64 (i:Int)] w fun e w'=>e= .returned (.int .i64 (runeN (xs.length-i) (bt' xs i) (bt' xs (i+1)) (bt' xs (i+2)) (bt' xs (i+3)):Int))∧w'=w:=by
 have hx: ∀j,(h:j<xs.length)→((⟨xs.toArray⟩:ByteArray)[j]'(by show j<xs.toArray.size;simpa using h)).toNat=bt' xs j:=bt_at xs
 have hi0:=hx i hi;have q1:(i:Int)<(xs.length:Int):=by omega
 have q2:(⟨xs.toArray⟩:ByteArray).size=xs.length:=by simp [ByteArray.size]
 have am:bits .and .u8 (bt' xs i:Int) 31=((bt' xs i%32:Nat):Int):=and_low (bt' xs i) 5 (bt_lt xs i) (by omega)
 have hb:=bt_lt xs i;obtain ⟨a,ha⟩: ∃a,a=bt' xs i%32:=⟨_,rfl⟩;rw [←ha] at am;have ha2:a<32:=by omega
 have hres:runeN (xs.length-i) (bt' xs i) (bt' xs (i+1)) (bt' xs (i+2)) (bt' xs (i+3))=if xs.length-i<2∨bt' xs (i+1)/64≠2 then 0 else if a*64+bt' xs (i+1)%64<128 then 0 else 2:=by
  unfold runeN;rw [ha]
  repeat' split
  all_goals first|rfl|(exfalso;omega)
 obtain ⟨b0,hb0⟩: ∃b0,b0=bt' xs i:=⟨_,rfl⟩;rw [←hb0] at hi0 am h0 hres hb ⊢;have c1:(194:Int)≤(b0:Int):=by omega
 have c2:(b0:Int)<224:=by omega
 obtain ⟨R,hR⟩: ∃R,R=runeN (xs.length-i) b0 (bt' xs (i+1)) (bt' xs (i+2)) (bt' xs (i+3)):=⟨_,rfl⟩;rw [←hR] at hres ⊢;replace hR:=Hz hR;replace hb0:=Hz hb0;replace ha:=Hz ha;replace hx:=Hz hx;by_cases hn:xs.length-i<2
 ·rw [if_pos (.inl hn)] at hres;subst hres;have t1:(xs.length:Int)<(i:Int)+2:=by omega
  clear hn;go_enter Tryz.func79,Tryz.ntmps79
  go_wp2;go_ret
  exact ⟨rfl,rfl⟩
 ·have t1: ¬(xs.length:Int)<(i:Int)+2:=by omega
  replace hres:=Hz hres;go_enter Tryz.func79,Tryz.ntmps79
  go_wp2
  go_loopg [8,9] 1 (fun g v8 v9 wr=> ∃k:Nat,v9= .int .i64 (k:Int)∧1≤k∧k+g=2∧v8= .int .i64 (rv xs i a (k-1):Int)∧Hid (∀j,1≤j→j<k→bt' xs (i+j)/64=2)∧rv xs i a (k-1)<32*64^(k-1)∧wr=w)
  case atStart=>exact ⟨1,by go_num,by omega,by omega,rfl,Hz (fun j h1 h2=>absurd h1 (by omega)),by simp [rv];exact ha2,rfl⟩
  case round=>
   obtain ⟨k,rfl,hk1,hk,rfl,hcs,hrl,rfl⟩:=hrel;by_cases hg:gk=0
   ·subst hg;obtain rfl:k=2:=by omega
    have hC:=hcs.out;have hr:=hres.out;rw [if_neg (by have:=hC 1 (by omega) (by omega);omega)] at hr
    have hval:rv xs i a (2-1)=a*64+bt' xs (i+1)%64:=by simp [rv]
    rw [←hval] at hr;have hV:rv xs i a (2-1)<2048:=Nat.lt_of_lt_of_le hrl (by decide)
    generalize rv xs i a (2-1)=V at *
    clear hres hcs hrl hC hval;by_cases d1:V<128
    ·rw [if_pos d1] at hr;subst hr;have e1:(V:Int)<128:=by omega
     go_wp2;go_ret
     exact ⟨rfl,rfl⟩
    ·rw [if_neg d1] at hr;subst hr;have e1: ¬(V:Int)<128:=by omega
     have e2: ¬(1114111:Int)<(V:Int):=by omega
     have e3: ¬(55296:Int)≤(V:Int):=by omega
     go_wp2;go_ret
     exact ⟨rfl,rfl⟩
   ·obtain ⟨g,rfl⟩: ∃g,gk=g+1:=⟨gk-1,by omega⟩
    have hik:i+k<xs.length:=by omega
    have t5:(k:Int)<2:=by omega
    have q3:(i:Int)+(k:Int)<(xs.length:Int):=by omega
    have hxk:=hx.out (i+k) hik;have hbk:=bt_lt xs (i+k);have a1:=and192 (bt' xs (i+k)) hbk;have a2:bits .and .u8 (bt' xs (i+k):Int) 63=((bt' xs (i+k)%64:Nat):Int):=and_low (bt' xs (i+k)) 6 hbk (by omega)
    have hstep:rv xs i a k=rv xs i a (k-1)*64+bt' xs (i+k)%64:=by
     obtain ⟨k',rfl⟩: ∃k',k=k'+1:=⟨k-1,by omega⟩
     rfl
    have hpw:32*64^(k-1)≤2000000:=Nat.le_trans (Nat.mul_le_mul_left _ (Nat.pow_le_pow_right (by decide) (show k-1≤2-2 by omega))) (by decide)
    have hpk:32*64^k=32*64^(k-1)*64:=by rw [Nat.mul_assoc,←Nat.pow_succ];congr 2;omega
    have a3:=or6 (rv xs i a (k-1)) (bt' xs (i+k)%64) (by omega) (by omega)
    have hnew:rv xs i a k<32*64^k:=by rw [hstep,hpk];omega
    obtain ⟨y,hy⟩: ∃y,y=bt' xs (i+k)%64:=⟨_,rfl⟩;obtain ⟨z,hz⟩: ∃z,z=bt' xs (i+k)/64*64:=⟨_,rfl⟩;have hy64:y<64:=by omega
    rw [←hy] at a2 a3 hstep;rw [←hz] at a1;by_cases hbad:bt' xs (i+k)/64=2
    ·have t6:(z:Int)=128:=by omega
     have hcs2:Hid (∀j,1≤j→j<k+1→bt' xs (i+j)/64=2):=Hz (fun j h1 h2=>by
      by_cases e:j=k
      ·subst e;exact hbad
      ·exact hcs.out j h1 (by omega))
     generalize hB:bt' xs (i+k)=bk at *
     rw [←hstep] at a3;have hrl2:rv xs i a (k-1)<2000000:=by omega
     generalize hP:rv xs i a (k-1)=pv at *
     generalize hP2:rv xs i a k=pv2 at *
     replace hB:=Hz hB;replace hP:=Hz hP;replace hstep:=Hz hstep;replace hnew:=Hz hnew;clear hbad hrl hpw hpk hy hz;go_wp2
     go_roundg g
     case measure=>omega
     case rel=>exact ⟨k+1,by go_num,by omega,by omega,by rw [Nat.add_sub_cancel,hP2],hcs2,by rw [Nat.add_sub_cancel,hP2];exact hnew.out,rfl⟩
    ·have t6: ¬(z:Int)=128:=by omega
     have hr:=hres.out;rw [if_pos (.inr (by obtain rfl:k=1:=(by omega);exact hbad))] at hr
     subst hr;generalize bt' xs (i+k)=bk at *
     clear hbad hrl hpw hpk hstep hnew a2 a3 hy hz;go_wp2;go_ret
     exact ⟨rfl,rfl⟩
theorem runeAt3 (xs:List UInt8) (hl:xs.length≤1000000000) (i:Nat) (hi:i<xs.length) (h0:224≤bt' xs i∧bt' xs i<240) (w:World):
  Calls Tryz.prog 79 #[.string ⟨xs.toArray⟩,.int .i64 (i:Int)] w fun e w'=>e= .returned (.int .i64 (runeN (xs.length-i) (bt' xs i) (bt' xs (i+1)) (bt' xs (i+2)) (bt' xs (i+3)):Int))∧w'=w:=by
 have hx: ∀j,(h:j<xs.length)→((⟨xs.toArray⟩:ByteArray)[j]'(by show j<xs.toArray.size;simpa using h)).toNat=bt' xs j:=bt_at xs
 have hi0:=hx i hi;have q1:(i:Int)<(xs.length:Int):=by omega
 have q2:(⟨xs.toArray⟩:ByteArray).size=xs.length:=by simp [ByteArray.size]
 have am:bits .and .u8 (bt' xs i:Int) 15=((bt' xs i%16:Nat):Int):=and_low (bt' xs i) 4 (bt_lt xs i) (by omega)
 have hb:=bt_lt xs i;obtain ⟨a,ha⟩: ∃a,a=bt' xs i%16:=⟨_,rfl⟩;rw [←ha] at am;have ha2:a<16:=by omega
 have hres:runeN (xs.length-i) (bt' xs i) (bt' xs (i+1)) (bt' xs (i+2)) (bt' xs (i+3))=if xs.length-i<3∨bt' xs (i+1)/64≠2∨bt' xs (i+2)/64≠2 then 0 else if (a*64+bt' xs (i+1)%64)*64+bt' xs (i+2)%64<2048∨(55296≤(a*64+bt' xs (i+1)%64)*64+bt' xs (i+2)%64∧(a*64+bt' xs (i+1)%64)*64+bt' xs (i+2)%64<57344) then 0 else 3:=by
  unfold runeN;rw [ha]
  repeat' split
  all_goals first|rfl|(exfalso;omega)
 obtain ⟨b0,hb0⟩: ∃b0,b0=bt' xs i:=⟨_,rfl⟩;rw [←hb0] at hi0 am h0 hres hb ⊢;have c1:(224:Int)≤(b0:Int):=by omega
 have c2:(b0:Int)<240:=by omega
 obtain ⟨R,hR⟩: ∃R,R=runeN (xs.length-i) b0 (bt' xs (i+1)) (bt' xs (i+2)) (bt' xs (i+3)):=⟨_,rfl⟩;rw [←hR] at hres ⊢;replace hR:=Hz hR;replace hb0:=Hz hb0;replace ha:=Hz ha;replace hx:=Hz hx;by_cases hn:xs.length-i<3
 ·rw [if_pos (.inl hn)] at hres;subst hres;have t1:(xs.length:Int)<(i:Int)+3:=by omega
  clear hn;go_enter Tryz.func79,Tryz.ntmps79
  go_wp2;go_ret
  exact ⟨rfl,rfl⟩
 ·have t1: ¬(xs.length:Int)<(i:Int)+3:=by omega
  replace hres:=Hz hres;go_enter Tryz.func79,Tryz.ntmps79
  go_wp2
  go_loopg [8,9] 2 (fun g v8 v9 wr=> ∃k:Nat,v9= .int .i64 (k:Int)∧1≤k∧k+g=3∧v8= .int .i64 (rv xs i a (k-1):Int)∧Hid (∀j,1≤j→j<k→bt' xs (i+j)/64=2)∧rv xs i a (k-1)<16*64^(k-1)∧wr=w)
  case atStart=>exact ⟨1,by go_num,by omega,by omega,rfl,Hz (fun j h1 h2=>absurd h1 (by omega)),by simp [rv];exact ha2,rfl⟩
  case round=>
   obtain ⟨k,rfl,hk1,hk,rfl,hcs,hrl,rfl⟩:=hrel;by_cases hg:gk=0
   ·subst hg;obtain rfl:k=3:=by omega
    have hC:=hcs.out;have hr:=hres.out;rw [if_neg (by have:=hC 1 (by omega) (by omega);have:=hC 2 (by omega) (by omega);omega)] at hr
    have hval:rv xs i a (3-1)=(a*64+bt' xs (i+1)%64)*64+bt' xs (i+2)%64:=by simp [rv]
    rw [←hval] at hr;have hV:rv xs i a (3-1)<65536:=Nat.lt_of_lt_of_le hrl (by decide)
    generalize rv xs i a (3-1)=V at *
    clear hres hcs hrl hC hval;by_cases d1:V<2048
    ·rw [if_pos (.inl d1)] at hr;subst hr;have e1:(V:Int)<2048:=by omega
     go_wp2;go_ret
     exact ⟨rfl,rfl⟩
    ·have e1: ¬(V:Int)<2048:=by omega
     have e2: ¬(1114111:Int)<(V:Int):=by omega
     by_cases d2:55296≤V
     ·have e3:(55296:Int)≤(V:Int):=by omega
      by_cases d3:V<57344
      ·rw [if_pos (.inr ⟨d2,d3⟩)] at hr;subst hr;have e4:(V:Int)<57344:=by omega
       go_wp2;go_ret
       exact ⟨rfl,rfl⟩
      ·rw [if_neg (by omega)] at hr
       subst hr;have e4: ¬(V:Int)<57344:=by omega
       go_wp2;go_ret
       exact ⟨rfl,rfl⟩
     ·rw [if_neg (by omega)] at hr
      subst hr;have e3: ¬(55296:Int)≤(V:Int):=by omega
      go_wp2;go_ret
      exact ⟨rfl,rfl⟩
   ·obtain ⟨g,rfl⟩: ∃g,gk=g+1:=⟨gk-1,by omega⟩
    have hik:i+k<xs.length:=by omega
    have t5:(k:Int)<3:=by omega
    have q3:(i:Int)+(k:Int)<(xs.length:Int):=by omega
    have hxk:=hx.out (i+k) hik;have hbk:=bt_lt xs (i+k);have a1:=and192 (bt' xs (i+k)) hbk;have a2:bits .and .u8 (bt' xs (i+k):Int) 63=((bt' xs (i+k)%64:Nat):Int):=and_low (bt' xs (i+k)) 6 hbk (by omega)
    have hstep:rv xs i a k=rv xs i a (k-1)*64+bt' xs (i+k)%64:=by
     obtain ⟨k',rfl⟩: ∃k',k=k'+1:=⟨k-1,by omega⟩
     rfl
    have hpw:16*64^(k-1)≤2000000:=Nat.le_trans (Nat.mul_le_mul_left _ (Nat.pow_le_pow_right (by decide) (show k-1≤3-2 by omega))) (by decide)
    have hpk:16*64^k=16*64^(k-1)*64:=by rw [Nat.mul_assoc,←Nat.pow_succ];congr 2;omega
    have a3:=or6 (rv xs i a (k-1)) (bt' xs (i+k)%64) (by omega) (by omega)
    have hnew:rv xs i a k<16*64^k:=by rw [hstep,hpk];omega
    obtain ⟨y,hy⟩: ∃y,y=bt' xs (i+k)%64:=⟨_,rfl⟩;obtain ⟨z,hz⟩: ∃z,z=bt' xs (i+k)/64*64:=⟨_,rfl⟩;have hy64:y<64:=by omega
    rw [←hy] at a2 a3 hstep;rw [←hz] at a1;by_cases hbad:bt' xs (i+k)/64=2
    ·have t6:(z:Int)=128:=by omega
     have hcs2:Hid (∀j,1≤j→j<k+1→bt' xs (i+j)/64=2):=Hz (fun j h1 h2=>by
      by_cases e:j=k
      ·subst e;exact hbad
      ·exact hcs.out j h1 (by omega))
     generalize hB:bt' xs (i+k)=bk at *
     rw [←hstep] at a3;have hrl2:rv xs i a (k-1)<2000000:=by omega
     generalize hP:rv xs i a (k-1)=pv at *
     generalize hP2:rv xs i a k=pv2 at *
     replace hB:=Hz hB;replace hP:=Hz hP;replace hstep:=Hz hstep;replace hnew:=Hz hnew;clear hbad hrl hpw hpk hy hz;go_wp2
     go_roundg g
     case measure=>omega
     case rel=>exact ⟨k+1,by go_num,by omega,by omega,by rw [Nat.add_sub_cancel,hP2],hcs2,by rw [Nat.add_sub_cancel,hP2];exact hnew.out,rfl⟩
    ·have t6: ¬(z:Int)=128:=by omega
     have hr:=hres.out;rw [if_pos (.inr (by rcases (show k=1∨k=2 by omega) with rfl|rfl;exact .inl hbad;exact .inr hbad))] at hr
     subst hr;generalize bt' xs (i+k)=bk at *
     clear hbad hrl hpw hpk hstep hnew a2 a3 hy hz;go_wp2;go_ret
     exact ⟨rfl,rfl⟩
theorem runeAt4 (xs:List UInt8) (hl:xs.length≤1000000000) (i:Nat) (hi:i<xs.length) (h0:240≤bt' xs i∧bt' xs i<245) (w:World):
  Calls Tryz.prog 79 #[.string ⟨xs.toArray⟩,.int .i64 (i:Int)] w fun e w'=>e= .returned (.int .i64 (runeN (xs.length-i) (bt' xs i) (bt' xs (i+1)) (bt' xs (i+2)) (bt' xs (i+3)):Int))∧w'=w:=by
 have hx: ∀j,(h:j<xs.length)→((⟨xs.toArray⟩:ByteArray)[j]'(by show j<xs.toArray.size;simpa using h)).toNat=bt' xs j:=bt_at xs
 have hi0:=hx i hi;have q1:(i:Int)<(xs.length:Int):=by omega
 have q2:(⟨xs.toArray⟩:ByteArray).size=xs.length:=by simp [ByteArray.size]
 have am:bits .and .u8 (bt' xs i:Int) 7=((bt' xs i%8:Nat):Int):=and_low (bt' xs i) 3 (bt_lt xs i) (by omega)
 have hb:=bt_lt xs i;obtain ⟨a,ha⟩: ∃a,a=bt' xs i%8:=⟨_,rfl⟩;rw [←ha] at am;have ha2:a<8:=by omega
 have hres:runeN (xs.length-i) (bt' xs i) (bt' xs (i+1)) (bt' xs (i+2)) (bt' xs (i+3))=if xs.length-i<4∨bt' xs (i+1)/64≠2∨bt' xs (i+2)/64≠2∨bt' xs (i+3)/64≠2 then 0 else if ((a*64+bt' xs (i+1)%64)*64+bt' xs (i+2)%64)*64+bt' xs (i+3)%64<65536∨1114111<((a*64+bt' xs (i+1)%64)*64+bt' xs (i+2)%64)*64+bt' xs (i+3)%64 then 0 else 4:=by
  unfold runeN;rw [ha]
  repeat' split
  all_goals first|rfl|(exfalso;omega)
 obtain ⟨b0,hb0⟩: ∃b0,b0=bt' xs i:=⟨_,rfl⟩;rw [←hb0] at hi0 am h0 hres hb ⊢;have c1:(240:Int)≤(b0:Int):=by omega
 have c2:(b0:Int)<245:=by omega
 obtain ⟨R,hR⟩: ∃R,R=runeN (xs.length-i) b0 (bt' xs (i+1)) (bt' xs (i+2)) (bt' xs (i+3)):=⟨_,rfl⟩;rw [←hR] at hres ⊢;replace hR:=Hz hR;replace hb0:=Hz hb0;replace ha:=Hz ha;replace hx:=Hz hx;by_cases hn:xs.length-i<4
 ·rw [if_pos (.inl hn)] at hres;subst hres;have t1:(xs.length:Int)<(i:Int)+4:=by omega
  clear hn;go_enter Tryz.func79,Tryz.ntmps79
  go_wp2;go_ret
  exact ⟨rfl,rfl⟩
 ·have t1: ¬(xs.length:Int)<(i:Int)+4:=by omega
  replace hres:=Hz hres;go_enter Tryz.func79,Tryz.ntmps79
  go_wp2
  go_loopg [8,9] 3 (fun g v8 v9 wr=> ∃k:Nat,v9= .int .i64 (k:Int)∧1≤k∧k+g=4∧v8= .int .i64 (rv xs i a (k-1):Int)∧Hid (∀j,1≤j→j<k→bt' xs (i+j)/64=2)∧rv xs i a (k-1)<8*64^(k-1)∧wr=w)
  case atStart=>exact ⟨1,by go_num,by omega,by omega,rfl,Hz (fun j h1 h2=>absurd h1 (by omega)),by simp [rv];exact ha2,rfl⟩
  case round=>
   obtain ⟨k,rfl,hk1,hk,rfl,hcs,hrl,rfl⟩:=hrel;by_cases hg:gk=0
   ·subst hg;obtain rfl:k=4:=by omega
    have hC:=hcs.out;have hr:=hres.out;rw [if_neg (by have:=hC 1 (by omega) (by omega);have:=hC 2 (by omega) (by omega);have:=hC 3 (by omega) (by omega);omega)] at hr
    have hval:rv xs i a (4-1)=((a*64+bt' xs (i+1)%64)*64+bt' xs (i+2)%64)*64+bt' xs (i+3)%64:=by simp [rv]
    rw [←hval] at hr;have hV:rv xs i a (4-1)<2097152:=Nat.lt_of_lt_of_le hrl (by decide)
    generalize rv xs i a (4-1)=V at *
    clear hres hcs hrl hC hval;by_cases d1:V<65536
    ·rw [if_pos (.inl d1)] at hr;subst hr;have e1:(V:Int)<65536:=by omega
     go_wp2;go_ret
     exact ⟨rfl,rfl⟩
    ·have e1: ¬(V:Int)<65536:=by omega
     by_cases d2:1114111<V
     ·rw [if_pos (.inr d2)] at hr;subst hr;have e2:(1114111:Int)<(V:Int):=by omega
      go_wp2;go_ret
      exact ⟨rfl,rfl⟩
     ·rw [if_neg (by omega)] at hr
      subst hr;have e2: ¬(1114111:Int)<(V:Int):=by omega
      have e3:(55296:Int)≤(V:Int):=by omega
      have e4: ¬(V:Int)<57344:=by omega
      go_wp2;go_ret
      exact ⟨rfl,rfl⟩
   ·obtain ⟨g,rfl⟩: ∃g,gk=g+1:=⟨gk-1,by omega⟩
    have hik:i+k<xs.length:=by omega
    have t5:(k:Int)<4:=by omega
    have q3:(i:Int)+(k:Int)<(xs.length:Int):=by omega
    have hxk:=hx.out (i+k) hik;have hbk:=bt_lt xs (i+k);have a1:=and192 (bt' xs (i+k)) hbk;have a2:bits .and .u8 (bt' xs (i+k):Int) 63=((bt' xs (i+k)%64:Nat):Int):=and_low (bt' xs (i+k)) 6 hbk (by omega)
    have hstep:rv xs i a k=rv xs i a (k-1)*64+bt' xs (i+k)%64:=by
     obtain ⟨k',rfl⟩: ∃k',k=k'+1:=⟨k-1,by omega⟩
     rfl
    have hpw:8*64^(k-1)≤2000000:=Nat.le_trans (Nat.mul_le_mul_left _ (Nat.pow_le_pow_right (by decide) (show k-1≤4-2 by omega))) (by decide)
    have hpk:8*64^k=8*64^(k-1)*64:=by rw [Nat.mul_assoc,←Nat.pow_succ];congr 2;omega
    have a3:=or6 (rv xs i a (k-1)) (bt' xs (i+k)%64) (by omega) (by omega)
    have hnew:rv xs i a k<8*64^k:=by rw [hstep,hpk];omega
    obtain ⟨y,hy⟩: ∃y,y=bt' xs (i+k)%64:=⟨_,rfl⟩;obtain ⟨z,hz⟩: ∃z,z=bt' xs (i+k)/64*64:=⟨_,rfl⟩;have hy64:y<64:=by omega
    rw [←hy] at a2 a3 hstep;rw [←hz] at a1;by_cases hbad:bt' xs (i+k)/64=2
    ·have t6:(z:Int)=128:=by omega
     have hcs2:Hid (∀j,1≤j→j<k+1→bt' xs (i+j)/64=2):=Hz (fun j h1 h2=>by
      by_cases e:j=k
      ·subst e;exact hbad
      ·exact hcs.out j h1 (by omega))
     generalize hB:bt' xs (i+k)=bk at *
     rw [←hstep] at a3;have hrl2:rv xs i a (k-1)<2000000:=by omega
     generalize hP:rv xs i a (k-1)=pv at *
     generalize hP2:rv xs i a k=pv2 at *
     replace hB:=Hz hB;replace hP:=Hz hP;replace hstep:=Hz hstep;replace hnew:=Hz hnew;clear hbad hrl hpw hpk hy hz;go_wp2
     go_roundg g
     case measure=>omega
     case rel=>exact ⟨k+1,by go_num,by omega,by omega,by rw [Nat.add_sub_cancel,hP2],hcs2,by rw [Nat.add_sub_cancel,hP2];exact hnew.out,rfl⟩
    ·have t6: ¬(z:Int)=128:=by omega
     have hr:=hres.out;rw [if_pos (.inr (by rcases (show k=1∨k=2∨k=3 by omega) with rfl|rfl|rfl;exact .inl hbad;exact .inr (.inl hbad);exact .inr (.inr hbad)))] at hr
     subst hr;generalize bt' xs (i+k)=bk at *
     clear hbad hrl hpw hpk hstep hnew a2 a3 hy hz;go_wp2;go_ret
     exact ⟨rfl,rfl⟩
theorem runeAt (xs:List UInt8) (hl:xs.length≤1000000000) (i:Nat) (hi:i<xs.length) (w:World):
  Calls Tryz.prog 79 #[.string ⟨xs.toArray⟩,.int .i64 (i:Int)] w fun e w'=>e= .returned (.int .i64 (runeN (xs.length-i) (bt' xs i) (bt' xs (i+1)) (bt' xs (i+2)) (bt' xs (i+3)):Int))∧w'=w:=by
 by_cases h2:194≤bt' xs i∧bt' xs i<224
 ·exact runeAt2 xs hl i hi h2 w
 ·by_cases h3:224≤bt' xs i∧bt' xs i<240
  ·exact runeAt3 xs hl i hi h3 w
  ·by_cases h4:240≤bt' xs i∧bt' xs i<245
   ·exact runeAt4 xs hl i hi h4 w
   ·have hi0:=bt_at xs i hi;have q1:(i:Int)<(xs.length:Int):=by omega
    have q2:(⟨xs.toArray⟩:ByteArray).size=xs.length:=by simp [ByteArray.size]
    by_cases h1:bt' xs i<128
    ·have hr:runeN (xs.length-i) (bt' xs i) (bt' xs (i+1)) (bt' xs (i+2)) (bt' xs (i+3))=1:=by unfold runeN;rw [if_pos h1]
     rw [hr];generalize bt' xs i=b0 at *
     have c1:(b0:Int)<128:=by omega
     clear h2 h3 h4 hr;go_enter Tryz.func79,Tryz.ntmps79
     go_wp2;go_ret
     exact ⟨rfl,rfl⟩
    ·have hr:runeN (xs.length-i) (bt' xs i) (bt' xs (i+1)) (bt' xs (i+2)) (bt' xs (i+3))=0:=by unfold runeN;rw [if_neg h1,if_neg h2,if_neg h3,if_neg h4]
     rw [hr];generalize bt' xs i=b0 at *
     have c1: ¬(b0:Int)<128:=by omega
     clear hr;by_cases h5:b0<194
     ·have c2: ¬(194:Int)≤(b0:Int):=by omega
      have c3: ¬(224:Int)≤(b0:Int):=by omega
      have c4: ¬(240:Int)≤(b0:Int):=by omega
      clear h2 h3 h4;go_enter Tryz.func79,Tryz.ntmps79
      go_wp2;go_ret
      exact ⟨rfl,rfl⟩
     ·have c2: ¬(b0:Int)<224:=by omega
      have c3: ¬(b0:Int)<240:=by omega
      have c4: ¬(b0:Int)<245:=by omega
      clear h2 h3 h4;go_enter Tryz.func79,Tryz.ntmps79
      go_wp2;go_ret
      exact ⟨rfl,rfl⟩
theorem valid_at (xs:List UInt8) (i:Nat) (hi:i<xs.length):Lib.validD (xs.drop i)=if runeN (xs.length-i) (bt' xs i) (bt' xs (i+1)) (bt' xs (i+2)) (bt' xs (i+3))=0 then false else Lib.validD (xs.drop (i+runeN (xs.length-i) (bt' xs i) (bt' xs (i+1)) (bt' xs (i+2)) (bt' xs (i+3)))):=by
 have hne:xs.drop i≠[]:=by intro e;have:=List.drop_eq_nil_iff.1 e;omega
 have hd:Lib.decodeL (xs.drop i)=Lib.decodeN (xs.length-i) (bt' xs i) (bt' xs (i+1)) (bt' xs (i+2)) (bt' xs (i+3)):=by
  unfold Lib.decodeL;rw [Lib.decode_at];have hg: ∀j,((⟨(xs.drop i).toArray⟩:ByteArray).get! j).toNat=bt' xs (i+j):=by
   intro j;unfold bt'
   show (((xs.drop i).toArray)[j]!).toNat=_
   congr 1
   rw [List.getD_eq_getElem?_getD,←List.getElem?_drop];simp [getElem!_def]
   rfl
  rw [hg,hg,hg,hg];have hs:(⟨(xs.drop i).toArray⟩:ByteArray).size=xs.length-i:=by simp [ByteArray.size]
  rw [hs]
  rfl
 rw [Lib.validD_step _ hne,hd,runeN_eq _ _ _ _ _ (by omega) (bt_lt _ _) (bt_lt _ _) (bt_lt _ _) (bt_lt _ _)]
 have hw:=Lib.decodeL_width (xs.drop i);rw [hd] at hw;generalize Lib.decodeN (xs.length-i) (bt' xs i) (bt' xs (i+1)) (bt' xs (i+2)) (bt' xs (i+3))=p at *
 by_cases h:p.1=65533∧p.2=1
 ·rw [if_pos h,if_pos h];simp
 ·rw [if_neg h,if_neg h,if_neg (by omega),List.drop_drop]
theorem valid (xs:List UInt8) (hl:xs.length≤1000000000) (w:World):
  Calls Tryz.prog 50 #[.string ⟨xs.toArray⟩] w fun e w'=>e= .returned (.bool (Lib.validD xs))∧w'=w:=by
 generalize hV:Lib.validD xs=V;replace hV:=Hz hV;go_enter Tryz.func50,Tryz.ntmps50
 go_wp2
 go_loopg [3] (xs.length+1) (fun g v3 wr=> ∃i:Nat,v3= .int .i64 (i:Int)∧i≤xs.length+4∧xs.length<i+g∧Hid (V=Lib.validD (xs.drop i))∧wr=w)
 case atStart=>exact ⟨0,by go_num,by omega,by omega,Hz (by rw [List.drop_zero,hV.out]),rfl⟩
 case round=>
  obtain ⟨i,rfl,hi4,hg,hVi,rfl⟩:=hrel;by_cases hi:i<xs.length
  ·have t1:(i:Int)<(xs.length:Int):=by omega
   have hv:=hVi.out;rw [valid_at xs i hi] at hv;have K:=runeAt xs hl i hi wr;have hrl:runeN (xs.length-i) (bt' xs i) (bt' xs (i+1)) (bt' xs (i+2)) (bt' xs (i+3))≤4:=by unfold runeN;repeat' split<;>try omega
   generalize runeN (xs.length-i) (bt' xs i) (bt' xs (i+1)) (bt' xs (i+2)) (bt' xs (i+3))=n at *
   replace K:=Hz K;obtain ⟨g,rfl⟩: ∃g,gk=g+1:=⟨gk-1,by omega⟩
   by_cases hn:n=0
   ·subst hn;rw [if_pos rfl] at hv;subst hv;clear hVi;go_wp2_with fail
    refine K.out.mono ?_
    rintro e w1 ⟨rfl,rfl⟩;go_wp2;go_ret
    exact ⟨rfl,rfl⟩
   ·rw [if_neg hn] at hv;have t2: ¬(n:Int)=0:=by omega
    replace hv:=Hz hv;clear hVi;go_wp2_with fail
    refine K.out.mono ?_
    rintro e w1 ⟨rfl,rfl⟩;go_wp2
    go_roundg g
    case measure=>omega
    case rel=>exact ⟨i+n,by go_num,by omega,by omega,hv,rfl⟩
  ·have t1: ¬(i:Int)<(xs.length:Int):=by omega
   have hv:=hVi.out;rw [List.drop_eq_nil_of_le (by omega)] at hv
   obtain rfl:V=true:=hv;clear hVi;go_wp2;go_ret
   exact ⟨rfl,rfl⟩
end
end Go.Proofs.YteodinhkhhaafaaGreatDoor
