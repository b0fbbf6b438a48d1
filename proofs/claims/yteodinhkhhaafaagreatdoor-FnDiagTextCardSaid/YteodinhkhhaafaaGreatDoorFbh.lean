/- Walks of the program, and plain facts. -/
import Derived.Test.YteodinhkhhaafaaGreatDoorFbf
import Derived.Test.YteodinhkhhaafaaGreatDoorFbd
set_option linter.unusedVariables false
set_option linter.unusedSimpArgs false
set_option maxRecDepth 100000
set_option maxHeartbeats 6400000
namespace Go.Proofs.YteodinhkhhaafaaGreatDoor
section
set_option exponentiation.threshold 3000
open Go.RowKit
theorem or_lo (k:Nat) {a b n:Nat} (hn:n=2^k) (hb:b<n) (h:a*n+b<18446744073709551616):bits .or .u64 ((a*n:Nat):Int) (b:Int)=((a*n+b:Nat):Int):=by
 have h1:=u64_or_nat (a*n) b (by omega) (by omega)
 subst hn;have t:=Nat.two_pow_add_eq_or_of_lt (i:=k) (b:=b) hb a;rw [Nat.mul_comm (2^k) a] at t;rw [h1,t]
theorem widen_split16 (v S E F:Nat) (hS:S=v/32768%2) (hE:E=v/1024%32) (hF:F=v%1024):
  widen v 5 10=if E=31 then S*9223372036854775808+9218868437227405312+F*4398046511104 else if 0<E then S*9223372036854775808+(E+1008)*4503599627370496+F*4398046511104
   else if F=0 then S*9223372036854775808 else S*9223372036854775808+(1009-(10-Nat.log2 F))*4503599627370496+(F*2^(10-Nat.log2 F)-1024)*4398046511104:=by
 unfold widen;rw [show (2:Nat)^10=1024 by decide,show (2:Nat)^5=32 by decide,show (2:Nat)^(5+10)=32768 by decide,show (2:Nat)^63=9223372036854775808 by decide,show (2:Nat)^52=4503599627370496 by decide,show (2:Nat)^(52-10)=4398046511104 by decide,show (2:Nat)^(5-1)=16 by decide]
 rw [←hS,←hE,←hF,show E+1024-16=E+1008 by omega]
theorem widened16 (v:Nat) (hv:v<65536) (w:World):Calls Tryz.prog 73 #[.int .u64 (v:Int),.int .i64 5,.int .i64 10] w fun e w'=>e= .returned (.int .u64 (widen v 5 10:Int))∧Fr [] w w':=by
 obtain ⟨S,hS⟩: ∃S,S=v/32768%2:=⟨_,rfl⟩;obtain ⟨E,hE⟩: ∃E,E=v/1024%32:=⟨_,rfl⟩;obtain ⟨F,hF⟩: ∃F,F=v%1024:=⟨_,rfl⟩;have hw:=Hz (widen_split16 v S E F hS hE hF);have bS:S≤1:=by omega
 have bE:E≤31:=by omega
 have bF:F<1024:=by omega
 have a1:bits .and .u64 ((v:Int)/32768) 1=(S:Int):=by
  have h:=u64_and_nat (v/32768) 1 (by omega) (by omega)
  rw [show v/32768&&&1=v/32768%2 from Nat.and_two_pow_sub_one_eq_mod (v/32768) 1,←hS,show ((v/32768:Nat):Int)=(v:Int)/32768 by omega] at h
  exact h
 have a2:bits .and .u64 ((v:Int)/1024) 31=(E:Int):=by
  have h:=u64_and_nat (v/1024) 31 (by omega) (by omega)
  rw [show v/1024&&&31=v/1024%32 from Nat.and_two_pow_sub_one_eq_mod (v/1024) 5,←hE,show ((v/1024:Nat):Int)=(v:Int)/1024 by omega] at h
  exact h
 have a3:bits .and .u64 (v:Int) 1023=(F:Int):=by
  have h:=u64_and_nat v 1023 (by omega) (by omega)
  rw [show v&&&1023=v%1024 from Nat.and_two_pow_sub_one_eq_mod v 10,←hF] at h
  exact h
 clear hS hE hF;obtain ⟨P,hP⟩: ∃P,P=S*9223372036854775808:=⟨_,rfl⟩;have c1:IntKind.u64.wrap ((S:Int)*9223372036854775808)=(P:Int):=by rw [IntWalk.u64_in _ (by omega)];omega
 obtain ⟨G,hG⟩: ∃G,G=F*4398046511104:=⟨_,rfl⟩;have c2:IntKind.u64.wrap ((F:Int)*4398046511104)=(G:Int):=by rw [IntWalk.u64_in _ (by omega)];omega
 obtain ⟨R,hR⟩: ∃R,R=widen v 5 10:=⟨_,rfl⟩;rw [←hR] at hw ⊢;replace hR:=Hz hR;by_cases h1:E=31
 ·have e1:R=P+9218868437227405312+G:=by rw [hw.out,if_pos h1,hP,hG]
  have t1:((E:Int)==31)=true:=by simp;omega
  have o1:bits .or .u64 (P:Int) 9218868437227405312=((P+9218868437227405312:Nat):Int):=by
   have:=or_lo 63 (a:=S) (b:=9218868437227405312) (n:=9223372036854775808) (by decide) (by decide) (by omega)
   rw [←hP] at this;exact this
  have o2:bits .or .u64 ((P+9218868437227405312:Nat):Int) (G:Int)=(R:Int):=by
   have:=or_lo 52 (a:=S*2048+2047) (b:=G) (n:=4503599627370496) (by decide) (by omega) (by omega)
   rw [show (S*2048+2047)*4503599627370496=P+9218868437227405312 by omega] at this
   rw [this,e1]
  have u1:(E:Int)=31:=by omega
  replace hw:=Hz hw;replace e1:=Hz e1;replace hP:=Hz hP;replace hG:=Hz hG;obtain ⟨Q,hQ⟩: ∃Q,Q=P+9218868437227405312:=⟨_,rfl⟩;rw [←hQ] at o1 o2;replace hQ:=Hz hQ;clear h1 u1 bS bE bF;go_enter Tryz.func73,Tryz.ntmps73
  go_wp2
  go_quiet (fail)
  go_wp2;go_ret
  exact ⟨rfl,(Fr.refl [] w).drewN _⟩
 ·have t1:((E:Int)==31)=false:=by simp;omega
  have u1: ¬(E:Int)=31:=by omega
  by_cases h2:0<E
  ·obtain ⟨D,hD⟩: ∃D,D=(E+1008)*4503599627370496:=⟨_,rfl⟩;have e1:R=P+D+G:=by rw [hw.out,if_neg h1,if_pos h2,hP,hG,hD]
   have t2:(0:Int)<(E:Int):=by omega
   have c3:IntKind.u64.wrap ((E:Int)+1023)=(E:Int)+1023:=IntWalk.u64_in _ (by omega)
   have c4:IntKind.u64.wrap ((E:Int)+1023-15)=(E:Int)+1008:=by rw [IntWalk.u64_in _ (by omega)];omega
   have c5:IntKind.u64.wrap (((E:Int)+1008)*4503599627370496)=(D:Int):=by rw [IntWalk.u64_in _ (by omega)];omega
   have o1:bits .or .u64 (P:Int) (D:Int)=((P+D:Nat):Int):=by
    have:=or_lo 63 (a:=S) (b:=D) (n:=9223372036854775808) (by decide) (by omega) (by omega)
    rw [←hP] at this;exact this
   have o2:bits .or .u64 ((P+D:Nat):Int) (G:Int)=(R:Int):=by
    have:=or_lo 52 (a:=S*2048+E+1008) (b:=G) (n:=4503599627370496) (by decide) (by omega) (by omega)
    rw [show (S*2048+E+1008)*4503599627370496=P+D by omega] at this
    rw [this,e1]
   obtain ⟨Q,hQ⟩: ∃Q,Q=P+D:=⟨_,rfl⟩;rw [←hQ] at o1 o2;replace hQ:=Hz hQ;replace hw:=Hz hw;replace e1:=Hz e1;replace hP:=Hz hP;replace hG:=Hz hG;replace hD:=Hz hD;clear h1 h2 bS bE bF;go_enter Tryz.func73,Tryz.ntmps73
   go_wp2
   go_quiet (fail)
   go_wp2;go_ret
   exact ⟨rfl,(Fr.refl [] w).drewN _⟩
  ·have h0:E=0:=by omega
   subst h0;by_cases h3:F=0
   ·have e1:R=P:=by rw [hw.out,if_neg h1,if_neg h2,if_pos h3,hP]
    subst h3;subst e1;replace hP:=Hz hP;replace hG:=Hz hG;clear h1 h2 bS bE bF hw;go_enter Tryz.func73,Tryz.ntmps73
    go_wp2
    go_quiet (fail)
    go_wp2;go_ret
    exact ⟨rfl,(Fr.refl [] w).drewN _⟩
   ·have t3:((F:Int)==0)=false:=by simp;omega
    have u3: ¬(F:Int)=0:=by omega
    have l1:F<2^(Nat.log2 F+1):=Nat.lt_log2_self;have l2:2^Nat.log2 F≤F:=Nat.log2_self_le h3;have l3:Nat.log2 F<10:=(Nat.log2_lt h3).2 bF;obtain ⟨J,hJ⟩: ∃J,J=10-Nat.log2 F:=⟨_,rfl⟩;have hJp:0<J∧J≤10:=by omega
    have key: ∀j,j≤J→(F*2^j<1024↔j<J)∧F*2^j<2048:=by
     intro j hj;have hp:(2:Nat)^j*2^Nat.log2 F=2^(j+Nat.log2 F):=(Nat.pow_add 2 j _).symm;have hq:(2:Nat)^j*2^(Nat.log2 F+1)=2^(j+(Nat.log2 F+1)):=(Nat.pow_add 2 j _).symm;have m1:F*2^j<2^(j+(Nat.log2 F+1)):=by rw [←hq,Nat.mul_comm];exact Nat.mul_lt_mul_of_pos_left l1 (Nat.pow_pos (by decide))
     have m2:2^(j+Nat.log2 F)≤F*2^j:=by rw [←hp,Nat.mul_comm F];exact Nat.mul_le_mul_left _ l2
     constructor
     ·constructor
      ·intro h;rcases Nat.lt_or_ge j J with h4|h4
       ·exact h4
       ·exfalso
        have:j+Nat.log2 F=10:=by omega
        rw [this,show (2:Nat)^10=1024 by decide] at m2
        omega
      ·intro h;have:=Nat.pow_le_pow_right (n:=2) (by decide) (show j+(Nat.log2 F+1)≤10 by omega)
       rw [show (2:Nat)^10=1024 by decide] at this
       omega
     ·have:=Nat.pow_le_pow_right (n:=2) (by decide) (show j+(Nat.log2 F+1)≤10+1 by omega)
      rw [show (2:Nat)^(10+1)=2048 by decide] at this
      omega
    have e1:R=P+(1009-J)*4503599627370496+(F*2^J-1024)*4398046511104:=by rw [hw.out,if_neg h1,if_neg h2,if_neg h3,hP,hJ]
    replace key:=Hz key;replace hw:=Hz hw;replace e1:=Hz e1;replace hJ:=Hz hJ;replace hG:=Hz hG;replace hP:=Hz hP;clear h1 h2 l1 l2 l3;go_enter Tryz.func73,Tryz.ntmps73
    go_wp2
    go_quiet (fail)
    go_wp2
    go_loopg [8,9] J (fun gk v8 v9 wr=> ∃j:Nat,v8= .int .u64 ((1009-j:Nat):Int)∧v9= .int .u64 ((F*2^j:Nat):Int)∧j+gk=J∧Hid (Fr [] w wr))
    case atStart=>exact ⟨0,by go_num,by simp,by omega,Hz ((Fr.refl [] w).drewN _)⟩
    case round=>
     obtain ⟨j,rfl,rfl,hjg,hFr⟩:=hrel;obtain ⟨k1,k2⟩:=key.out j (by omega)
     obtain ⟨Y,hY⟩: ∃Y,Y=F*2^j:=⟨_,rfl⟩;rw [←hY] at k1 k2 ⊢;obtain ⟨U,hU⟩: ∃U,U=1009-j:=⟨_,rfl⟩;rw [←hU];by_cases hj:j<J
     ·obtain ⟨k,rfl⟩: ∃k,gk=k+1:=⟨gk-1,by omega⟩
      have k3:=k1.2 hj;have t4:((Y:Int)/1024==0)=true:=by simp;omega
      have u4:(Y:Int)/1024=0:=by omega
      have c6:IntKind.u64.wrap ((Y:Int)*2)=((F*2^(j+1):Nat):Int):=by
       rw [IntWalk.u64_in _ (by omega),Nat.pow_succ,←Nat.mul_assoc,←hY];omega
      have c7:IntKind.u64.wrap ((U:Int)-1)=((1009-(j+1):Nat):Int):=by rw [IntWalk.u64_in _ (by omega)];omega
      obtain ⟨Y2,hY2⟩: ∃Y2,Y2=F*2^(j+1):=⟨_,rfl⟩;obtain ⟨U2,hU2⟩: ∃U2,U2=1009-(j+1):=⟨_,rfl⟩;rw [←hY2] at c6;rw [←hU2] at c7;replace hY:=Hz hY;replace hU:=Hz hU;replace hY2:=Hz hY2;replace hU2:=Hz hU2;clear k1 k2 k3;go_wp2
      go_roundg k
      case measure=>omega
      case rel=>exact ⟨j+1,by rw [hU2.out],by rw [hY2.out],by omega,hFr⟩
     ·have hjJ:j=J:=by omega
      have k3: ¬Y<1024:=fun h=>hj (k1.1 h)
      have t4:((Y:Int)/1024==0)=false:=by simp;omega
      have u4: ¬(Y:Int)/1024=0:=by omega
      have a4:bits .and .u64 (Y:Int) 1023=((Y-1024:Nat):Int):=by
       have h:=u64_and_nat Y 1023 (by omega) (by omega)
       rw [show Y&&&1023=Y%1024 from Nat.and_two_pow_sub_one_eq_mod Y 10,show Y%1024=Y-1024 by omega] at h
       exact h
      obtain ⟨Z,hZ⟩: ∃Z,Z=Y-1024:=⟨_,rfl⟩;rw [←hZ] at a4;obtain ⟨D,hD⟩: ∃D,D=U*4503599627370496:=⟨_,rfl⟩;have c5:IntKind.u64.wrap ((U:Int)*4503599627370496)=(D:Int):=by rw [IntWalk.u64_in _ (by omega)];omega
      obtain ⟨G2,hG2⟩: ∃G2,G2=Z*4398046511104:=⟨_,rfl⟩;have c8:IntKind.u64.wrap ((Z:Int)*4398046511104)=(G2:Int):=by rw [IntWalk.u64_in _ (by omega)];omega
      have e2:R=P+D+G2:=by rw [e1.out,hD,hG2,hZ,hY,hU,hjJ]
      have o1:bits .or .u64 (P:Int) (D:Int)=((P+D:Nat):Int):=by
       have hP:=hP.out;have:=or_lo 63 (a:=S) (b:=D) (n:=9223372036854775808) (by decide) (by omega) (by omega)
       rw [←hP] at this;exact this
      have o2:bits .or .u64 ((P+D:Nat):Int) (G2:Int)=(R:Int):=by
       have hP:=hP.out;have:=or_lo 52 (a:=S*2048+U) (b:=G2) (n:=4503599627370496) (by decide) (by omega) (by omega)
       rw [show (S*2048+U)*4503599627370496=P+D by omega] at this
       rw [this,e2]
      obtain ⟨Q,hQ⟩: ∃Q,Q=P+D:=⟨_,rfl⟩;rw [←hQ] at o1 o2;replace hQ:=Hz hQ;replace hY:=Hz hY;replace hU:=Hz hU;replace hZ:=Hz hZ;replace hD:=Hz hD;replace hG2:=Hz hG2;replace e2:=Hz e2;clear k1 k2 k3 hj hjJ;go_wp2;go_ret
      exact ⟨rfl,hFr.out⟩
theorem widen_split32 (v S E F:Nat) (hS:S=v/2147483648%2) (hE:E=v/8388608%256) (hF:F=v%8388608):
  widen v 8 23=if E=255 then S*9223372036854775808+9218868437227405312+F*536870912 else if 0<E then S*9223372036854775808+(E+896)*4503599627370496+F*536870912
   else if F=0 then S*9223372036854775808 else S*9223372036854775808+(897-(23-Nat.log2 F))*4503599627370496+(F*2^(23-Nat.log2 F)-8388608)*536870912:=by
 unfold widen;rw [show (2:Nat)^23=8388608 by decide,show (2:Nat)^8=256 by decide,show (2:Nat)^(8+23)=2147483648 by decide,show (2:Nat)^63=9223372036854775808 by decide,show (2:Nat)^52=4503599627370496 by decide,show (2:Nat)^(52-23)=536870912 by decide,show (2:Nat)^(8-1)=128 by decide]
 rw [←hS,←hE,←hF,show E+1024-128=E+896 by omega]
theorem widened32 (v:Nat) (hv:v<4294967296) (w:World):Calls Tryz.prog 73 #[.int .u64 (v:Int),.int .i64 8,.int .i64 23] w fun e w'=>e= .returned (.int .u64 (widen v 8 23:Int))∧Fr [] w w':=by
 obtain ⟨S,hS⟩: ∃S,S=v/2147483648%2:=⟨_,rfl⟩;obtain ⟨E,hE⟩: ∃E,E=v/8388608%256:=⟨_,rfl⟩;obtain ⟨F,hF⟩: ∃F,F=v%8388608:=⟨_,rfl⟩;have hw:=Hz (widen_split32 v S E F hS hE hF);have bS:S≤1:=by omega
 have bE:E≤255:=by omega
 have bF:F<8388608:=by omega
 have a1:bits .and .u64 ((v:Int)/2147483648) 1=(S:Int):=by
  have h:=u64_and_nat (v/2147483648) 1 (by omega) (by omega)
  rw [show v/2147483648&&&1=v/2147483648%2 from Nat.and_two_pow_sub_one_eq_mod (v/2147483648) 1,←hS,show ((v/2147483648:Nat):Int)=(v:Int)/2147483648 by omega] at h
  exact h
 have a2:bits .and .u64 ((v:Int)/8388608) 255=(E:Int):=by
  have h:=u64_and_nat (v/8388608) 255 (by omega) (by omega)
  rw [show v/8388608&&&255=v/8388608%256 from Nat.and_two_pow_sub_one_eq_mod (v/8388608) 8,←hE,show ((v/8388608:Nat):Int)=(v:Int)/8388608 by omega] at h
  exact h
 have a3:bits .and .u64 (v:Int) 8388607=(F:Int):=by
  have h:=u64_and_nat v 8388607 (by omega) (by omega)
  rw [show v&&&8388607=v%8388608 from Nat.and_two_pow_sub_one_eq_mod v 23,←hF] at h
  exact h
 clear hS hE hF;obtain ⟨P,hP⟩: ∃P,P=S*9223372036854775808:=⟨_,rfl⟩;have c1:IntKind.u64.wrap ((S:Int)*9223372036854775808)=(P:Int):=by rw [IntWalk.u64_in _ (by omega)];omega
 obtain ⟨G,hG⟩: ∃G,G=F*536870912:=⟨_,rfl⟩;have c2:IntKind.u64.wrap ((F:Int)*536870912)=(G:Int):=by rw [IntWalk.u64_in _ (by omega)];omega
 obtain ⟨R,hR⟩: ∃R,R=widen v 8 23:=⟨_,rfl⟩;rw [←hR] at hw ⊢;replace hR:=Hz hR;by_cases h1:E=255
 ·have e1:R=P+9218868437227405312+G:=by rw [hw.out,if_pos h1,hP,hG]
  have t1:((E:Int)==255)=true:=by simp;omega
  have o1:bits .or .u64 (P:Int) 9218868437227405312=((P+9218868437227405312:Nat):Int):=by
   have:=or_lo 63 (a:=S) (b:=9218868437227405312) (n:=9223372036854775808) (by decide) (by decide) (by omega)
   rw [←hP] at this;exact this
  have o2:bits .or .u64 ((P+9218868437227405312:Nat):Int) (G:Int)=(R:Int):=by
   have:=or_lo 52 (a:=S*2048+2047) (b:=G) (n:=4503599627370496) (by decide) (by omega) (by omega)
   rw [show (S*2048+2047)*4503599627370496=P+9218868437227405312 by omega] at this
   rw [this,e1]
  have u1:(E:Int)=255:=by omega
  replace hw:=Hz hw;replace e1:=Hz e1;replace hP:=Hz hP;replace hG:=Hz hG;obtain ⟨Q,hQ⟩: ∃Q,Q=P+9218868437227405312:=⟨_,rfl⟩;rw [←hQ] at o1 o2;replace hQ:=Hz hQ;clear h1 u1 bS bE bF;go_enter Tryz.func73,Tryz.ntmps73
  go_wp2
  go_quiet (fail)
  go_wp2;go_ret
  exact ⟨rfl,(Fr.refl [] w).drewN _⟩
 ·have t1:((E:Int)==255)=false:=by simp;omega
  have u1: ¬(E:Int)=255:=by omega
  by_cases h2:0<E
  ·obtain ⟨D,hD⟩: ∃D,D=(E+896)*4503599627370496:=⟨_,rfl⟩;have e1:R=P+D+G:=by rw [hw.out,if_neg h1,if_pos h2,hP,hG,hD]
   have t2:(0:Int)<(E:Int):=by omega
   have c3:IntKind.u64.wrap ((E:Int)+1023)=(E:Int)+1023:=IntWalk.u64_in _ (by omega)
   have c4:IntKind.u64.wrap ((E:Int)+1023-127)=(E:Int)+896:=by rw [IntWalk.u64_in _ (by omega)];omega
   have c5:IntKind.u64.wrap (((E:Int)+896)*4503599627370496)=(D:Int):=by rw [IntWalk.u64_in _ (by omega)];omega
   have o1:bits .or .u64 (P:Int) (D:Int)=((P+D:Nat):Int):=by
    have:=or_lo 63 (a:=S) (b:=D) (n:=9223372036854775808) (by decide) (by omega) (by omega)
    rw [←hP] at this;exact this
   have o2:bits .or .u64 ((P+D:Nat):Int) (G:Int)=(R:Int):=by
    have:=or_lo 52 (a:=S*2048+E+896) (b:=G) (n:=4503599627370496) (by decide) (by omega) (by omega)
    rw [show (S*2048+E+896)*4503599627370496=P+D by omega] at this
    rw [this,e1]
   obtain ⟨Q,hQ⟩: ∃Q,Q=P+D:=⟨_,rfl⟩;rw [←hQ] at o1 o2;replace hQ:=Hz hQ;replace hw:=Hz hw;replace e1:=Hz e1;replace hP:=Hz hP;replace hG:=Hz hG;replace hD:=Hz hD;clear h1 h2 bS bE bF;go_enter Tryz.func73,Tryz.ntmps73
   go_wp2
   go_quiet (fail)
   go_wp2;go_ret
   exact ⟨rfl,(Fr.refl [] w).drewN _⟩
  ·have h0:E=0:=by omega
   subst h0;by_cases h3:F=0
   ·have e1:R=P:=by rw [hw.out,if_neg h1,if_neg h2,if_pos h3,hP]
    subst h3;subst e1;replace hP:=Hz hP;replace hG:=Hz hG;clear h1 h2 bS bE bF hw;go_enter Tryz.func73,Tryz.ntmps73
    go_wp2
    go_quiet (fail)
    go_wp2;go_ret
    exact ⟨rfl,(Fr.refl [] w).drewN _⟩
   ·have t3:((F:Int)==0)=false:=by simp;omega
    have u3: ¬(F:Int)=0:=by omega
    have l1:F<2^(Nat.log2 F+1):=Nat.lt_log2_self;have l2:2^Nat.log2 F≤F:=Nat.log2_self_le h3;have l3:Nat.log2 F<23:=(Nat.log2_lt h3).2 bF;obtain ⟨J,hJ⟩: ∃J,J=23-Nat.log2 F:=⟨_,rfl⟩;have hJp:0<J∧J≤23:=by omega
    have key: ∀j,j≤J→(F*2^j<8388608↔j<J)∧F*2^j<16777216:=by
     intro j hj;have hp:(2:Nat)^j*2^Nat.log2 F=2^(j+Nat.log2 F):=(Nat.pow_add 2 j _).symm;have hq:(2:Nat)^j*2^(Nat.log2 F+1)=2^(j+(Nat.log2 F+1)):=(Nat.pow_add 2 j _).symm;have m1:F*2^j<2^(j+(Nat.log2 F+1)):=by rw [←hq,Nat.mul_comm];exact Nat.mul_lt_mul_of_pos_left l1 (Nat.pow_pos (by decide))
     have m2:2^(j+Nat.log2 F)≤F*2^j:=by rw [←hp,Nat.mul_comm F];exact Nat.mul_le_mul_left _ l2
     constructor
     ·constructor
      ·intro h;rcases Nat.lt_or_ge j J with h4|h4
       ·exact h4
       ·exfalso
        have:j+Nat.log2 F=23:=by omega
        rw [this,show (2:Nat)^23=8388608 by decide] at m2
        omega
      ·intro h;have:=Nat.pow_le_pow_right (n:=2) (by decide) (show j+(Nat.log2 F+1)≤23 by omega)
       rw [show (2:Nat)^23=8388608 by decide] at this
       omega
     ·have:=Nat.pow_le_pow_right (n:=2) (by decide) (show j+(Nat.log2 F+1)≤23+1 by omega)
      rw [show (2:Nat)^(23+1)=16777216 by decide] at this
      omega
    have e1:R=P+(897-J)*4503599627370496+(F*2^J-8388608)*536870912:=by rw [hw.out,if_neg h1,if_neg h2,if_neg h3,hP,hJ]
    replace key:=Hz key;replace hw:=Hz hw;replace e1:=Hz e1;replace hJ:=Hz hJ;replace hG:=Hz hG;replace hP:=Hz hP;clear h1 h2 l1 l2 l3;go_enter Tryz.func73,Tryz.ntmps73
    go_wp2
    go_quiet (fail)
    go_wp2
    go_loopg [8,9] J (fun gk v8 v9 wr=> ∃j:Nat,v8= .int .u64 ((897-j:Nat):Int)∧v9= .int .u64 ((F*2^j:Nat):Int)∧j+gk=J∧Hid (Fr [] w wr))
    case atStart=>exact ⟨0,by go_num,by simp,by omega,Hz ((Fr.refl [] w).drewN _)⟩
    case round=>
     obtain ⟨j,rfl,rfl,hjg,hFr⟩:=hrel;obtain ⟨k1,k2⟩:=key.out j (by omega)
     obtain ⟨Y,hY⟩: ∃Y,Y=F*2^j:=⟨_,rfl⟩;rw [←hY] at k1 k2 ⊢;obtain ⟨U,hU⟩: ∃U,U=897-j:=⟨_,rfl⟩;rw [←hU];by_cases hj:j<J
     ·obtain ⟨k,rfl⟩: ∃k,gk=k+1:=⟨gk-1,by omega⟩
      have k3:=k1.2 hj;have t4:((Y:Int)/8388608==0)=true:=by simp;omega
      have u4:(Y:Int)/8388608=0:=by omega
      have c6:IntKind.u64.wrap ((Y:Int)*2)=((F*2^(j+1):Nat):Int):=by
       rw [IntWalk.u64_in _ (by omega),Nat.pow_succ,←Nat.mul_assoc,←hY];omega
      have c7:IntKind.u64.wrap ((U:Int)-1)=((897-(j+1):Nat):Int):=by rw [IntWalk.u64_in _ (by omega)];omega
      obtain ⟨Y2,hY2⟩: ∃Y2,Y2=F*2^(j+1):=⟨_,rfl⟩;obtain ⟨U2,hU2⟩: ∃U2,U2=897-(j+1):=⟨_,rfl⟩;rw [←hY2] at c6;rw [←hU2] at c7;replace hY:=Hz hY;replace hU:=Hz hU;replace hY2:=Hz hY2;replace hU2:=Hz hU2;clear k1 k2 k3;go_wp2
      go_roundg k
      case measure=>omega
      case rel=>exact ⟨j+1,by rw [hU2.out],by rw [hY2.out],by omega,hFr⟩
     ·have hjJ:j=J:=by omega
      have k3: ¬Y<8388608:=fun h=>hj (k1.1 h)
      have t4:((Y:Int)/8388608==0)=false:=by simp;omega
      have u4: ¬(Y:Int)/8388608=0:=by omega
      have a4:bits .and .u64 (Y:Int) 8388607=((Y-8388608:Nat):Int):=by
       have h:=u64_and_nat Y 8388607 (by omega) (by omega)
       rw [show Y&&&8388607=Y%8388608 from Nat.and_two_pow_sub_one_eq_mod Y 23,show Y%8388608=Y-8388608 by omega] at h
       exact h
      obtain ⟨Z,hZ⟩: ∃Z,Z=Y-8388608:=⟨_,rfl⟩;rw [←hZ] at a4;obtain ⟨D,hD⟩: ∃D,D=U*4503599627370496:=⟨_,rfl⟩;have c5:IntKind.u64.wrap ((U:Int)*4503599627370496)=(D:Int):=by rw [IntWalk.u64_in _ (by omega)];omega
      obtain ⟨G2,hG2⟩: ∃G2,G2=Z*536870912:=⟨_,rfl⟩;have c8:IntKind.u64.wrap ((Z:Int)*536870912)=(G2:Int):=by rw [IntWalk.u64_in _ (by omega)];omega
      have e2:R=P+D+G2:=by rw [e1.out,hD,hG2,hZ,hY,hU,hjJ]
      have o1:bits .or .u64 (P:Int) (D:Int)=((P+D:Nat):Int):=by
       have hP:=hP.out;have:=or_lo 63 (a:=S) (b:=D) (n:=9223372036854775808) (by decide) (by omega) (by omega)
       rw [←hP] at this;exact this
      have o2:bits .or .u64 ((P+D:Nat):Int) (G2:Int)=(R:Int):=by
       have hP:=hP.out;have:=or_lo 52 (a:=S*2048+U) (b:=G2) (n:=4503599627370496) (by decide) (by omega) (by omega)
       rw [show (S*2048+U)*4503599627370496=P+D by omega] at this
       rw [this,e2]
      obtain ⟨Q,hQ⟩: ∃Q,Q=P+D:=⟨_,rfl⟩;rw [←hQ] at o1 o2;replace hQ:=Hz hQ;replace hY:=Hz hY;replace hU:=Hz hU;replace hZ:=Hz hZ;replace hD:=Hz hD;replace hG2:=Hz hG2;replace e2:=Hz e2;clear k1 k2 k3 hj hjJ;go_wp2;go_ret
      exact ⟨rfl,hFr.out⟩
theorem fromHalf (v:Nat) (hv:v<65536) (w:World):Calls Tryz.prog 40 #[.int .u16 (v:Int)] w fun e w'=>e= .returned (.int .u64 (widen v 5 10:Int))∧Fr [] w w':=by
 have s0:IntKind.u64.wrap (v:Int)=(v:Int):=IntWalk.u64_in _ (by omega)
 have K:=Hz (fun W=>widened16 v hv W)
 go_enter Tryz.func40,Tryz.ntmps40
 go_wp2_with (go_at_call 73;refine (K.out _).mono ?_;rintro e w1 ⟨rfl,hf⟩)
 go_ret
 exact ⟨rfl,hf⟩
theorem fromSingle (v:Nat) (hv:v<4294967296) (w:World):Calls Tryz.prog 41 #[.int .u32 (v:Int)] w fun e w'=>e= .returned (.int .u64 (widen v 8 23:Int))∧Fr [] w w':=by
 have s0:IntKind.u64.wrap (v:Int)=(v:Int):=IntWalk.u64_in _ (by omega)
 have K:=Hz (fun W=>widened32 v hv W)
 go_enter Tryz.func41,Tryz.ntmps41
 go_wp2_with (go_at_call 73;refine (K.out _).mono ?_;rintro e w1 ⟨rfl,hf⟩)
 go_ret
 exact ⟨rfl,hf⟩
end
section
set_option exponentiation.threshold 3000
open Go.RowKit
def narrowF (b ex fr:Nat):Option Nat:=
 if b/2^52%2048=2047 then some (b/2^63*2^(ex+fr)+(2^ex-1)*2^fr+b%2^52/2^(52-fr))
 else if 1023+(2^ex-1)≤b/2^52%2048+(2^(ex-1)-1) then none
 else if 1023<b/2^52%2048+(2^(ex-1)-1) then some (b/2^63*2^(ex+fr)+(b/2^52%2048+(2^(ex-1)-1)-1023)*2^fr+b%2^52/2^(52-fr))
 else if b/2^52%2048=0∨b/2^52%2048+(2^(ex-1)-1)+fr<1023 then some (b/2^63*2^(ex+fr))
 else some (b/2^63*2^(ex+fr)+(2^52+b%2^52)/2^(52-fr+1+(1023-(b/2^52%2048+(2^(ex-1)-1)))))
theorem narrow_split16 (b S E F:Nat) (hS:S=b/9223372036854775808) (hE:E=b/4503599627370496%2048) (hF:F=b%4503599627370496):
  narrowF b 5 10=if E=2047 then some (S*32768+31744+F/4398046511104) else if 1039≤E then none
   else if 1008<E then some (S*32768+(E-1008)*1024+F/4398046511104) else if E=0∨E<998 then some (S*32768)
   else some (S*32768+(4503599627370496+F)/2^(43+(1008-E))):=by
 unfold narrowF;rw [show (2:Nat)^52=4503599627370496 by decide,show (2:Nat)^63=9223372036854775808 by decide,←hS,←hE,←hF]
 have e1:(1023+(2^5-1)≤E+(2^(5-1)-1))=(1039≤E):=propext ⟨fun h=>by omega,fun h=>by omega⟩
 have e2:(1023<E+(2^(5-1)-1))=(1008<E):=propext ⟨fun h=>by omega,fun h=>by omega⟩
 have e3:(E+(2^(5-1)-1)+10<1023)=(E<998):=propext ⟨fun h=>by omega,fun h=>by omega⟩
 have e4:E+(2^(5-1)-1)-1023=E-1008:=by omega
 have e5:52-10+1+(1023-(E+(2^(5-1)-1)))=43+(1008-E):=by omega
 simp only [e1,e2,e3,e4,e5]
theorem narrow_split32 (b S E F:Nat) (hS:S=b/9223372036854775808) (hE:E=b/4503599627370496%2048) (hF:F=b%4503599627370496):
  narrowF b 8 23=if E=2047 then some (S*2147483648+2139095040+F/536870912) else if 1151≤E then none
   else if 896<E then some (S*2147483648+(E-896)*8388608+F/536870912) else if E=0∨E<873 then some (S*2147483648)
   else some (S*2147483648+(4503599627370496+F)/2^(30+(896-E))):=by
 unfold narrowF;rw [show (2:Nat)^52=4503599627370496 by decide,show (2:Nat)^63=9223372036854775808 by decide,←hS,←hE,←hF]
 have e1:(1023+(2^8-1)≤E+(2^(8-1)-1))=(1151≤E):=propext ⟨fun h=>by omega,fun h=>by omega⟩
 have e2:(1023<E+(2^(8-1)-1))=(896<E):=propext ⟨fun h=>by omega,fun h=>by omega⟩
 have e3:(E+(2^(8-1)-1)+23<1023)=(E<873):=propext ⟨fun h=>by omega,fun h=>by omega⟩
 have e4:E+(2^(8-1)-1)-1023=E-896:=by omega
 have e5:52-23+1+(1023-(E+(2^(8-1)-1)))=30+(896-E):=by omega
 simp only [e1,e2,e3,e4,e5]
theorem log2_bounds {F:Nat} (h:0<F):2^Nat.log2 F≤F∧F<2^(Nat.log2 F+1):=⟨Nat.log2_self_le (by omega),Nat.lt_log2_self⟩
theorem sub_norm {F fr l q:Nat} (hl:l=Nat.log2 F) (hF:0<F) (hfr:F<2^fr):2^fr≤F*2^(fr-l)∧F*2^(fr-l)<2^(fr+1)∧l<fr∧F*2^(fr-l)*2^q/2^(q+(fr-l))=F:=by
 obtain ⟨h1,h2⟩:=log2_bounds hF;rw [←hl] at h1 h2;have hlf:l<fr:=by
  rcases Nat.lt_or_ge l fr with h|h
  ·exact h
  ·have:=Nat.pow_le_pow_right (n:=2) (by omega) h
   omega
 have e1:2^l*2^(fr-l)=2^fr:=by rw [←Nat.pow_add];congr 1;omega
 have e2:2^(l+1)*2^(fr-l)=2^(fr+1):=by rw [←Nat.pow_add];congr 1;omega
 have hp:0<2^(fr-l):=Nat.pow_pos (by decide)
 refine ⟨by rw [←e1];exact Nat.mul_le_mul_right _ h1,by rw [←e2];exact Nat.mul_lt_mul_of_pos_right h2 hp,hlf,?_⟩
 rw [Nat.mul_assoc,←Nat.pow_add,Nat.add_comm (fr-l) q];exact Nat.mul_div_cancel _ (Nat.pow_pos (by decide))
theorem narrow_widen16 (v:Nat) (hv:v<65536):narrowF (widen v 5 10) 5 10=some v:=by
 obtain ⟨S,hS⟩: ∃S,S=v/32768%2:=⟨_,rfl⟩;obtain ⟨E,hE⟩: ∃E,E=v/1024%32:=⟨_,rfl⟩;obtain ⟨F,hF⟩: ∃F,F=v%1024:=⟨_,rfl⟩;rw [widen_split16 v S E F hS hE hF];have ev:v=S*32768+E*1024+F:=by omega
 by_cases h1:E=31
 ·rw [if_pos h1];rw [narrow_split16 _ S 2047 (F*4398046511104) (by omega) (by omega) (by omega),if_pos rfl]
  congr 1
  omega
 ·rw [if_neg h1];by_cases h2:0<E
  ·rw [if_pos h2];rw [narrow_split16 _ S (E+1008) (F*4398046511104) (by omega) (by omega) (by omega),if_neg (by omega),if_neg (by omega),if_pos (by omega)]
   congr 1
   omega
  ·rw [if_neg h2];by_cases h3:F=0
   ·rw [if_pos h3];rw [narrow_split16 _ S 0 0 (by omega) (by omega) (by omega),if_neg (by omega),if_neg (by omega),if_neg (by omega),if_pos (.inl rfl)]
    congr 1
    omega
   ·rw [if_neg h3];obtain ⟨l,hl⟩: ∃l,l=Nat.log2 F:=⟨_,rfl⟩;obtain ⟨g1,g2,g3,g4⟩:=sub_norm (q:=42) (fr:=10) hl (by omega) (by omega)
    rw [←hl];have g5:42+(10-l)=43+(1008-(999+l)):=by omega
    rw [g5] at g4;generalize hY:F*2^(10-l)=Y at *
    rw [show (2:Nat)^10=1024 by decide] at g1
    rw [show (2:Nat)^(10+1)=2048 by decide] at g2
    rw [narrow_split16 _ S (999+l) ((Y-1024)*4398046511104) (by omega) (by omega) (by omega),if_neg (by omega),if_neg (by omega),if_neg (by omega),if_neg (by omega),
     show 4503599627370496+(Y-1024)*4398046511104=Y*2^42 by omega,g4]
    congr 1
    omega
theorem narrow_widen32 (v:Nat) (hv:v<4294967296):narrowF (widen v 8 23) 8 23=some v:=by
 obtain ⟨S,hS⟩: ∃S,S=v/2147483648%2:=⟨_,rfl⟩;obtain ⟨E,hE⟩: ∃E,E=v/8388608%256:=⟨_,rfl⟩;obtain ⟨F,hF⟩: ∃F,F=v%8388608:=⟨_,rfl⟩;rw [widen_split32 v S E F hS hE hF];have ev:v=S*2147483648+E*8388608+F:=by omega
 by_cases h1:E=255
 ·rw [if_pos h1];rw [narrow_split32 _ S 2047 (F*536870912) (by omega) (by omega) (by omega),if_pos rfl]
  congr 1
  omega
 ·rw [if_neg h1];by_cases h2:0<E
  ·rw [if_pos h2];rw [narrow_split32 _ S (E+896) (F*536870912) (by omega) (by omega) (by omega),if_neg (by omega),if_neg (by omega),if_pos (by omega)]
   congr 1
   omega
  ·rw [if_neg h2];by_cases h3:F=0
   ·rw [if_pos h3];rw [narrow_split32 _ S 0 0 (by omega) (by omega) (by omega),if_neg (by omega),if_neg (by omega),if_neg (by omega),if_pos (.inl rfl)]
    congr 1
    omega
   ·rw [if_neg h3];obtain ⟨l,hl⟩: ∃l,l=Nat.log2 F:=⟨_,rfl⟩;obtain ⟨g1,g2,g3,g4⟩:=sub_norm (q:=29) (fr:=23) hl (by omega) (by omega)
    rw [←hl];have g5:29+(23-l)=30+(896-(874+l)):=by omega
    rw [g5] at g4;generalize hY:F*2^(23-l)=Y at *
    rw [show (2:Nat)^23=8388608 by decide] at g1
    rw [show (2:Nat)^(23+1)=16777216 by decide] at g2
    rw [narrow_split32 _ S (874+l) ((Y-8388608)*536870912) (by omega) (by omega) (by omega),if_neg (by omega),if_neg (by omega),if_neg (by omega),if_neg (by omega),
     show 4503599627370496+(Y-8388608)*536870912=Y*2^29 by omega,g4]
    congr 1
    omega
end
section
set_option exponentiation.threshold 3000
open Go.RowKit
theorem read64 (b:Nat) (hb:b<18446744073709551616) (hf:b/4503599627370496%2048≠2047):Ieee.double.read b= .number (b/9223372036854775808==1) (fMant b) (fExp b-52):=by
 have e1:Ieee.double.signWeight=9223372036854775808:=by decide
 have e2:Ieee.double.binade=4503599627370496:=by decide
 have e3:Ieee.double.infRung=9218868437227405312:=by decide
 have e4:Ieee.double.leastPlace= -1074:=by decide
 unfold Ieee.Format.read;rw [e1,e2,e3,e4];dsimp only;have h2:b/9223372036854775808%2=b/9223372036854775808:=by omega
 rw [h2];unfold fMant fExp;by_cases h0:b/4503599627370496%2048=0
 ·rw [if_pos h0,if_pos h0,if_pos (by omega)]
  congr 1
  omega
 ·rw [if_neg h0,if_neg h0,if_neg (by omega),if_pos (by omega)]
  congr 1
  ·omega
  ·omega
theorem order_self (b:Nat) (hb:b<18446744073709551616) (hf:b/4503599627370496%2048≠2047):Ieee.double.order b b=some .eq:=by
 unfold Ieee.Format.order;rw [read64 b hb hf];simp [Ieee.Datum.order]
theorem fMant_lt (b:Nat):fMant b<9007199254740992:=by unfold fMant;split<;>omega
theorem fExp_le (b:Nat) (hf:b/4503599627370496%2048≠2047):fExp b-52≤971∧ -1074≤fExp b-52:=by unfold fExp;split<;>omega
theorem shl_le (m k:Nat) (h:m<9007199254740992):m≤9007199254740991<<<k:=by
 rw [Nat.shiftLeft_eq];have:=Nat.mul_le_mul (show m≤9007199254740991 by omega) (Nat.pow_pos (n:=k) (show 0<2 by decide))
 omega
theorem order_max (b:Nat) (hb:b<18446744073709551616) (hf:b/4503599627370496%2048≠2047):Ieee.double.order b 9218868437227405311≠some .gt∧Ieee.double.order b 18442240474082181119≠some .lt:=by
 have r1:Ieee.double.read 9218868437227405311= .number false 9007199254740991 971:=by decide
 have r2:Ieee.double.read 18442240474082181119= .number true 9007199254740991 971:=by decide
 have hm:=fMant_lt b;obtain ⟨he,_⟩:=fExp_le b hf;unfold Ieee.Format.order;rw [read64 b hb hf,r1,r2];generalize fMant b=m at *
 generalize fExp b-52=i at *
 generalize (b/9223372036854775808==1)=s at *
 have hk:=shl_le m (971-i).toNat hm;simp only [Ieee.Datum.order,Int.min_eq_left he];have h0:(i-i).toNat=0:=by omega
 rw [h0]
 constructor
 ·intro e;injection e with e
  rw [Int.compare_eq_gt] at e;unfold Ieee.signed at e;rw [Nat.shiftLeft_zero] at e;generalize 9007199254740991<<<(971-i).toNat=S at *
  cases s
  ·simp at e;omega
  ·simp at e;omega
 ·intro e;injection e with e
  rw [Int.compare_eq_lt] at e;unfold Ieee.signed at e;rw [Nat.shiftLeft_zero] at e;generalize 9007199254740991<<<(971-i).toNat=S at *
  cases s
  ·simp at e;omega
  ·simp at e;omega
def s2d (y:Nat):Nat:=Ieee.double.write (Ieee.single.read y)
theorem double_consts:Ieee.double.signWeight=9223372036854775808∧Ieee.double.binade=4503599627370496∧Ieee.double.infRung=9218868437227405312∧Ieee.double.leastPlace= -1074∧Ieee.double.fractionBits=52:=by decide
theorem cut0 (n:Nat) (s:Bool):Ieee.Toward.even.cut s n 0=n:=by
 unfold Ieee.Toward.cut;simp [Nat.mod_one]
theorem near64 (s:Bool) (m:Nat) (p:Int) (hm:0<m) (hm2:m<16777216) (hp1: -149≤p) (hp2:p≤104):
  Ieee.double.nearest s m p=(if s then 9223372036854775808 else 0)+(p+m.log2+1022).toNat*4503599627370496+m*2^(52-m.log2):=by
 obtain ⟨c1,c2,c3,c4,c5⟩:=double_consts;have hl:m.log2≤23:=by
  have:=(Nat.log2_lt (n:=m) (k:=24) (by omega)).2 (by omega)
  omega
 have hup:m<2^(m.log2+1):=Nat.lt_log2_self;have hlo:2^m.log2≤m:=Nat.log2_self_le (by omega)
 unfold Ieee.Format.nearest;rw [if_neg (by omega),c2,c3,c4,c5]
 dsimp only;have hmax:max (p+(m.log2:Int)-(52:Nat)) (-1074)=p+m.log2-52:=by omega
 rw [hmax,show (p-(p+(m.log2:Int)-52)).toNat=52-m.log2 by omega,show (p+(m.log2:Int)-52-p).toNat=0 by omega,cut0,Nat.shiftLeft_eq,show (p+(m.log2:Int)-52- -1074).toNat=(p+m.log2+1022).toNat by omega]
 have hkept:m*2^(52-m.log2)<9007199254740992:=by
  have h:=Nat.mul_lt_mul_of_pos_right hup (Nat.pow_pos (n:=52-m.log2) (show 0<2 by decide))
  rw [←Nat.pow_add,show m.log2+1+(52-m.log2)=53 by omega] at h
  exact h
 have hmin:min ((p+(m.log2:Int)+1022).toNat*4503599627370496+m*2^(52-m.log2)) 9218868437227405312=(p+m.log2+1022).toNat*4503599627370496+m*2^(52-m.log2):=by
  have:(p+(m.log2:Int)+1022).toNat≤1149:=by omega
  apply Nat.min_eq_left
  have h:=Nat.mul_le_mul_right 4503599627370496 this;clear hup hlo hmax;generalize m*2^(52-m.log2)=K at *
  generalize (p+(m.log2:Int)+1022).toNat=Q at *
  clear hl hp1 hp2 hm hm2 this c1 c2 c3 c4 c5;exact Nat.le_trans (Nat.add_le_add h (Nat.le_of_lt hkept)) (by decide)
 rw [hmin];unfold Ieee.Format.word;rw [c1];cases s
 ·simp
 ·simp;omega
theorem arith1 (sg l t:Nat) (h4:8388608≤t):sg+(873+l)*4503599627370496+t*536870912=sg+(874+l)*4503599627370496+(t-8388608)*536870912:=by omega
theorem arith2 (sg e f:Nat):sg+(e+895)*4503599627370496+(8388608+f)*536870912=sg+(e+1024-128)*4503599627370496+f*536870912:=by omega
theorem log2_23 (f:Nat) (h:f<8388608):(8388608+f).log2=23:=by
 have h1:=(Nat.log2_lt (n:=8388608+f) (k:=24) (by omega)).2 (by omega)
 have h2:=(Nat.le_log2 (n:=8388608+f) (k:=23) (by omega)).2 (by omega)
 omega
theorem s2d_wide (y:Nat) (hy:y<4294967296) (hf:y/8388608%256≠255):s2d y=widen y 8 23:=by
 have e1:Ieee.single.signWeight=2147483648:=by decide
 have e2:Ieee.single.binade=8388608:=by decide
 have e3:Ieee.single.infRung=2139095040:=by decide
 have e4:Ieee.single.leastPlace= -149:=by decide
 have h2:y/2147483648%2=y/2147483648:=by omega
 have hsg:(if (y/2147483648==1)=true then 9223372036854775808 else 0)=y/2147483648%2*9223372036854775808:=by
  rcases (show y/2147483648=0∨y/2147483648=1 by omega) with e|e
  ·rw [e];rfl
  ·rw [e];rfl
 unfold s2d Ieee.Format.read;rw [e1,e2,e3,e4];dsimp only;rw [h2];unfold widen;rw [show (2:Nat)^23=8388608 by decide,show (2:Nat)^8=256 by decide,show (2:Nat)^(8+23)=2147483648 by decide,show (2:Nat)^63=9223372036854775808 by decide,show (2:Nat)^52=4503599627370496 by decide,show (2:Nat)^(52-23)=536870912 by decide,show (2:Nat)^(8-1)=128 by decide]
 rw [if_neg hf];by_cases h0:y/8388608%256=0
 ·have hr:y%2147483648=y%8388608:=by omega
  rw [if_pos (by omega),if_neg (by omega),hr]
  show Ieee.double.nearest _ _ _=_
  have hm:=Nat.mod_lt y (show 0<8388608 by decide)
  generalize y%8388608=m at *
  by_cases hm0:m=0
  ·rw [if_pos hm0,hm0,←hsg];unfold Ieee.Format.nearest;rw [if_pos rfl];unfold Ieee.Format.word;rw [double_consts.1]
  ·rw [if_neg hm0,near64 _ m _ (by omega) (by omega) (by omega) (by omega),hsg]
   have hl:m.log2≤22:=by
    have:=(Nat.log2_lt (n:=m) (k:=23) (by omega)).2 (by omega)
    omega
   have hlo:2^m.log2≤m:=Nat.log2_self_le (by omega)
   have h3:m*2^(52-m.log2)=m*2^(23-m.log2)*536870912:=by
    rw [Nat.mul_assoc,show (536870912:Nat)=2^29 by decide,←Nat.pow_add]
    congr 2
    omega
   have h4:8388608≤m*2^(23-m.log2):=by
    have h:=Nat.mul_le_mul_right (2^(23-m.log2)) hlo;rw [←Nat.pow_add,show m.log2+(23-m.log2)=23 by omega] at h
    exact h
   rw [h3];generalize m*2^(23-m.log2)=t at *
   obtain ⟨sg,hsg2⟩: ∃sg,sg=y/2147483648%2*9223372036854775808:=⟨_,rfl⟩;rw [←hsg2];clear hsg2;generalize m.log2=l at *
   have:(-149+(l:Int)+1022).toNat=873+l:=by omega
   rw [this,show 1025-128-(23-l)=874+l by omega]
   exact arith1 sg l t h4
 ·rw [if_neg (by omega),if_pos (by omega),if_pos (by omega)]
  show Ieee.double.nearest _ _ _=_
  have hr:y%2147483648%8388608=y%8388608:=by omega
  rw [hr];have hm:=Nat.mod_lt y (show 0<8388608 by decide)
  have he:y%2147483648/8388608=y/8388608%256:=by omega
  rw [he];have hel:=Nat.mod_lt (y/8388608) (show 0<256 by decide)
  generalize y/8388608%256=e at *
  have hlog:=log2_23 (y%8388608) hm;rw [near64 _ _ _ (by omega) (by omega) (by omega) (by omega),hsg,hlog]
  have:(-149+((e-1:Nat):Int)+((23:Nat):Int)+1022).toNat=e+895:=by omega
  rw [this,show 52-23=29 by decide,show (2:Nat)^29=536870912 by decide]
  obtain ⟨sg,hsg2⟩: ∃sg,sg=y/2147483648%2*9223372036854775808:=⟨_,rfl⟩;rw [←hsg2];clear hsg2;exact arith2 sg e (y%8388608)
end
section
set_option exponentiation.threshold 3000
open Go.RowKit
theorem idx_at {c:UInt8}: ∀{l:List UInt8} {i:Nat} (h:i<l.length),(∀j,(hj:j<i)→l[j]'(by omega)≠c)→l[i]=c→idx c l=some i
 |[],i,h,_,_=>by simp at h
 |x::l,0,h,_,e=>by rw [idx,if_pos (by simpa using e)]
 |x::l,i+1,h,hn,e=>by
  rw [idx,if_neg (by simpa using hn 0 (by omega)),idx_at (l:=l) (i:=i) (by simpa using h) (fun j hj=>by simpa using hn (j+1) (by omega)) (by simpa using e)]
  rfl
def idxI (c:UInt8) (l:List UInt8):Int:=match idx c l with
 |some i=>(i:Int)
 |none=> -1
theorem indexByte {w:World} {g cap:Nat} {bs:List UInt8} (c:UInt8) (hrd:Rd w g 0 bs) (hl:bs.length≤1099511627776):
  Calls Tryz.prog 187 #[.slice (some ⟨g,0,none⟩) bs.length cap,.int .u8 (c.toNat:Int)] w fun e w'=>w'=w∧e= .returned (.int .i64 (idxI c bs)):=by
 replace hrd:=Hz hrd;go_enter Tryz.func187,Tryz.ntmps187
 go_wp2
 go_loopg [8] bs.length (fun gk v8 wr=> ∃i:Nat,v8= .int .i64 (i:Int)∧i+gk=bs.length∧Hid (∀j,j<i→ ∃hj:j<bs.length,bs[j]≠c)∧w=wr)
 case atStart=>exact ⟨0,by go_num,by omega,Hz (fun j hj=>by omega),rfl⟩
 case round=>
  obtain ⟨i,rfl,hig,hn,rfl⟩:=hrel;by_cases hi:i<bs.length
  ·obtain ⟨k,rfl⟩: ∃k,gk=k+1:=⟨gk-1,by omega⟩
   have hx:=hrd.out i hi;rw [Nat.zero_add] at hx;have t0:(i:Int)<(bs.length:Int):=by omega
   by_cases hc:bs[i]=c
   ·have e0:((bs[i].toNat:Int)==(c.toNat:Int))=true:=by simp [hc]
    have e1:(bs[i].toNat:Int)=(c.toNat:Int):=by rw [hc]
    have hr:idxI c bs=(i:Int):=by unfold idxI;rw [idx_at hi (fun j hj=>by obtain ⟨_,h⟩:=hn.out j hj;exact h) hc]
    go_wp2;go_ret
    exact ⟨rfl,by first|(rw [hr];rfl)|rfl⟩
   ·have e0:((bs[i].toNat:Int)==(c.toNat:Int))=false:=by
     simp only [beq_eq_false_iff_ne,ne_eq];intro e;exact hc (UInt8.toNat_inj.1 (by omega))
    have e1: ¬(bs[i].toNat:Int)=(c.toNat:Int):=by simpa using e0
    have hn2:Hid (∀j,j<i+1→ ∃hj:j<bs.length,bs[j]≠c):=Hz (fun j hj=>by
     by_cases e:j=i
     ·subst e;exact ⟨hi,hc⟩
     ·exact hn.out j (by omega))
    clear hc;go_wp2
    go_roundg k
    case measure=>omega
    case rel=>exact ⟨i+1,by go_num,by omega,hn2,rfl⟩
  ·have t0: ¬(i:Int)<(bs.length:Int):=by omega
   have hr:idxI c bs= -1:=by
    unfold idxI;rw [idx_none c bs (fun x hx=>by
     obtain ⟨j,hj,rfl⟩:=List.getElem_of_mem hx;obtain ⟨_,h⟩:=hn.out j (by omega)
     exact h)]
   go_wp2;go_ret
   exact ⟨rfl,by first|(rw [hr];rfl)|rfl⟩
end
section
set_option exponentiation.threshold 3000
open Go.RowKit
theorem fmtF_len (b:Nat) (e:Bool) (hR:(fR b).1.length≤100000∧(fR b).2≤100000∧ -100000≤(fR b).2):(fmtF b e).length≤1000001:=by
 obtain ⟨h1,h2,h3⟩:=hR;unfold fmtF;have hs:=sgn_len b;cases e
 ·have:=texT_len (fR b).1 (fR b).2 ((fR b).1.length-(fR b).2).toNat h2 (by omega)
  simp only [List.length_append];simp;omega
 ·have:=expT_len (fR b).1 (fR b).2 ((fR b).1.length-1) h2 h3 (by omega)
  simp only [List.length_append];simp;omega
theorem formatF (b:Nat) (e:Bool) (hb:b<18446744073709551616) (hfin:b/4503599627370496%2048≠2047) (he:e=true→0<fMant b) (w:World):
  Calls Tryz.prog 203 #[.float .f64 b,.int .u8 (if e then 101 else 102),.int .i64 (-1),.int .i64 64] w fun e' w'=>e'= .returned (.string ⟨(fmtF b e).toArray⟩)∧Fr [] w w':=by
 cases e
 ·exact formatT b hb hfin w
 ·exact formatE b hb hfin (he rfl) w
theorem appendFloat {w:World} {B:Nat} {v:Value} {bs:List UInt8} (b:Nat) (e:Bool) (hr:Row w B v bs) (hB:B≤w.heap.size) (hb:b<18446744073709551616) (hfin:b/4503599627370496%2048≠2047) (he:e=true→0<fMant b) (hl:bs.length+(fmtF b e).length≤140737488355328):
  Calls Tryz.prog 186 #[v,.float .f64 b,.int .u8 (if e then 101 else 102),.int .i64 (-1),.int .i64 64] w fun e' w'=> ∃v',e'= .returned v'∧Row w' B v' (bs++fmtF b e)∧Gr B [] w w':=by
 have KF:=Hz (formatF b e hb hfin he w);replace hb:=Hz hb;replace hfin:=Hz hfin;replace he:=Hz he;generalize (if e then (101:Int) else 102)=fm at *
 generalize fmtF b e=T at *
 obtain ⟨ao,n,c,rfl⟩:=hr.shape;go_enter Tryz.func186,Tryz.ntmps186
 go_wp2_with fail
 refine KF.out.mono ?_
 rintro e' w1 ⟨rfl,hf⟩;have hr1:=hr.fr hf (by simp)
 go_wp2_with (at_builtin;refine wpList_apStr rfl _ _ rfl (B:=B) _ bs T rfl rfl hr1 (Nat.le_trans hB hf.size) hl ?_)
 intro v' w' hr' hg;have hG:Gr B [] w w':=(Gr.of hf hB (by simp)).grown hg (Nat.le_trans hB hf.size) (fun k hk=> .inr (World.ownsRow.lt hr1 k hk).1)
 go_wp2;go_ret
 exact ⟨v',rfl,hr',hG⟩
end
section
set_option exponentiation.threshold 3000
open Go.RowKit
theorem u16_and_nat' (a b:Nat) (ha:a<65536) (hb:b<65536):bits .and .u16 (a:Int) (b:Int)=((a&&&b:Nat):Int):=by
 first|exact u16_and_nat a b ha hb|(have:=u16_and (a:Int) (b:Int) (by omega) (by omega) (by omega) (by omega);simpa using this)
theorem frombits (x:Nat) (w:World):Calls Tryz.prog 179 #[.int .u16 (x:Int)] w fun e w'=>e= .returned (.int .u16 (x:Int))∧w'=w:=by
 go_enter Tryz.func179,Tryz.ntmps179
 go_wp2;go_ret
 exact ⟨rfl,rfl⟩
theorem absF (b:Nat) (hb:b<18446744073709551616) (w:World):Calls Tryz.prog 185 #[.float .f64 b] w fun e w'=>e= .returned (.float .f64 (b%9223372036854775808))∧w'=w:=by
 have h:=u64_andNot_nat b 9223372036854775808 (by omega) (by omega)
 have h2:b&&&(18446744073709551615-9223372036854775808)=b%9223372036854775808:=by
  rw [show 18446744073709551615-9223372036854775808=2^63-1 by decide,Nat.and_two_pow_sub_one_eq_mod]
 rw [h2] at h;have h3:bits .andNot .u64 (b:Int) 9223372036854775808=((b%9223372036854775808:Nat):Int):=h;have x202:=fun w=>ext202 b w
 have x184:=fun w=>ext184 (b%9223372036854775808) w
 clear h h2;generalize b%9223372036854775808=a at *
 go_enter Tryz.func185,Tryz.ntmps185
 go_wp2;go_ret
 exact ⟨rfl,rfl⟩
theorem single_num (y:Nat) (hy:y<4294967296) (hf:y/8388608%256≠255): ∃s m e,Ieee.single.read y= .number s m e:=by
 have e1:Ieee.single.signWeight=2147483648:=by decide
 have e2:Ieee.single.binade=8388608:=by decide
 have e3:Ieee.single.infRung=2139095040:=by decide
 unfold Ieee.Format.read;rw [e1,e2,e3];dsimp only;by_cases h0:y%2147483648<8388608
 ·rw [if_pos h0];exact ⟨_,_,_,rfl⟩
 ·rw [if_neg h0,if_pos (by omega)];exact ⟨_,_,_,rfl⟩
theorem s2d_fin (y:Nat) (hy:y<4294967296) (hf:y/8388608%256≠255):s2d y<18446744073709551616∧s2d y/4503599627370496%2048≠2047:=by
 have key: ∀(sg E F:Nat),sg≤1→E≤1200→F<4503599627370496→sg*9223372036854775808+E*4503599627370496+F<18446744073709551616∧(sg*9223372036854775808+E*4503599627370496+F)/4503599627370496%2048≠2047:=by
  intro sg E F h1 h2 h3;omega
 rw [s2d_wide y hy hf];unfold widen;rw [show (2:Nat)^23=8388608 by decide,show (2:Nat)^8=256 by decide,show (2:Nat)^(8+23)=2147483648 by decide,show (2:Nat)^63=9223372036854775808 by decide,show (2:Nat)^52=4503599627370496 by decide,show (2:Nat)^(52-23)=536870912 by decide,show (2:Nat)^(8-1)=128 by decide]
 rw [if_neg hf];have hm:=Nat.mod_lt y (show 0<8388608 by decide)
 have hel:=Nat.mod_lt (y/8388608) (show 0<256 by decide)
 have hs:=Nat.mod_lt (y/2147483648) (show 0<2 by decide)
 split
 ·exact key _ _ _ (by omega) (by omega) (by omega)
 ·split
  ·have:=key (y/2147483648%2) 0 0 (by omega) (by omega) (by omega)
   rw [Nat.zero_mul,Nat.add_zero] at this;exact this
  ·rename_i h1 h2;refine key _ _ _ (by omega) (by omega) ?_
   generalize y%8388608=m at *
   have hup:m<2^(m.log2+1):=Nat.lt_log2_self;have hl:m.log2≤22:=by
    have:=(Nat.log2_lt (n:=m) (k:=23) (by omega)).2 (by omega)
    omega
   have h:=Nat.mul_lt_mul_of_pos_right hup (Nat.pow_pos (n:=23-m.log2) (show 0<2 by decide))
   rw [←Nat.pow_add,show m.log2+1+(23-m.log2)=24 by omega] at h
   have h':m*2^(23-m.log2)<16777216:=h;obtain ⟨t,ht⟩: ∃t,t=m*2^(23-m.log2):=⟨_,rfl⟩;rw [←ht] at h' ⊢;clear ht h hup;omega
theorem conv32 (y:Nat) (hy:y<4294967296) (hf:y/8388608%256≠255) (w:World):(convert 291 287 (.float .f32 y)).run Tryz.prog w= .ok (.float .f64 (s2d y)) w:=by
 obtain ⟨s,m,e,hr⟩:=single_num y hy hf;obtain ⟨f1,f2⟩:=s2d_fin y hy hf;have hc:(convert 291 287 (.float .f32 y)).run Tryz.prog w=(Conv.floatToFloat .f32 y .f64).run Tryz.prog w:=by
  simp [convert,run_underlying Tryz.underlying291,run_underlying Tryz.underlying287]
 rw [hc];have hd:FloatKind.f64.encode (.number s m e)=s2d y:=by unfold s2d;rw [hr];rfl
 have hn:(FloatKind.f64.decode (s2d y)).isInfinity=false:=by
  show (Ieee.double.read (s2d y)).isInfinity=false
  rw [read64 _ f1 f2]
  rfl
 unfold Conv.floatToFloat;rw [if_neg (by decide)]
 rw [show FloatKind.f32.decode y= .number s m e from hr]
 dsimp only;rw [hd,hn]
 rfl
end
section
set_option exponentiation.threshold 3000
open Go.RowKit
def wbits (ai v:Nat):Nat:=if ai=25 then s2d (h2s v) else if ai=26 then s2d v else v
def numOK (ai v:Nat):Prop:=(ai=25∧v<65536∧v/1024%32≠31)∨(ai=26∧v<4294967296∧v/8388608%256≠255)∨(ai=27∧v<18446744073709551616∧v/4503599627370496%2048≠2047)
theorem wbits_fin {ai v:Nat} (h:numOK ai v):wbits ai v<18446744073709551616∧wbits ai v/4503599627370496%2048≠2047∧wbits ai v=wide ai v:=by
 unfold wbits wide;rcases h with ⟨rfl,h1,h2⟩|⟨rfl,h1,h2⟩|⟨rfl,h1,h2⟩
 ·obtain ⟨e1,e2,e3⟩:=half_fin v h1 h2;obtain ⟨a,b⟩:=s2d_fin _ e2 e3;rw [if_pos rfl,if_pos rfl];exact ⟨a,b,by rw [s2d_wide _ e2 e3,e1]⟩
 ·obtain ⟨a,b⟩:=s2d_fin v h1 h2;rw [if_neg (by omega),if_pos rfl,if_neg (by omega),if_pos rfl]
  exact ⟨a,b,s2d_wide v h1 h2⟩
 ·rw [if_neg (by omega),if_neg (by omega),if_neg (by omega),if_neg (by omega)]
  exact ⟨h1,h2,rfl⟩
def ord (a b:Nat):Option Ordering:=Ieee.double.order a b
def useE (b:Nat):Bool:=(ord (b%9223372036854775808) 0 !=some .eq)&&((ord (b%9223372036854775808) 4517329193108106637==some .lt)||(ord (b%9223372036854775808) 4921056587992461136==some .gt||ord (b%9223372036854775808) 4921056587992461136==some .eq))
theorem useE_pos {b:Nat} (h:useE b=true):0<fMant b:=by
 rcases Nat.eq_zero_or_pos (fMant b) with h0|h0
 ·exfalso
  have hz:b%9223372036854775808=0:=by
   unfold fMant at h0
   split at h0<;>omega
  unfold useE at h;rw [hz] at h;have:ord 0 0=some .eq:=by decide
  rw [this] at h;simp at h
 ·exact h0
def preT (b:Nat):List UInt8:=if useE b then cleanE (fmtF b true) else fmtF b false
def fltB (b:Nat):List UInt8:=dotted (preT b)
def precT (pr:Bool) (ai:Nat):List UInt8:=if pr then [95,if ai=25 then 49 else if ai=26 then 50 else 51] else []
theorem isNaN16 (x:Nat) (hx:x<65536) (hf:x/1024%32≠31) (w:World):Calls Tryz.prog 180 #[.int .u16 (x:Int)] w fun e w'=>e= .returned (.bool false)∧w'=w:=by
 have h:=u16_and_nat' x 31744 hx (by omega)
 have h2:x&&&31744≠31744:=by
  intro e;have h3:(x&&&31744)/1024=x/1024&&&31:=by
   rw [show (1024:Nat)=2^10 by decide,←Nat.shiftRight_eq_div_pow,Nat.shiftRight_and_distrib,Nat.shiftRight_eq_div_pow]
   rfl
  rw [e,show (31:Nat)=2^5-1 by decide,Nat.and_two_pow_sub_one_eq_mod] at h3
  omega
 have h3:bits .and .u16 (x:Int) 31744=((x&&&31744:Nat):Int):=h;have t0:((((x&&&31744:Nat):Int))==31744)=false:=by simp;omega
 generalize x&&&31744=y at *
 have t1: ¬(y:Int)=31744:=by omega
 clear h h2;go_enter Tryz.func180,Tryz.ntmps180
 go_wp2;go_ret
 exact ⟨rfl,rfl⟩
theorem isInf16 (x:Nat) (s:Int) (hf:x/1024%32≠31) (w:World):Calls Tryz.prog 181 #[.int .u16 (x:Int),.int .i64 s] w fun e w'=>e= .returned (.bool false)∧w'=w:=by
 have t0:((x:Int)==31744)=false:=by simp;omega
 have t1: ¬(x:Int)=31744:=by omega
 have t2:((x:Int)==64512)=false:=by simp;omega
 have t3: ¬(x:Int)=64512:=by omega
 go_enter Tryz.func181,Tryz.ntmps181
 go_wp2;go_ret
 exact ⟨rfl,rfl⟩
theorem read32 (b:Nat) (hb:b<4294967296) (hf:b/8388608%256≠255): ∃m e,Ieee.single.read b= .number (b/2147483648==1) m e∧m<16777216∧e≤104:=by
 have e1:Ieee.single.signWeight=2147483648:=by decide
 have e2:Ieee.single.binade=8388608:=by decide
 have e3:Ieee.single.infRung=2139095040:=by decide
 have e4:Ieee.single.leastPlace= -149:=by decide
 have h2:b/2147483648%2=b/2147483648:=by omega
 unfold Ieee.Format.read;rw [e1,e2,e3,e4];dsimp only;rw [h2];by_cases h0:b%2147483648<8388608
 ·rw [if_pos h0];exact ⟨_,_,rfl,by omega,by omega⟩
 ·rw [if_neg h0,if_pos (by omega)];exact ⟨_,_,rfl,by omega,by omega⟩
theorem order_self32 (b:Nat) (hb:b<4294967296) (hf:b/8388608%256≠255):Ieee.single.order b b=some .eq:=by
 obtain ⟨m,e,h,_,_⟩:=read32 b hb hf;unfold Ieee.Format.order;rw [h];simp [Ieee.Datum.order]
theorem order_max32 (b:Nat) (hb:b<4294967296) (hf:b/8388608%256≠255):Ieee.single.order b 2139095039≠some .gt∧Ieee.single.order b 4286578687≠some .lt:=by
 have r1:Ieee.single.read 2139095039= .number false 16777215 104:=by decide
 have r2:Ieee.single.read 4286578687= .number true 16777215 104:=by decide
 obtain ⟨m,i,h,hm,he⟩:=read32 b hb hf;unfold Ieee.Format.order;rw [h,r1,r2];generalize (b/2147483648==1)=s at *
 have hk:m≤16777215<<<(104-i).toNat:=by
  rw [Nat.shiftLeft_eq];have:=Nat.mul_le_mul (show m≤16777215 by omega) (Nat.pow_pos (n:=(104-i).toNat) (show 0<2 by decide))
  omega
 simp only [Ieee.Datum.order,Int.min_eq_left he];have h0:(i-i).toNat=0:=by omega
 rw [h0]
 constructor
 ·intro e;injection e with e
  rw [Int.compare_eq_gt] at e;unfold Ieee.signed at e;rw [Nat.shiftLeft_zero] at e;generalize 16777215<<<(104-i).toNat=S at *
  cases s
  ·simp at e;omega
  ·simp at e;omega
 ·intro e;injection e with e
  rw [Int.compare_eq_lt] at e;unfold Ieee.signed at e;rw [Nat.shiftLeft_zero] at e;generalize 16777215<<<(104-i).toNat=S at *
  cases s
  ·simp at e;omega
  ·simp at e;omega
theorem Row.take {w:World} {B g n c:Nat} {bs:List UInt8} (h:Row w B (.slice (some ⟨g,0,none⟩) n c) bs) (k:Nat) (hk:k≤bs.length):Row w B (.slice (some ⟨g,0,none⟩) k c) (bs.take k):=by
 have hl:(bs.take k).length=k:=by simp;omega
 rcases h.2 with ⟨hv,_⟩|⟨g',cap,cur,hv,hg,hh,hc,hm,hs,ht⟩
 ·cases hv
 ·injection hv with e1 e2 e3
  injection e1 with e1
  injection e1 with e1 _ _
  subst e1 e3;refine ⟨by simp [enc],.inr ⟨g,c,cur,by rw [hl],hg,hh,by omega,hm,hs,?_⟩⟩
  have h6:=congrArg (List.take (k*1)) ht;rw [List.take_take,Nat.min_eq_left (by omega)] at h6
  rw [hl,h6];simp [enc]
theorem Row.set {w:World} {B:Nat} {v:Value} {bs:List UInt8} (h:Row w B v bs) (i:Nat) (hi:i<bs.length):
  ∃g c,v= .slice (some ⟨g,0,none⟩) bs.length c∧B≤g∧(∃u,w.cell? ⟨g,i,none⟩=some u)∧w.frozen? ⟨g,i,none⟩=false∧ ∀b:UInt8,Row (w.setCell ⟨g,i,none⟩ (.int .u8 (b.toNat:Int))) B v (bs.set i b):=by
 rcases h.2 with ⟨hv,h0⟩|⟨g,cap,cur,hv,hg,hh,hc,hm,hs,ht⟩
 ·omega
 ·subst hv;rw [Nat.mul_one] at hs ht;refine ⟨g,cap,rfl,hg,⟨cur[i]'(by omega),by rw [cell_blk hh];exact Array.getElem?_eq_getElem (by omega)⟩,frozen_blk hh _,fun b=> ?_⟩
  refine ⟨by simp [enc],.inr ⟨g,cap,_,by simp,hg,blk_setCell hh i _,by simpa using hc,hm,by simpa using hs,?_⟩⟩
  rw [List.length_set,Nat.mul_one,Array.toList_setIfInBounds,List.take_set,ht];simp [enc,List.map_set]
end
section
set_option exponentiation.threshold 3000
open Go.RowKit
theorem frac_b (n k L:Nat) (hn:n<10^L) (hL:1≤L) (hk:k≤1100):(fracD n k).1.length≤L∧(fracD n k).2≤(L:Int)∧ -(k:Int)≤(fracD n k).2:=by
 unfold fracD;by_cases h0:n=0
 ·rw [if_pos h0];exact ⟨by simp,by simp,by simp⟩
 ·rw [if_neg h0];obtain ⟨h1,h2,h3⟩:=dg_spec n n (Nat.le_refl _);obtain ⟨g1,g2,g3,g4⟩:=trim_norm (d:=dg n) (dp:=((dg n).length:Int)-(k:Int)) h1 (h3 (by omega)) (by omega)
  have g5:=g4 (dg_ne n);have hl:=dec_length n L hn hL;rw [←dg_len] at hl;refine ⟨by omega,by rw [g5];omega,by rw [g5];omega⟩
theorem big1:(9007199254740992:Nat)*2^971≤10^320:=by decide
theorem big2:(9007199254740992:Nat)*5^1074≤10^780:=by decide
theorem digs_b {m:Nat} {e:Int} (hm:m<9007199254740992) (h1: -1074≤e) (h2:e≤971):DigB m e (digs m e)∧(digs m e).1.length≤780∧(digs m e).2≤780∧ -1074≤(digs m e).2:=by
 have key: ∃n k,digs m e=fracD n k∧k≤1074∧n<10^780:=by
  unfold digs;by_cases h0:0≤e
  ·rw [if_pos h0];refine ⟨_,0,rfl,by omega,?_⟩
   have h3:m*2^e.toNat≤9007199254740991*2^971:=Nat.mul_le_mul (by omega) (Nat.pow_le_pow_right (by decide) (by omega))
   refine Nat.lt_of_le_of_lt h3 (Nat.lt_of_lt_of_le ?_ (Nat.le_trans big1 (Nat.pow_le_pow_right (by decide) (by decide))))
   exact Nat.mul_lt_mul_of_pos_right (by decide) (Nat.pow_pos (by decide))
  ·rw [if_neg h0];refine ⟨_,_,rfl,by omega,?_⟩
   have h3:m*5^(-e).toNat≤9007199254740991*5^1074:=Nat.mul_le_mul (by omega) (Nat.pow_le_pow_right (by decide) (by omega))
   refine Nat.lt_of_le_of_lt h3 (Nat.lt_of_lt_of_le ?_ big2)
   exact Nat.mul_lt_mul_of_pos_right (by decide) (Nat.pow_pos (by decide))
 obtain ⟨n,k,e1,hk,hn⟩:=key;obtain ⟨a,b,c⟩:=frac_spec n k (by omega)
 obtain ⟨a2,b2,c2⟩:=frac_b n k 780 hn (by decide) (by omega)
 rw [e1];exact ⟨⟨a,c,by omega,by omega,by omega⟩,a2,b2,by omega⟩
theorem fR_b (b:Nat) (hf:b/4503599627370496%2048≠2047):(fR b).1.length≤100000∧(fR b).2≤100000∧ -100000≤(fR b).2:=by
 obtain ⟨h2,h1⟩:=fExp_le b hf;obtain ⟨hB,_⟩:=digs_b (fMant_lt b) h1 h2;obtain ⟨a,c,d,e⟩:=shortR_b (fLow b) hB;unfold fR;exact ⟨d,e,by omega⟩
theorem fmtF_le (b:Nat) (e:Bool) (hf:b/4503599627370496%2048≠2047):(fmtF b e).length≤1000001:=fmtF_len b e (fR_b b hf)
theorem dotted_len (t:List UInt8):(dotted t).length≤t.length+2:=by
 unfold dotted
 split
 ·omega
 ·split
  ·simp
  ·simp;omega
theorem clean_len (t:List UInt8):(cleanE t).length≤t.length+1:=by
 unfold cleanE
 split
 ·simp;omega
 ·omega
theorem fltB_len (b:Nat) (hf:b/4503599627370496%2048≠2047):(preT b).length≤1000002∧(fltB b).length≤1000004:=by
 have h:(preT b).length≤1000002:=by
  unfold preT
  split
  ·have:=clean_len (fmtF b true);have:=fmtF_le b true hf;omega
  ·have:=fmtF_le b false hf;omega
 have:=dotted_len (preT b);exact ⟨h,by unfold fltB;omega⟩
end
section
set_option exponentiation.threshold 3000
open Go.RowKit
theorem dgt_lt10 {d:List Nat} (hd: ∀x,x∈d→x<10) (i:Nat):dgt d i<10:=by
 have:=dgi_lt hd (i:Int)
 rwa [dgi_nat] at this
theorem expT_sp (d:List Nat) (dp:Int) (prec:Nat) (hd: ∀x,x∈d→x<10): ∃A sg ds,expT d dp prec=A++101::sg::ds∧(∀x,x∈A→x≠101)∧(sg=43∨sg=45)∧Dg ds∧2≤ds.length:=by
 obtain ⟨E,hE⟩: ∃E:Int,E=if d=[] then 0 else dp-1:=⟨_,rfl⟩
 obtain ⟨a1,a2,a3⟩:=dvB_dec E.natAbs;refine ⟨ch (dgt d 0)::(if prec=0 then [] else 46::(List.range prec).map fun i=>ch (dgt d (i+1))),if E<0 then 45 else 43,(if E.natAbs<10 then [48] else [])++dec E.natAbs,?_,?_,?_,?_,?_⟩
 ·unfold expT;rw [←hE];simp
 ·intro x hx;have hdd: ∀n,n<10→ch n≠101:=by
   intro n hn e;have:=ch_at hn;rw [e] at this;have h2:(101:UInt8).toNat=101:=rfl;omega
  rcases List.mem_cons.1 hx with rfl|hx
  ·exact hdd _ (dgt_lt10 hd 0)
  ·split at hx
   ·cases hx
   ·rcases List.mem_cons.1 hx with rfl|hx
    ·decide
    ·obtain ⟨i,_,rfl⟩:=List.mem_map.1 hx;exact hdd _ (dgt_lt10 hd _)
 ·split<;>simp
 ·intro b hb;rcases List.mem_append.1 hb with hb|hb
  ·split at hb
   ·simp at hb;subst hb;decide
   ·cases hb
  ·exact a2 b hb
 ·by_cases h:E.natAbs<10
  ·rw [if_pos h,dec_lt _ h];simp
  ·rw [if_neg h,dec_ge _ h];have:=List.length_pos_iff.2 (dec_ne (E.natAbs/10));simp;omega
theorem texT_ne (d:List Nat) (dp:Int) (prec:Nat) (hd: ∀x,x∈d→x<10):(∀x,x∈texT d dp prec→x≠101)∧texT d dp prec≠[]:=by
 have hdd: ∀n,n<10→ch n≠101:=by
  intro n hn e;have:=ch_at hn;rw [e] at this;have h2:(101:UInt8).toNat=101:=rfl;omega
 unfold texT
 constructor
 ·intro x hx;rcases List.mem_append.1 hx with hx|hx
  ·split at hx
   ·simp at hx;subst hx;decide
   ·obtain ⟨i,_,rfl⟩:=List.mem_map.1 hx;exact hdd _ (dgt_lt10 hd _)
  ·split at hx
   ·cases hx
   ·rcases List.mem_cons.1 hx with rfl|hx
    ·decide
    ·obtain ⟨i,_,rfl⟩:=List.mem_map.1 hx;exact hdd _ (dgi_lt hd _)
 ·split
  ·simp
  ·rename_i h;intro e;have:=congrArg List.length e;simp at this;omega
theorem sgn_ne (b:Nat): ∀x,x∈sgnT b→x≠101:=by
 intro x hx;unfold sgnT at hx
 split at hx
 ·cases hx
 ·simp at hx;subst hx;decide
theorem fR_lt (b:Nat) (hf:b/4503599627370496%2048≠2047):NormD (fR b).1 (fR b).2:=by
 obtain ⟨h2,h1⟩:=fExp_le b hf;obtain ⟨hB,_⟩:=digs_b (fMant_lt b) h1 h2;exact (shortR_b (fLow b) hB).1
theorem pre_sp (b:Nat) (hf:b/4503599627370496%2048≠2047):(∀i,idx 101 (preT b)=some i→i+2≤(preT b).length)∧preT b≠[]:=by
 have hN:=fR_lt b hf;unfold preT
 split
 ·obtain ⟨A,sg,ds,e1,e2,e3,e4,e5⟩:=expT_sp (fR b).1 (fR b).2 ((fR b).1.length-1) hN.lt;have e6:fmtF b true=(sgnT b++A)++101::sg::ds:=by
   unfold fmtF;rw [if_pos rfl,e1,List.append_assoc]
  obtain ⟨ds',c1,c2,c3,c4,c5⟩:=clean_val (sgnT b++A) sg e3 ds e4 e5;rw [e6,c1,idx_app 101 _ _ (fun x hx=>by rcases List.mem_append.1 hx with hx|hx;exact sgn_ne b x hx;exact e2 x hx)]
  refine ⟨fun i hi=> ?_,by simp⟩
  injection hi with hi
  subst hi;simp;omega
 ·obtain ⟨t1,t2⟩:=texT_ne (fR b).1 (fR b).2 ((fR b).1.length-(fR b).2).toNat hN.lt;unfold fmtF;rw [if_neg (by decide)]
  refine ⟨fun i hi=> ?_,fun e=>t2 (List.append_eq_nil_iff.1 e).2⟩
  rw [idx_none 101 _ (fun x hx=>by rcases List.mem_append.1 hx with hx|hx;exact sgn_ne b x hx;exact t1 x hx)] at hi
  cases hi
theorem put2 (T:List UInt8) (i:Nat) (h:i+2≤T.length) (x y:UInt8):((T.take (i+2)++T.drop i).set i x).set (i+1) y=T.take i++x::y::T.drop i:=by
 have e1:T.take (i+2)=T.take i++[T[i]'(by omega),T[i+1]'(by omega)]:=by
  rw [show i+2=i+1+1 from rfl,List.take_succ_eq_append_getElem (show i+1<T.length by omega),List.take_succ_eq_append_getElem (show i<T.length by omega),List.append_assoc]
  rfl
 have hl:(T.take i).length=i:=by simp;omega
 rw [e1,List.append_assoc,List.set_append_right _ _ (by omega),hl,Nat.sub_self]
 rw [List.cons_append,List.set_cons_zero,List.set_append_right _ _ (by omega),hl,Nat.add_sub_cancel_left]
 rfl
end
end Go.Proofs.YteodinhkhhaafaaGreatDoor
