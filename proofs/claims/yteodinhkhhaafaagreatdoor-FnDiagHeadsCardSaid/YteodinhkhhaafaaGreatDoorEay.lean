/- Walks of the program, and plain facts. -/
import Derived.Test.YteodinhkhhaafaaGreatDoorEan
import Derived.Test.YteodinhkhhaafaaGreatDoorEax
import Derived.WideMake
set_option linter.unusedVariables false
set_option linter.unusedSimpArgs false
set_option maxRecDepth 100000
set_option maxHeartbeats 6400000
namespace Go.Proofs.YteodinhkhhaafaaGreatDoor
section
set_option exponentiation.threshold 3000
open Go.RowKit
theorem or_lo (k:Nat) {a b n:Nat} (hn:n=2^k) (hb:b<n) (h:a*n+b<18446744073709551616):bits .or .u64 ((a*n:Nat):Int) (b:Int)=((a*n+b:Nat):Int):=by
 have h1:=u64_or_nat (a*n) b (by omega) (by omega)
 subst hn;have t:=Nat.two_pow_add_eq_or_of_lt (i:=k) (b:=b) hb a;rw [Nat.mul_comm (2^k) a] at t;rw [h1,t]
theorem widen_split16 (v S E F:Nat) (hS:S=v/32768%2) (hE:E=v/1024%32) (hF:F=v%1024):
  widen v 5 10=if E=31 then S*9223372036854775808+9218868437227405312+F*4398046511104 else if 0<E then S*9223372036854775808+(E+1008)*4503599627370496+F*4398046511104
   else if F=0 then S*9223372036854775808 else S*9223372036854775808+(1009-(10-Nat.log2 F))*4503599627370496+(F*2^(10-Nat.log2 F)-1024)*4398046511104:=by
 unfold widen;rw [show (2:Nat)^10=1024 by decide,show (2:Nat)^5=32 by decide,show (2:Nat)^(5+10)=32768 by decide,show (2:Nat)^63=9223372036854775808 by decide,show (2:Nat)^52=4503599627370496 by decide,show (2:Nat)^(52-10)=4398046511104 by decide,show (2:Nat)^(5-1)=16 by decide]
 rw [←hS,←hE,←hF,show E+1024-16=E+1008 by omega]
theorem widened16 (v:Nat) (hv:v<65536) (w:World):Calls Tryz.prog 73 #[.int .u64 (v:Int),.int .i64 5,.int .i64 10] w fun e w'=>e= .returned (.int .u64 (widen v 5 10:Int))∧Fr [] w w':=by
 obtain ⟨S,hS⟩: ∃S,S=v/32768%2:=⟨_,rfl⟩;obtain ⟨E,hE⟩: ∃E,E=v/1024%32:=⟨_,rfl⟩;obtain ⟨F,hF⟩: ∃F,F=v%1024:=⟨_,rfl⟩;have hw:=Hz (widen_split16 v S E F hS hE hF);have bS:S≤1:=by omega
 have bE:E≤31:=by omega
 have bF:F<1024:=by omega
 have a1:bits .and .u64 ((v:Int)/32768) 1=(S:Int):=by
  have h:=u64_and_nat (v/32768) 1 (by omega) (by omega)
  rw [show v/32768&&&1=v/32768%2 from Nat.and_two_pow_sub_one_eq_mod (v/32768) 1,←hS,show ((v/32768:Nat):Int)=(v:Int)/32768 by omega] at h
  exact h
 have a2:bits .and .u64 ((v:Int)/1024) 31=(E:Int):=by
  have h:=u64_and_nat (v/1024) 31 (by omega) (by omega)
  rw [show v/1024&&&31=v/1024%32 from Nat.and_two_pow_sub_one_eq_mod (v/1024) 5,←hE,show ((v/1024:Nat):Int)=(v:Int)/1024 by omega] at h
  exact h
 have a3:bits .and .u64 (v:Int) 1023=(F:Int):=by
  have h:=u64_and_nat v 1023 (by omega) (by omega)
  rw [show v&&&1023=v%1024 from Nat.and_two_pow_sub_one_eq_mod v 10,←hF] at h
  exact h
 clear hS hE hF;obtain ⟨P,hP⟩: ∃P,P=S*9223372036854775808:=⟨_,rfl⟩;have c1:IntKind.u64.wrap ((S:Int)*9223372036854775808)=(P:Int):=by rw [IntWalk.u64_in _ (by omega)];omega
 obtain ⟨G,hG⟩: ∃G,G=F*4398046511104:=⟨_,rfl⟩;have c2:IntKind.u64.wrap ((F:Int)*4398046511104)=(G:Int):=by rw [IntWalk.u64_in _ (by omega)];omega
 obtain ⟨R,hR⟩: ∃R,R=widen v 5 10:=⟨_,rfl⟩;rw [←hR] at hw ⊢;replace hR:=Hz hR;by_cases h1:E=31
 ·have e1:R=P+9218868437227405312+G:=by rw [hw.out,if_pos h1,hP,hG]
  have t1:((E:Int)==31)=true:=by simp;omega
  have o1:bits .or .u64 (P:Int) 9218868437227405312=((P+9218868437227405312:Nat):Int):=by
   have:=or_lo 63 (a:=S) (b:=9218868437227405312) (n:=9223372036854775808) (by decide) (by decide) (by omega)
   rw [←hP] at this;exact this
  have o2:bits .or .u64 ((P+9218868437227405312:Nat):Int) (G:Int)=(R:Int):=by
   have:=or_lo 52 (a:=S*2048+2047) (b:=G) (n:=4503599627370496) (by decide) (by omega) (by omega)
   rw [show (S*2048+2047)*4503599627370496=P+9218868437227405312 by omega] at this
   rw [this,e1]
  have u1:(E:Int)=31:=by omega
  replace hw:=Hz hw;replace e1:=Hz e1;replace hP:=Hz hP;replace hG:=Hz hG;obtain ⟨Q,hQ⟩: ∃Q,Q=P+9218868437227405312:=⟨_,rfl⟩;rw [←hQ] at o1 o2;replace hQ:=Hz hQ;clear h1 u1 bS bE bF;go_enter Tryz.func73,Tryz.ntmps73
  go_wp2
  go_quiet (fail)
  go_wp2;go_ret
  exact ⟨rfl,(Fr.refl [] w).drewN _⟩
 ·have t1:((E:Int)==31)=false:=by simp;omega
  have u1: ¬(E:Int)=31:=by omega
  by_cases h2:0<E
  ·obtain ⟨D,hD⟩: ∃D,D=(E+1008)*4503599627370496:=⟨_,rfl⟩;have e1:R=P+D+G:=by rw [hw.out,if_neg h1,if_pos h2,hP,hG,hD]
   have t2:(0:Int)<(E:Int):=by omega
   have c3:IntKind.u64.wrap ((E:Int)+1023)=(E:Int)+1023:=IntWalk.u64_in _ (by omega)
   have c4:IntKind.u64.wrap ((E:Int)+1023-15)=(E:Int)+1008:=by rw [IntWalk.u64_in _ (by omega)];omega
   have c5:IntKind.u64.wrap (((E:Int)+1008)*4503599627370496)=(D:Int):=by rw [IntWalk.u64_in _ (by omega)];omega
   have o1:bits .or .u64 (P:Int) (D:Int)=((P+D:Nat):Int):=by
    have:=or_lo 63 (a:=S) (b:=D) (n:=9223372036854775808) (by decide) (by omega) (by omega)
    rw [←hP] at this;exact this
   have o2:bits .or .u64 ((P+D:Nat):Int) (G:Int)=(R:Int):=by
    have:=or_lo 52 (a:=S*2048+E+1008) (b:=G) (n:=4503599627370496) (by decide) (by omega) (by omega)
    rw [show (S*2048+E+1008)*4503599627370496=P+D by omega] at this
    rw [this,e1]
   obtain ⟨Q,hQ⟩: ∃Q,Q=P+D:=⟨_,rfl⟩;rw [←hQ] at o1 o2;replace hQ:=Hz hQ;replace hw:=Hz hw;replace e1:=Hz e1;replace hP:=Hz hP;replace hG:=Hz hG;replace hD:=Hz hD;clear h1 h2 bS bE bF;go_enter Tryz.func73,Tryz.ntmps73
   go_wp2
   go_quiet (fail)
   go_wp2;go_ret
   exact ⟨rfl,(Fr.refl [] w).drewN _⟩
  ·have h0:E=0:=by omega
   subst h0;by_cases h3:F=0
   ·have e1:R=P:=by rw [hw.out,if_neg h1,if_neg h2,if_pos h3,hP]
    subst h3;subst e1;replace hP:=Hz hP;replace hG:=Hz hG;clear h1 h2 bS bE bF hw;go_enter Tryz.func73,Tryz.ntmps73
    go_wp2
    go_quiet (fail)
    go_wp2;go_ret
    exact ⟨rfl,(Fr.refl [] w).drewN _⟩
   ·have t3:((F:Int)==0)=false:=by simp;omega
    have u3: ¬(F:Int)=0:=by omega
    have l1:F<2^(Nat.log2 F+1):=Nat.lt_log2_self;have l2:2^Nat.log2 F≤F:=Nat.log2_self_le h3;have l3:Nat.log2 F<10:=(Nat.log2_lt h3).2 bF;obtain ⟨J,hJ⟩: ∃J,J=10-Nat.log2 F:=⟨_,rfl⟩;have hJp:0<J∧J≤10:=by omega
    have key: ∀j,j≤J→(F*2^j<1024↔j<J)∧F*2^j<2048:=by
     intro j hj;have hp:(2:Nat)^j*2^Nat.log2 F=2^(j+Nat.log2 F):=(Nat.pow_add 2 j _).symm;have hq:(2:Nat)^j*2^(Nat.log2 F+1)=2^(j+(Nat.log2 F+1)):=(Nat.pow_add 2 j _).symm;have m1:F*2^j<2^(j+(Nat.log2 F+1)):=by rw [←hq,Nat.mul_comm];exact Nat.mul_lt_mul_of_pos_left l1 (Nat.pow_pos (by decide))
     have m2:2^(j+Nat.log2 F)≤F*2^j:=by rw [←hp,Nat.mul_comm F];exact Nat.mul_le_mul_left _ l2
     constructor
     ·constructor
      ·intro h;rcases Nat.lt_or_ge j J with h4|h4
       ·exact h4
       ·exfalso
        have:j+Nat.log2 F=10:=by omega
        rw [this,show (2:Nat)^10=1024 by decide] at m2
        omega
      ·intro h;have:=Nat.pow_le_pow_right (n:=2) (by decide) (show j+(Nat.log2 F+1)≤10 by omega)
       rw [show (2:Nat)^10=1024 by decide] at this
       omega
     ·have:=Nat.pow_le_pow_right (n:=2) (by decide) (show j+(Nat.log2 F+1)≤10+1 by omega)
      rw [show (2:Nat)^(10+1)=2048 by decide] at this
      omega
    have e1:R=P+(1009-J)*4503599627370496+(F*2^J-1024)*4398046511104:=by rw [hw.out,if_neg h1,if_neg h2,if_neg h3,hP,hJ]
    replace key:=Hz key;replace hw:=Hz hw;replace e1:=Hz e1;replace hJ:=Hz hJ;replace hG:=Hz hG;replace hP:=Hz hP;clear h1 h2 l1 l2 l3;go_enter Tryz.func73,Tryz.ntmps73
    go_wp2
    go_quiet (fail)
    go_wp2
    go_loopg [8,9] J (fun gk v8 v9 wr=> ∃j:Nat,v8= .int .u64 ((1009-j:Nat):Int)∧v9= .int .u64 ((F*2^j:Nat):Int)∧j+gk=J∧Hid (Fr [] w wr))
    case atStart=>exact ⟨0,by go_num,by simp,by omega,Hz ((Fr.refl [] w).drewN _)⟩
    case round=>
     obtain ⟨j,rfl,rfl,hjg,hFr⟩:=hrel;obtain ⟨k1,k2⟩:=key.out j (by omega)
     obtain ⟨Y,hY⟩: ∃Y,Y=F*2^j:=⟨_,rfl⟩;rw [←hY] at k1 k2 ⊢;obtain ⟨U,hU⟩: ∃U,U=1009-j:=⟨_,rfl⟩;rw [←hU];by_cases hj:j<J
     ·obtain ⟨k,rfl⟩: ∃k,gk=k+1:=⟨gk-1,by omega⟩
      have k3:=k1.2 hj;have t4:((Y:Int)/1024==0)=true:=by simp;omega
      have u4:(Y:Int)/1024=0:=by omega
      have c6:IntKind.u64.wrap ((Y:Int)*2)=((F*2^(j+1):Nat):Int):=by
       rw [IntWalk.u64_in _ (by omega),Nat.pow_succ,←Nat.mul_assoc,←hY];omega
      have c7:IntKind.u64.wrap ((U:Int)-1)=((1009-(j+1):Nat):Int):=by rw [IntWalk.u64_in _ (by omega)];omega
      obtain ⟨Y2,hY2⟩: ∃Y2,Y2=F*2^(j+1):=⟨_,rfl⟩;obtain ⟨U2,hU2⟩: ∃U2,U2=1009-(j+1):=⟨_,rfl⟩;rw [←hY2] at c6;rw [←hU2] at c7;replace hY:=Hz hY;replace hU:=Hz hU;replace hY2:=Hz hY2;replace hU2:=Hz hU2;clear k1 k2 k3;go_wp2
      go_roundg k
      case measure=>omega
      case rel=>exact ⟨j+1,by rw [hU2.out],by rw [hY2.out],by omega,hFr⟩
     ·have hjJ:j=J:=by omega
      have k3: ¬Y<1024:=fun h=>hj (k1.1 h)
      have t4:((Y:Int)/1024==0)=false:=by simp;omega
      have u4: ¬(Y:Int)/1024=0:=by omega
      have a4:bits .and .u64 (Y:Int) 1023=((Y-1024:Nat):Int):=by
       have h:=u64_and_nat Y 1023 (by omega) (by omega)
       rw [show Y&&&1023=Y%1024 from Nat.and_two_pow_sub_one_eq_mod Y 10,show Y%1024=Y-1024 by omega] at h
       exact h
      obtain ⟨Z,hZ⟩: ∃Z,Z=Y-1024:=⟨_,rfl⟩;rw [←hZ] at a4;obtain ⟨D,hD⟩: ∃D,D=U*4503599627370496:=⟨_,rfl⟩;have c5:IntKind.u64.wrap ((U:Int)*4503599627370496)=(D:Int):=by rw [IntWalk.u64_in _ (by omega)];omega
      obtain ⟨G2,hG2⟩: ∃G2,G2=Z*4398046511104:=⟨_,rfl⟩;have c8:IntKind.u64.wrap ((Z:Int)*4398046511104)=(G2:Int):=by rw [IntWalk.u64_in _ (by omega)];omega
      have e2:R=P+D+G2:=by rw [e1.out,hD,hG2,hZ,hY,hU,hjJ]
      have o1:bits .or .u64 (P:Int) (D:Int)=((P+D:Nat):Int):=by
       have hP:=hP.out;have:=or_lo 63 (a:=S) (b:=D) (n:=9223372036854775808) (by decide) (by omega) (by omega)
       rw [←hP] at this;exact this
      have o2:bits .or .u64 ((P+D:Nat):Int) (G2:Int)=(R:Int):=by
       have hP:=hP.out;have:=or_lo 52 (a:=S*2048+U) (b:=G2) (n:=4503599627370496) (by decide) (by omega) (by omega)
       rw [show (S*2048+U)*4503599627370496=P+D by omega] at this
       rw [this,e2]
      obtain ⟨Q,hQ⟩: ∃Q,Q=P+D:=⟨_,rfl⟩;rw [←hQ] at o1 o2;replace hQ:=Hz hQ;replace hY:=Hz hY;replace hU:=Hz hU;replace hZ:=Hz hZ;replace hD:=Hz hD;replace hG2:=Hz hG2;replace e2:=Hz e2;clear k1 k2 k3 hj hjJ;go_wp2;go_ret
      exact ⟨rfl,hFr.out⟩
theorem widen_split32 (v S E F:Nat) (hS:S=v/2147483648%2) (hE:E=v/8388608%256) (hF:F=v%8388608):
  widen v 8 23=if E=255 then S*9223372036854775808+9218868437227405312+F*536870912 else if 0<E then S*9223372036854775808+(E+896)*4503599627370496+F*536870912
   else if F=0 then S*9223372036854775808 else S*9223372036854775808+(897-(23-Nat.log2 F))*4503599627370496+(F*2^(23-Nat.log2 F)-8388608)*536870912:=by
 unfold widen;rw [show (2:Nat)^23=8388608 by decide,show (2:Nat)^8=256 by decide,show (2:Nat)^(8+23)=2147483648 by decide,show (2:Nat)^63=9223372036854775808 by decide,show (2:Nat)^52=4503599627370496 by decide,show (2:Nat)^(52-23)=536870912 by decide,show (2:Nat)^(8-1)=128 by decide]
 rw [←hS,←hE,←hF,show E+1024-128=E+896 by omega]
theorem widened32 (v:Nat) (hv:v<4294967296) (w:World):Calls Tryz.prog 73 #[.int .u64 (v:Int),.int .i64 8,.int .i64 23] w fun e w'=>e= .returned (.int .u64 (widen v 8 23:Int))∧Fr [] w w':=by
 obtain ⟨S,hS⟩: ∃S,S=v/2147483648%2:=⟨_,rfl⟩;obtain ⟨E,hE⟩: ∃E,E=v/8388608%256:=⟨_,rfl⟩;obtain ⟨F,hF⟩: ∃F,F=v%8388608:=⟨_,rfl⟩;have hw:=Hz (widen_split32 v S E F hS hE hF);have bS:S≤1:=by omega
 have bE:E≤255:=by omega
 have bF:F<8388608:=by omega
 have a1:bits .and .u64 ((v:Int)/2147483648) 1=(S:Int):=by
  have h:=u64_and_nat (v/2147483648) 1 (by omega) (by omega)
  rw [show v/2147483648&&&1=v/2147483648%2 from Nat.and_two_pow_sub_one_eq_mod (v/2147483648) 1,←hS,show ((v/2147483648:Nat):Int)=(v:Int)/2147483648 by omega] at h
  exact h
 have a2:bits .and .u64 ((v:Int)/8388608) 255=(E:Int):=by
  have h:=u64_and_nat (v/8388608) 255 (by omega) (by omega)
  rw [show v/8388608&&&255=v/8388608%256 from Nat.and_two_pow_sub_one_eq_mod (v/8388608) 8,←hE,show ((v/8388608:Nat):Int)=(v:Int)/8388608 by omega] at h
  exact h
 have a3:bits .and .u64 (v:Int) 8388607=(F:Int):=by
  have h:=u64_and_nat v 8388607 (by omega) (by omega)
  rw [show v&&&8388607=v%8388608 from Nat.and_two_pow_sub_one_eq_mod v 23,←hF] at h
  exact h
 clear hS hE hF;obtain ⟨P,hP⟩: ∃P,P=S*9223372036854775808:=⟨_,rfl⟩;have c1:IntKind.u64.wrap ((S:Int)*9223372036854775808)=(P:Int):=by rw [IntWalk.u64_in _ (by omega)];omega
 obtain ⟨G,hG⟩: ∃G,G=F*536870912:=⟨_,rfl⟩;have c2:IntKind.u64.wrap ((F:Int)*536870912)=(G:Int):=by rw [IntWalk.u64_in _ (by omega)];omega
 obtain ⟨R,hR⟩: ∃R,R=widen v 8 23:=⟨_,rfl⟩;rw [←hR] at hw ⊢;replace hR:=Hz hR;by_cases h1:E=255
 ·have e1:R=P+9218868437227405312+G:=by rw [hw.out,if_pos h1,hP,hG]
  have t1:((E:Int)==255)=true:=by simp;omega
  have o1:bits .or .u64 (P:Int) 9218868437227405312=((P+9218868437227405312:Nat):Int):=by
   have:=or_lo 63 (a:=S) (b:=9218868437227405312) (n:=9223372036854775808) (by decide) (by decide) (by omega)
   rw [←hP] at this;exact this
  have o2:bits .or .u64 ((P+9218868437227405312:Nat):Int) (G:Int)=(R:Int):=by
   have:=or_lo 52 (a:=S*2048+2047) (b:=G) (n:=4503599627370496) (by decide) (by omega) (by omega)
   rw [show (S*2048+2047)*4503599627370496=P+9218868437227405312 by omega] at this
   rw [this,e1]
  have u1:(E:Int)=255:=by omega
  replace hw:=Hz hw;replace e1:=Hz e1;replace hP:=Hz hP;replace hG:=Hz hG;obtain ⟨Q,hQ⟩: ∃Q,Q=P+9218868437227405312:=⟨_,rfl⟩;rw [←hQ] at o1 o2;replace hQ:=Hz hQ;clear h1 u1 bS bE bF;go_enter Tryz.func73,Tryz.ntmps73
  go_wp2
  go_quiet (fail)
  go_wp2;go_ret
  exact ⟨rfl,(Fr.refl [] w).drewN _⟩
 ·have t1:((E:Int)==255)=false:=by simp;omega
  have u1: ¬(E:Int)=255:=by omega
  by_cases h2:0<E
  ·obtain ⟨D,hD⟩: ∃D,D=(E+896)*4503599627370496:=⟨_,rfl⟩;have e1:R=P+D+G:=by rw [hw.out,if_neg h1,if_pos h2,hP,hG,hD]
   have t2:(0:Int)<(E:Int):=by omega
   have c3:IntKind.u64.wrap ((E:Int)+1023)=(E:Int)+1023:=IntWalk.u64_in _ (by omega)
   have c4:IntKind.u64.wrap ((E:Int)+1023-127)=(E:Int)+896:=by rw [IntWalk.u64_in _ (by omega)];omega
   have c5:IntKind.u64.wrap (((E:Int)+896)*4503599627370496)=(D:Int):=by rw [IntWalk.u64_in _ (by omega)];omega
   have o1:bits .or .u64 (P:Int) (D:Int)=((P+D:Nat):Int):=by
    have:=or_lo 63 (a:=S) (b:=D) (n:=9223372036854775808) (by decide) (by omega) (by omega)
    rw [←hP] at this;exact this
   have o2:bits .or .u64 ((P+D:Nat):Int) (G:Int)=(R:Int):=by
    have:=or_lo 52 (a:=S*2048+E+896) (b:=G) (n:=4503599627370496) (by decide) (by omega) (by omega)
    rw [show (S*2048+E+896)*4503599627370496=P+D by omega] at this
    rw [this,e1]
   obtain ⟨Q,hQ⟩: ∃Q,Q=P+D:=⟨_,rfl⟩;rw [←hQ] at o1 o2;replace hQ:=Hz hQ;replace hw:=Hz hw;replace e1:=Hz e1;replace hP:=Hz hP;replace hG:=Hz hG;replace hD:=Hz hD;clear h1 h2 bS bE bF;go_enter Tryz.func73,Tryz.ntmps73
   go_wp2
   go_quiet (fail)
   go_wp2;go_ret
   exact ⟨rfl,(Fr.refl [] w).drewN _⟩
  ·have h0:E=0:=by omega
   subst h0;by_cases h3:F=0
   ·have e1:R=P:=by rw [hw.out,if_neg h1,if_neg h2,if_pos h3,hP]
    subst h3;subst e1;replace hP:=Hz hP;replace hG:=Hz hG;clear h1 h2 bS bE bF hw;go_enter Tryz.func73,Tryz.ntmps73
    go_wp2
    go_quiet (fail)
    go_wp2;go_ret
    exact ⟨rfl,(Fr.refl [] w).drewN _⟩
   ·have t3:((F:Int)==0)=false:=by simp;omega
    have u3: ¬(F:Int)=0:=by omega
    have l1:F<2^(Nat.log2 F+1):=Nat.lt_log2_self;have l2:2^Nat.log2 F≤F:=Nat.log2_self_le h3;have l3:Nat.log2 F<23:=(Nat.log2_lt h3).2 bF;obtain ⟨J,hJ⟩: ∃J,J=23-Nat.log2 F:=⟨_,rfl⟩;have hJp:0<J∧J≤23:=by omega
    have key: ∀j,j≤J→(F*2^j<8388608↔j<J)∧F*2^j<16777216:=by
     intro j hj;have hp:(2:Nat)^j*2^Nat.log2 F=2^(j+Nat.log2 F):=(Nat.pow_add 2 j _).symm;have hq:(2:Nat)^j*2^(Nat.log2 F+1)=2^(j+(Nat.log2 F+1)):=(Nat.pow_add 2 j _).symm;have m1:F*2^j<2^(j+(Nat.log2 F+1)):=by rw [←hq,Nat.mul_comm];exact Nat.mul_lt_mul_of_pos_left l1 (Nat.pow_pos (by decide))
     have m2:2^(j+Nat.log2 F)≤F*2^j:=by rw [←hp,Nat.mul_comm F];exact Nat.mul_le_mul_left _ l2
     constructor
     ·constructor
      ·intro h;rcases Nat.lt_or_ge j J with h4|h4
       ·exact h4
       ·exfalso
        have:j+Nat.log2 F=23:=by omega
        rw [this,show (2:Nat)^23=8388608 by decide] at m2
        omega
      ·intro h;have:=Nat.pow_le_pow_right (n:=2) (by decide) (show j+(Nat.log2 F+1)≤23 by omega)
       rw [show (2:Nat)^23=8388608 by decide] at this
       omega
     ·have:=Nat.pow_le_pow_right (n:=2) (by decide) (show j+(Nat.log2 F+1)≤23+1 by omega)
      rw [show (2:Nat)^(23+1)=16777216 by decide] at this
      omega
    have e1:R=P+(897-J)*4503599627370496+(F*2^J-8388608)*536870912:=by rw [hw.out,if_neg h1,if_neg h2,if_neg h3,hP,hJ]
    replace key:=Hz key;replace hw:=Hz hw;replace e1:=Hz e1;replace hJ:=Hz hJ;replace hG:=Hz hG;replace hP:=Hz hP;clear h1 h2 l1 l2 l3;go_enter Tryz.func73,Tryz.ntmps73
    go_wp2
    go_quiet (fail)
    go_wp2
    go_loopg [8,9] J (fun gk v8 v9 wr=> ∃j:Nat,v8= .int .u64 ((897-j:Nat):Int)∧v9= .int .u64 ((F*2^j:Nat):Int)∧j+gk=J∧Hid (Fr [] w wr))
    case atStart=>exact ⟨0,by go_num,by simp,by omega,Hz ((Fr.refl [] w).drewN _)⟩
    case round=>
     obtain ⟨j,rfl,rfl,hjg,hFr⟩:=hrel;obtain ⟨k1,k2⟩:=key.out j (by omega)
     obtain ⟨Y,hY⟩: ∃Y,Y=F*2^j:=⟨_,rfl⟩;rw [←hY] at k1 k2 ⊢;obtain ⟨U,hU⟩: ∃U,U=897-j:=⟨_,rfl⟩;rw [←hU];by_cases hj:j<J
     ·obtain ⟨k,rfl⟩: ∃k,gk=k+1:=⟨gk-1,by omega⟩
      have k3:=k1.2 hj;have t4:((Y:Int)/8388608==0)=true:=by simp;omega
      have u4:(Y:Int)/8388608=0:=by omega
      have c6:IntKind.u64.wrap ((Y:Int)*2)=((F*2^(j+1):Nat):Int):=by
       rw [IntWalk.u64_in _ (by omega),Nat.pow_succ,←Nat.mul_assoc,←hY];omega
      have c7:IntKind.u64.wrap ((U:Int)-1)=((897-(j+1):Nat):Int):=by rw [IntWalk.u64_in _ (by omega)];omega
      obtain ⟨Y2,hY2⟩: ∃Y2,Y2=F*2^(j+1):=⟨_,rfl⟩;obtain ⟨U2,hU2⟩: ∃U2,U2=897-(j+1):=⟨_,rfl⟩;rw [←hY2] at c6;rw [←hU2] at c7;replace hY:=Hz hY;replace hU:=Hz hU;replace hY2:=Hz hY2;replace hU2:=Hz hU2;clear k1 k2 k3;go_wp2
      go_roundg k
      case measure=>omega
      case rel=>exact ⟨j+1,by rw [hU2.out],by rw [hY2.out],by omega,hFr⟩
     ·have hjJ:j=J:=by omega
      have k3: ¬Y<8388608:=fun h=>hj (k1.1 h)
      have t4:((Y:Int)/8388608==0)=false:=by simp;omega
      have u4: ¬(Y:Int)/8388608=0:=by omega
      have a4:bits .and .u64 (Y:Int) 8388607=((Y-8388608:Nat):Int):=by
       have h:=u64_and_nat Y 8388607 (by omega) (by omega)
       rw [show Y&&&8388607=Y%8388608 from Nat.and_two_pow_sub_one_eq_mod Y 23,show Y%8388608=Y-8388608 by omega] at h
       exact h
      obtain ⟨Z,hZ⟩: ∃Z,Z=Y-8388608:=⟨_,rfl⟩;rw [←hZ] at a4;obtain ⟨D,hD⟩: ∃D,D=U*4503599627370496:=⟨_,rfl⟩;have c5:IntKind.u64.wrap ((U:Int)*4503599627370496)=(D:Int):=by rw [IntWalk.u64_in _ (by omega)];omega
      obtain ⟨G2,hG2⟩: ∃G2,G2=Z*536870912:=⟨_,rfl⟩;have c8:IntKind.u64.wrap ((Z:Int)*536870912)=(G2:Int):=by rw [IntWalk.u64_in _ (by omega)];omega
      have e2:R=P+D+G2:=by rw [e1.out,hD,hG2,hZ,hY,hU,hjJ]
      have o1:bits .or .u64 (P:Int) (D:Int)=((P+D:Nat):Int):=by
       have hP:=hP.out;have:=or_lo 63 (a:=S) (b:=D) (n:=9223372036854775808) (by decide) (by omega) (by omega)
       rw [←hP] at this;exact this
      have o2:bits .or .u64 ((P+D:Nat):Int) (G2:Int)=(R:Int):=by
       have hP:=hP.out;have:=or_lo 52 (a:=S*2048+U) (b:=G2) (n:=4503599627370496) (by decide) (by omega) (by omega)
       rw [show (S*2048+U)*4503599627370496=P+D by omega] at this
       rw [this,e2]
      obtain ⟨Q,hQ⟩: ∃Q,Q=P+D:=⟨_,rfl⟩;rw [←hQ] at o1 o2;replace hQ:=Hz hQ;replace hY:=Hz hY;replace hU:=Hz hU;replace hZ:=Hz hZ;replace hD:=Hz hD;replace hG2:=Hz hG2;replace e2:=Hz e2;clear k1 k2 k3 hj hjJ;go_wp2;go_ret
      exact ⟨rfl,hFr.out⟩
theorem fromHalf (v:Nat) (hv:v<65536) (w:World):Calls Tryz.prog 40 #[.int .u16 (v:Int)] w fun e w'=>e= .returned (.int .u64 (widen v 5 10:Int))∧Fr [] w w':=by
 have s0:IntKind.u64.wrap (v:Int)=(v:Int):=IntWalk.u64_in _ (by omega)
 have K:=Hz (fun W=>widened16 v hv W)
 go_enter Tryz.func40,Tryz.ntmps40
 go_wp2_with (go_at_call 73;refine (K.out _).mono ?_;rintro e w1 ⟨rfl,hf⟩)
 go_ret
 exact ⟨rfl,hf⟩
theorem fromSingle (v:Nat) (hv:v<4294967296) (w:World):Calls Tryz.prog 41 #[.int .u32 (v:Int)] w fun e w'=>e= .returned (.int .u64 (widen v 8 23:Int))∧Fr [] w w':=by
 have s0:IntKind.u64.wrap (v:Int)=(v:Int):=IntWalk.u64_in _ (by omega)
 have K:=Hz (fun W=>widened32 v hv W)
 go_enter Tryz.func41,Tryz.ntmps41
 go_wp2_with (go_at_call 73;refine (K.out _).mono ?_;rintro e w1 ⟨rfl,hf⟩)
 go_ret
 exact ⟨rfl,hf⟩
end
section
set_option exponentiation.threshold 3000
open Go.RowKit
def narrowF (b ex fr:Nat):Option Nat:=
 if b/2^52%2048=2047 then some (b/2^63*2^(ex+fr)+(2^ex-1)*2^fr+b%2^52/2^(52-fr))
 else if 1023+(2^ex-1)≤b/2^52%2048+(2^(ex-1)-1) then none
 else if 1023<b/2^52%2048+(2^(ex-1)-1) then some (b/2^63*2^(ex+fr)+(b/2^52%2048+(2^(ex-1)-1)-1023)*2^fr+b%2^52/2^(52-fr))
 else if b/2^52%2048=0∨b/2^52%2048+(2^(ex-1)-1)+fr<1023 then some (b/2^63*2^(ex+fr))
 else some (b/2^63*2^(ex+fr)+(2^52+b%2^52)/2^(52-fr+1+(1023-(b/2^52%2048+(2^(ex-1)-1)))))
theorem narrow_split16 (b S E F:Nat) (hS:S=b/9223372036854775808) (hE:E=b/4503599627370496%2048) (hF:F=b%4503599627370496):
  narrowF b 5 10=if E=2047 then some (S*32768+31744+F/4398046511104) else if 1039≤E then none
   else if 1008<E then some (S*32768+(E-1008)*1024+F/4398046511104) else if E=0∨E<998 then some (S*32768)
   else some (S*32768+(4503599627370496+F)/2^(43+(1008-E))):=by
 unfold narrowF;rw [show (2:Nat)^52=4503599627370496 by decide,show (2:Nat)^63=9223372036854775808 by decide,←hS,←hE,←hF]
 have e1:(1023+(2^5-1)≤E+(2^(5-1)-1))=(1039≤E):=propext ⟨fun h=>by omega,fun h=>by omega⟩
 have e2:(1023<E+(2^(5-1)-1))=(1008<E):=propext ⟨fun h=>by omega,fun h=>by omega⟩
 have e3:(E+(2^(5-1)-1)+10<1023)=(E<998):=propext ⟨fun h=>by omega,fun h=>by omega⟩
 have e4:E+(2^(5-1)-1)-1023=E-1008:=by omega
 have e5:52-10+1+(1023-(E+(2^(5-1)-1)))=43+(1008-E):=by omega
 simp only [e1,e2,e3,e4,e5]
theorem narrow_split32 (b S E F:Nat) (hS:S=b/9223372036854775808) (hE:E=b/4503599627370496%2048) (hF:F=b%4503599627370496):
  narrowF b 8 23=if E=2047 then some (S*2147483648+2139095040+F/536870912) else if 1151≤E then none
   else if 896<E then some (S*2147483648+(E-896)*8388608+F/536870912) else if E=0∨E<873 then some (S*2147483648)
   else some (S*2147483648+(4503599627370496+F)/2^(30+(896-E))):=by
 unfold narrowF;rw [show (2:Nat)^52=4503599627370496 by decide,show (2:Nat)^63=9223372036854775808 by decide,←hS,←hE,←hF]
 have e1:(1023+(2^8-1)≤E+(2^(8-1)-1))=(1151≤E):=propext ⟨fun h=>by omega,fun h=>by omega⟩
 have e2:(1023<E+(2^(8-1)-1))=(896<E):=propext ⟨fun h=>by omega,fun h=>by omega⟩
 have e3:(E+(2^(8-1)-1)+23<1023)=(E<873):=propext ⟨fun h=>by omega,fun h=>by omega⟩
 have e4:E+(2^(8-1)-1)-1023=E-896:=by omega
 have e5:52-23+1+(1023-(E+(2^(8-1)-1)))=30+(896-E):=by omega
 simp only [e1,e2,e3,e4,e5]
theorem log2_bounds {F:Nat} (h:0<F):2^Nat.log2 F≤F∧F<2^(Nat.log2 F+1):=⟨Nat.log2_self_le (by omega),Nat.lt_log2_self⟩
theorem sub_norm {F fr l q:Nat} (hl:l=Nat.log2 F) (hF:0<F) (hfr:F<2^fr):2^fr≤F*2^(fr-l)∧F*2^(fr-l)<2^(fr+1)∧l<fr∧F*2^(fr-l)*2^q/2^(q+(fr-l))=F:=by
 obtain ⟨h1,h2⟩:=log2_bounds hF;rw [←hl] at h1 h2;have hlf:l<fr:=by
  rcases Nat.lt_or_ge l fr with h|h
  ·exact h
  ·have:=Nat.pow_le_pow_right (n:=2) (by omega) h
   omega
 have e1:2^l*2^(fr-l)=2^fr:=by rw [←Nat.pow_add];congr 1;omega
 have e2:2^(l+1)*2^(fr-l)=2^(fr+1):=by rw [←Nat.pow_add];congr 1;omega
 have hp:0<2^(fr-l):=Nat.pow_pos (by decide)
 refine ⟨by rw [←e1];exact Nat.mul_le_mul_right _ h1,by rw [←e2];exact Nat.mul_lt_mul_of_pos_right h2 hp,hlf,?_⟩
 rw [Nat.mul_assoc,←Nat.pow_add,Nat.add_comm (fr-l) q];exact Nat.mul_div_cancel _ (Nat.pow_pos (by decide))
theorem narrow_widen16 (v:Nat) (hv:v<65536):narrowF (widen v 5 10) 5 10=some v:=by
 obtain ⟨S,hS⟩: ∃S,S=v/32768%2:=⟨_,rfl⟩;obtain ⟨E,hE⟩: ∃E,E=v/1024%32:=⟨_,rfl⟩;obtain ⟨F,hF⟩: ∃F,F=v%1024:=⟨_,rfl⟩;rw [widen_split16 v S E F hS hE hF];have ev:v=S*32768+E*1024+F:=by omega
 by_cases h1:E=31
 ·rw [if_pos h1];rw [narrow_split16 _ S 2047 (F*4398046511104) (by omega) (by omega) (by omega),if_pos rfl]
  congr 1
  omega
 ·rw [if_neg h1];by_cases h2:0<E
  ·rw [if_pos h2];rw [narrow_split16 _ S (E+1008) (F*4398046511104) (by omega) (by omega) (by omega),if_neg (by omega),if_neg (by omega),if_pos (by omega)]
   congr 1
   omega
  ·rw [if_neg h2];by_cases h3:F=0
   ·rw [if_pos h3];rw [narrow_split16 _ S 0 0 (by omega) (by omega) (by omega),if_neg (by omega),if_neg (by omega),if_neg (by omega),if_pos (.inl rfl)]
    congr 1
    omega
   ·rw [if_neg h3];obtain ⟨l,hl⟩: ∃l,l=Nat.log2 F:=⟨_,rfl⟩;obtain ⟨g1,g2,g3,g4⟩:=sub_norm (q:=42) (fr:=10) hl (by omega) (by omega)
    rw [←hl];have g5:42+(10-l)=43+(1008-(999+l)):=by omega
    rw [g5] at g4;generalize hY:F*2^(10-l)=Y at *
    rw [show (2:Nat)^10=1024 by decide] at g1
    rw [show (2:Nat)^(10+1)=2048 by decide] at g2
    rw [narrow_split16 _ S (999+l) ((Y-1024)*4398046511104) (by omega) (by omega) (by omega),if_neg (by omega),if_neg (by omega),if_neg (by omega),if_neg (by omega),
     show 4503599627370496+(Y-1024)*4398046511104=Y*2^42 by omega,g4]
    congr 1
    omega
theorem narrow_widen32 (v:Nat) (hv:v<4294967296):narrowF (widen v 8 23) 8 23=some v:=by
 obtain ⟨S,hS⟩: ∃S,S=v/2147483648%2:=⟨_,rfl⟩;obtain ⟨E,hE⟩: ∃E,E=v/8388608%256:=⟨_,rfl⟩;obtain ⟨F,hF⟩: ∃F,F=v%8388608:=⟨_,rfl⟩;rw [widen_split32 v S E F hS hE hF];have ev:v=S*2147483648+E*8388608+F:=by omega
 by_cases h1:E=255
 ·rw [if_pos h1];rw [narrow_split32 _ S 2047 (F*536870912) (by omega) (by omega) (by omega),if_pos rfl]
  congr 1
  omega
 ·rw [if_neg h1];by_cases h2:0<E
  ·rw [if_pos h2];rw [narrow_split32 _ S (E+896) (F*536870912) (by omega) (by omega) (by omega),if_neg (by omega),if_neg (by omega),if_pos (by omega)]
   congr 1
   omega
  ·rw [if_neg h2];by_cases h3:F=0
   ·rw [if_pos h3];rw [narrow_split32 _ S 0 0 (by omega) (by omega) (by omega),if_neg (by omega),if_neg (by omega),if_neg (by omega),if_pos (.inl rfl)]
    congr 1
    omega
   ·rw [if_neg h3];obtain ⟨l,hl⟩: ∃l,l=Nat.log2 F:=⟨_,rfl⟩;obtain ⟨g1,g2,g3,g4⟩:=sub_norm (q:=29) (fr:=23) hl (by omega) (by omega)
    rw [←hl];have g5:29+(23-l)=30+(896-(874+l)):=by omega
    rw [g5] at g4;generalize hY:F*2^(23-l)=Y at *
    rw [show (2:Nat)^23=8388608 by decide] at g1
    rw [show (2:Nat)^(23+1)=16777216 by decide] at g2
    rw [narrow_split32 _ S (874+l) ((Y-8388608)*536870912) (by omega) (by omega) (by omega),if_neg (by omega),if_neg (by omega),if_neg (by omega),if_neg (by omega),
     show 4503599627370496+(Y-8388608)*536870912=Y*2^29 by omega,g4]
    congr 1
    omega
end
section
section
open Go.RowKit
def beB:Nat→Nat→List UInt8
 |0,_=>[]
 |k+1,n=>UInt8.ofNat (n/256^k%256)::beB k n
def lgB (form n:Nat):Nat:=if form≤1∧n<256 then 0 else if form≤2∧n<65536 then 1 else if form≤3∧n<4294967296 then 2 else 3
def headB (m n form:Nat):List UInt8:=
 if form=0∧n<24 then [UInt8.ofNat (m*32+n)] else UInt8.ofNat (m*32+24+lgB form n)::beB (2^lgB form n) n
theorem or_top (m a:Nat) (hm:m<8) (ha:a<32):bits .or .u8 ((m*32:Nat):Int) (a:Int)=((m*32+a:Nat):Int):=by
 have key: ∀(x:Fin 8) (y:Fin 32),bits .or .u8 ((x.val*32:Nat):Int) (y.val:Int)=((x.val*32+y.val:Nat):Int):=by decide+kernel
 exact key ⟨m,hm⟩ ⟨a,ha⟩
theorem headIn_small (m n:Nat) (hm:m<8) (hn:n<24) (w:World):
  Calls Tryz.prog 55 #[.int .i64 (m:Int),.int .u64 (n:Int),.int .i64 0] w fun e w'=>e= .returned (.string ⟨(headB m n 0).toArray⟩)∧Fr [] w w':=by
 have g1:(n:Int)<24:=by omega
 have g2:bits .or .u8 ((m:Int)*32) (n:Int)=(m:Int)*32+(n:Int):=by
  have:=or_top m n hm (by omega)
  simpa using this
 have g3:IntKind.u8.wrap (n:Int)=(n:Int):=by show (n:Int)%256=_;omega
 have g4:IntKind.u8.wrap (IntKind.i64.wrap ((m:Int)*32))=(m:Int)*32:=by
  have:IntKind.i64.wrap ((m:Int)*32)=(m:Int)*32:=by
   have h8:m<8:=hm;have:m=0∨m=1∨m=2∨m=3∨m=4∨m=5∨m=6∨m=7:=by omega
   rcases this with rfl|rfl|rfl|rfl|rfl|rfl|rfl|rfl<;>rfl
  rw [this]
  show ((m:Int)*32)%256=_
  omega
 have hh:headB m n 0=[UInt8.ofNat (m*32+n)]:=if_pos ⟨rfl,hn⟩;rw [hh];have hrd:Rd (w.alloc (.cells #[.int .u8 ((m:Int)*32+(n:Int))] 5)) w.heap.size 0 [UInt8.ofNat (m*32+n)]:=fun j hj=>by
  have hj0:j=0:=by simpa using hj
  subst hj0;refine (cell_blk (blk_new w _) 0).trans ?_
  have:(m*32+n)%256=m*32+n:=by omega
  simp [this]
 have hcv:(convert 59 9 (.slice (some ⟨w.heap.size,0,none⟩) 1 1)).run Tryz.prog (w.alloc (.cells #[.int .u8 ((m:Int)*32+(n:Int))] 5))= .ok (.string ⟨#[UInt8.ofNat (m*32+n)]⟩) (w.alloc (.cells #[.int .u8 ((m:Int)*32+(n:Int))] 5)):=toStr hrd 1;clear hrd;generalize UInt8.ofNat (m*32+n)=bb at *
 go_enter Tryz.func55,Tryz.ntmps55
 go_wp2_with (first|fail)
 go_ret
 exact ⟨rfl,(Fr.refl [] w).alloc _⟩
end
section
open Go.RowKit
theorem push_set (a:Array Obj) (x y:Obj):(a.push x).setIfInBounds a.size y=a.push y:=by
 apply Array.ext'
 simp
theorem ins (w:World) (es:Array MapEntry) (c:Nat) (k:Int) (v:Value) (hn:Instr.findNow (.int .i64) (.int .i64 k) es.toList 0=some none):
  (Instr.mapUpdate 130 (.map (some w.heap.size)) (.int .i64 k) v).run Tryz.prog (w.alloc (.map es c))= .ok () (w.alloc (.map (es.push {key:= .int .i64 k,val:=v,born:=c}) (c+1))):=by
 have hb:(w.alloc (.map es c)).heap[w.heap.size]? =some (.map es c):=blk_new w _;have hc:(Instr.checkKey false 10000 3 (.int .i64 k)).run Tryz.prog (w.alloc (.map es c))= .ok () (w.alloc (.map es c)):=MapKept.run_checkKey Tryz.underlying3 (by simp [MapKept.IsKey]) false 9999
 simp [Instr.mapUpdate,run_underlying Tryz.underlying130,MapKept.run_getObj_map hb,hc,MapKept.run_findKey Tryz.underlying3 hn,MapKept.run_setObj_map _ hb,Result.andThen]
 show ({w with heap:=(w.heap.push (.map es c)).setIfInBounds w.heap.size _}:World)=_
 rw [push_set]
 rfl
def headMap:Array MapEntry:= #[{key:= .int .i64 1,val:= .int .u8 24,born:=0},{key:= .int .i64 2,val:= .int .u8 25,born:=1},{key:= .int .i64 4,val:= .int .u8 26,born:=2},{key:= .int .i64 8,val:= .int .u8 27,born:=3}]
theorem look (w:World) (k:Int) (i:Nat) (v:Value) (hn:Instr.findNow (.int .i64) (.int .i64 k) headMap.toList 0=some (some (i,v))):
  (Instr.lookup 130 (.map (some w.heap.size)) (.int .i64 k) false).run Tryz.prog (w.alloc (.map headMap 4))= .ok v (w.alloc (.map headMap 4)):=by
 have hb:(w.alloc (.map headMap 4)).heap[w.heap.size]? =some (.map headMap 4):=blk_new w _;have hc: ∀b,(Instr.checkKey b 10000 3 (.int .i64 k)).run Tryz.prog (w.alloc (.map headMap 4))= .ok () (w.alloc (.map headMap 4)):=fun b=>MapKept.run_checkKey Tryz.underlying3 (by simp [MapKept.IsKey]) b 9999
 simp [Instr.lookup,run_underlying Tryz.underlying130,MapKept.run_getObj_map hb,hc,MapKept.run_findKey Tryz.underlying3 hn,Result.andThen]
end
end
end Go.Proofs.YteodinhkhhaafaaGreatDoor
