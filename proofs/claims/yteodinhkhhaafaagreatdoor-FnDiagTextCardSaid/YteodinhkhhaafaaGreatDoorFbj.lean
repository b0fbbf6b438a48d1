/- Walks of the program, and plain facts. -/
import Derived.Test.YteodinhkhhaafaaGreatDoorFbh
set_option linter.unusedVariables false
set_option linter.unusedSimpArgs false
set_option maxRecDepth 100000
set_option maxHeartbeats 6400000
namespace Go.Proofs.YteodinhkhhaafaaGreatDoor
section
set_option exponentiation.threshold 3000
open Go.RowKit
theorem some_inj {a b:Nat} (h:some a=some b):a=b:=Option.some.inj h
theorem widen_lt {v ex fr:Nat} (h:(ex=5∧fr=10∧v<65536)∨(ex=8∧fr=23∧v<4294967296)):widen v ex fr<18446744073709551616:=by
 rcases h with ⟨rfl,rfl,hv⟩|⟨rfl,rfl,hv⟩
 ·obtain ⟨S,hS⟩: ∃S,S=v/32768%2:=⟨_,rfl⟩;obtain ⟨E,hE⟩: ∃E,E=v/1024%32:=⟨_,rfl⟩;obtain ⟨F,hF⟩: ∃F,F=v%1024:=⟨_,rfl⟩;rw [widen_split16 v S E F hS hE hF]
  split
  ·omega
  ·split
   ·omega
   ·split
    ·omega
    ·rename_i h3;obtain ⟨g1,g2,g3,_⟩:=sub_norm (l:=Nat.log2 F) (q:=0) (fr:=10) rfl (by omega) (by omega)
     rw [show (2:Nat)^(10+1)=2048 by decide] at g2
     generalize F*2^(10-Nat.log2 F)=Y at *
     generalize Nat.log2 F=l at *
     omega
 ·obtain ⟨S,hS⟩: ∃S,S=v/2147483648%2:=⟨_,rfl⟩;obtain ⟨E,hE⟩: ∃E,E=v/8388608%256:=⟨_,rfl⟩;obtain ⟨F,hF⟩: ∃F,F=v%8388608:=⟨_,rfl⟩;rw [widen_split32 v S E F hS hE hF]
  split
  ·omega
  ·split
   ·omega
   ·split
    ·omega
    ·rename_i h3;obtain ⟨g1,g2,g3,_⟩:=sub_norm (l:=Nat.log2 F) (q:=0) (fr:=23) rfl (by omega) (by omega)
     rw [show (2:Nat)^(23+1)=16777216 by decide] at g2
     generalize F*2^(23-Nat.log2 F)=Y at *
     generalize Nat.log2 F=l at *
     omega
theorem narrowed16 (v:Nat) (hv:v<65536) (w:World):Calls Tryz.prog 107 #[.int .u64 (widen v 5 10:Int),.int .i64 5,.int .i64 10] w fun e w'=>e= .returned (.tuple #[.int .u64 (v:Int),.bool true])∧Fr [] w w':=by
 have KW:=Hz (fun w=>widened16 v hv w)
 have hb:=widen_lt (v:=v) (ex:=5) (fr:=10) (.inl ⟨rfl,rfl,hv⟩);have hn:=narrow_widen16 v hv;obtain ⟨b,hbb⟩: ∃b,widen v 5 10=b:=⟨_,rfl⟩;rw [hbb] at KW hb hn ⊢;replace hbb:=Hz hbb;obtain ⟨S,hS⟩: ∃S,S=b/9223372036854775808:=⟨_,rfl⟩;obtain ⟨E,hE⟩: ∃E,E=b/4503599627370496%2048:=⟨_,rfl⟩;obtain ⟨F,hF⟩: ∃F,F=b%4503599627370496:=⟨_,rfl⟩;rw [narrow_split16 b S E F hS hE hF] at hn;have bS:S≤1:=by omega
 have bE:E≤2047:=by omega
 have bF:F<4503599627370496:=by omega
 have a1:(b:Int)/9223372036854775808=(S:Int):=by omega
 have a2:bits .and .u64 ((b:Int)/4503599627370496) 2047=(E:Int):=by
  have h:=u64_and_nat (b/4503599627370496) 2047 (by omega) (by omega)
  rw [show b/4503599627370496&&&2047=b/4503599627370496%2048 from Nat.and_two_pow_sub_one_eq_mod (b/4503599627370496) 11,←hE,show ((b/4503599627370496:Nat):Int)=(b:Int)/4503599627370496 by omega] at h
  exact h
 have a3:bits .and .u64 (b:Int) 4503599627370495=(F:Int):=by
  have h:=u64_and_nat b 4503599627370495 (by omega) (by omega)
  rw [show b&&&4503599627370495=b%4503599627370496 from Nat.and_two_pow_sub_one_eq_mod b 52,←hF] at h
  exact h
 have c0:IntKind.i64.wrap (E:Int)=(E:Int):=IntWalk.i64_in _ (by omega)
 obtain ⟨P,hP⟩: ∃P,P=S*32768:=⟨_,rfl⟩;have c1:IntKind.u64.wrap ((S:Int)*32768)=(P:Int):=by rw [IntWalk.u64_in _ (by omega)];omega
 have hbi:((b:Int)==(b:Int))=true:=by simp
 clear hS hE hF hb;by_cases h1:E=2047
 ·rw [if_pos h1] at hn;have e1:=some_inj hn;have t1:((E:Int)==2047)=true:=by simp;omega
  have u1:(E:Int)=2047:=by omega
  obtain ⟨G,hG⟩: ∃G,G=F/4398046511104:=⟨_,rfl⟩;have c2:(F:Int)/4398046511104=(G:Int):=by omega
  have o1:bits .or .u64 (P:Int) 31744=((P+31744:Nat):Int):=by
   have:=or_lo 15 (a:=S) (b:=31744) (n:=32768) (by rfl) (by omega) (by omega)
   rw [←hP] at this;exact this
  have o2:bits .or .u64 ((P+31744:Nat):Int) (G:Int)=(v:Int):=by
   have:=or_lo 10 (a:=S*32+31) (b:=G) (n:=1024) (by rfl) (by omega) (by omega)
   rw [show (S*32+31)*1024=P+31744 by omega] at this
   rw [this];omega
  obtain ⟨Q,hQ⟩: ∃Q,Q=P+31744:=⟨_,rfl⟩;rw [←hQ] at o1 o2;replace hQ:=Hz hQ;replace hP:=Hz hP;replace hG:=Hz hG;clear h1 u1 bS bE bF hn e1;go_enter Tryz.func107,Tryz.ntmps107
  go_wp2
  go_quiet (fail)
  go_wp2_with fail
  refine (KW.out _).mono ?_
  rintro e w1 ⟨rfl,hf1⟩;go_wp2
  go_ret2
  exact ⟨rfl,((Fr.refl [] w).drewN _).trans hf1⟩
 ·rw [if_neg h1] at hn;have t1:((E:Int)==2047)=false:=by simp;omega
  have u1: ¬(E:Int)=2047:=by omega
  by_cases h2:1039≤E
  ·rw [if_pos h2] at hn;cases hn
  ·rw [if_neg h2] at hn;have t2: ¬(31:Int)≤(E:Int)-1023+15:=by omega
   have d1:IntKind.i64.wrap ((E:Int)-1023)=(E:Int)-1023:=IntWalk.i64_in _ (by omega)
   have d2:IntKind.i64.wrap ((E:Int)-1023+15)=(E:Int)-1023+15:=IntWalk.i64_in _ (by omega)
   by_cases h3:1008<E
   ·rw [if_pos h3] at hn;have e1:=some_inj hn;have t3:(0:Int)<(E:Int)-1023+15:=by omega
    obtain ⟨G,hG⟩: ∃G,G=F/4398046511104:=⟨_,rfl⟩;have c2:(F:Int)/4398046511104=(G:Int):=by omega
    obtain ⟨D,hD⟩: ∃D,D=(E-1008)*1024:=⟨_,rfl⟩;have c3:IntKind.u64.wrap ((E:Int)-1023+15)=(E:Int)-1023+15:=IntWalk.u64_in _ (by omega)
    have c4:IntKind.u64.wrap (((E:Int)-1023+15)*1024)=(D:Int):=by rw [IntWalk.u64_in _ (by omega)];omega
    have o1:bits .or .u64 (P:Int) (D:Int)=((P+D:Nat):Int):=by
     have:=or_lo 15 (a:=S) (b:=D) (n:=32768) (by rfl) (by omega) (by omega)
     rw [←hP] at this;exact this
    have o2:bits .or .u64 ((P+D:Nat):Int) (G:Int)=(v:Int):=by
     have:=or_lo 10 (a:=S*32+(E-1008)) (b:=G) (n:=1024) (by rfl) (by omega) (by omega)
     rw [show (S*32+(E-1008))*1024=P+D from (by rw [hP,hD,Nat.add_mul,Nat.mul_assoc])] at this
     rw [this];omega
    obtain ⟨Q,hQ⟩: ∃Q,Q=P+D:=⟨_,rfl⟩;rw [←hQ] at o1 o2;replace hQ:=Hz hQ;replace hP:=Hz hP;replace hG:=Hz hG;replace hD:=Hz hD;clear h1 h2 h3 bS bE bF hn e1;go_enter Tryz.func107,Tryz.ntmps107
    go_wp2
    go_quiet (fail)
    go_wp2_with fail
    refine (KW.out _).mono ?_
    rintro e w1 ⟨rfl,hf1⟩;go_wp2
    go_ret2
    exact ⟨rfl,((Fr.refl [] w).drewN _).trans hf1⟩
   ·rw [if_neg h3] at hn;have t3: ¬(0:Int)<(E:Int)-1023+15:=by omega
    by_cases h4:E=0∨E<998
    ·rw [if_pos h4] at hn;have e1:=some_inj hn;obtain rfl:P=v:=by omega
     replace hP:=Hz hP;by_cases h5:E=0
     ·subst h5;clear h1 h2 h3 h4 bS bE bF hn e1;go_enter Tryz.func107,Tryz.ntmps107
      go_wp2_with fail
      refine (KW.out _).mono ?_
      rintro e w1 ⟨rfl,hf1⟩;go_wp2
      go_ret2
      exact ⟨rfl,hf1⟩
     ·have t4:((E:Int)==0)=false:=by simp;omega
      have u4: ¬(E:Int)=0:=by omega
      have t5:(E:Int)-1023+15< -10:=by omega
      clear h1 h2 h3 h4 h5 bS bE bF hn e1;go_enter Tryz.func107,Tryz.ntmps107
      go_wp2_with fail
      refine (KW.out _).mono ?_
      rintro e w1 ⟨rfl,hf1⟩;go_wp2
      go_ret2
      exact ⟨rfl,hf1⟩
    ·rw [if_neg h4] at hn;have e1:=some_inj hn;have t4:((E:Int)==0)=false:=by simp;omega
     have u4: ¬(E:Int)=0:=by omega
     have t5: ¬(E:Int)-1023+15< -10:=by omega
     have o0:bits .or .u64 4503599627370496 (F:Int)=((4503599627370496+F:Nat):Int):=by
      have:=or_lo 52 (a:=1) (b:=F) (n:=4503599627370496) (by rfl) (by omega) (by omega)
      rw [Nat.one_mul] at this;exact this
     obtain ⟨Y,hY⟩: ∃Y,Y=4503599627370496+F:=⟨_,rfl⟩;rw [←hY] at o0 e1;obtain ⟨n,hn2⟩: ∃n,n=43+(1008-E):=⟨_,rfl⟩;rw [←hn2] at e1;have en:(43-((E:Int)-1023+15)).toNat=n:=by omega
     have hG:Y/2^n<1024:=by
      have h5:Y/2^n≤Y/2^43:=Nat.div_le_div_left (Nat.pow_le_pow_right (by omega) (by omega)) (Nat.pow_pos (by omega))
      have h6:Y/2^43<1024:=by
       rw [Nat.div_lt_iff_lt_mul (Nat.pow_pos (by omega))]
       have:(2:Nat)^43*1024=9007199254740992:=by rfl
       omega
      omega
     have o2:bits .or .u64 ((S:Int)*32768) ((Y:Int)/2^(43-((E:Int)-1023+15)).toNat)=(v:Int):=by
      have h5:=or_lo 15 (a:=S) (b:=Y/2^n) (n:=32768) (by rfl) (by omega) (by omega)
      rw [e1] at h5;rw [en,show (S:Int)*32768=((S*32768:Nat):Int) by omega]
      rw [←h5]
      congr 1
     clear hn e1 hG en hn2 hY;go_enter Tryz.func107,Tryz.ntmps107
     go_wp2_with fail
     refine (KW.out _).mono ?_
     rintro e w1 ⟨rfl,hf1⟩;go_wp2
     go_ret2
     exact ⟨rfl,hf1⟩
theorem specHalf (v:Nat) (hv:v<65536) (w:World):Calls Tryz.prog 89 #[.int .u64 (widen v 5 10:Int)] w fun e w'=>e= .returned (.tuple #[.int .u16 (v:Int),.bool true])∧Fr [] w w':=by
 have K:=Hz (fun w=>narrowed16 v hv w)
 have c:IntKind.u16.wrap (v:Int)=(v:Int):=by show (v:Int)%65536=_;omega
 obtain ⟨b,hbb⟩: ∃b,widen v 5 10=b:=⟨_,rfl⟩;rw [hbb] at K ⊢;go_enter Tryz.func89,Tryz.ntmps89
 go_wp2_with fail
 refine (K.out _).mono ?_
 rintro e w1 ⟨rfl,hf⟩;go_wp2
 go_ret2
 exact ⟨rfl,hf⟩
theorem narrowed32 (v:Nat) (hv:v<4294967296) (w:World):Calls Tryz.prog 107 #[.int .u64 (widen v 8 23:Int),.int .i64 8,.int .i64 23] w fun e w'=>e= .returned (.tuple #[.int .u64 (v:Int),.bool true])∧Fr [] w w':=by
 have KW:=Hz (fun w=>widened32 v hv w)
 have hb:=widen_lt (v:=v) (ex:=8) (fr:=23) (.inr ⟨rfl,rfl,hv⟩);have hn:=narrow_widen32 v hv;obtain ⟨b,hbb⟩: ∃b,widen v 8 23=b:=⟨_,rfl⟩;rw [hbb] at KW hb hn ⊢;replace hbb:=Hz hbb;obtain ⟨S,hS⟩: ∃S,S=b/9223372036854775808:=⟨_,rfl⟩;obtain ⟨E,hE⟩: ∃E,E=b/4503599627370496%2048:=⟨_,rfl⟩;obtain ⟨F,hF⟩: ∃F,F=b%4503599627370496:=⟨_,rfl⟩;rw [narrow_split32 b S E F hS hE hF] at hn;have bS:S≤1:=by omega
 have bE:E≤2047:=by omega
 have bF:F<4503599627370496:=by omega
 have a1:(b:Int)/9223372036854775808=(S:Int):=by omega
 have a2:bits .and .u64 ((b:Int)/4503599627370496) 2047=(E:Int):=by
  have h:=u64_and_nat (b/4503599627370496) 2047 (by omega) (by omega)
  rw [show b/4503599627370496&&&2047=b/4503599627370496%2048 from Nat.and_two_pow_sub_one_eq_mod (b/4503599627370496) 11,←hE,show ((b/4503599627370496:Nat):Int)=(b:Int)/4503599627370496 by omega] at h
  exact h
 have a3:bits .and .u64 (b:Int) 4503599627370495=(F:Int):=by
  have h:=u64_and_nat b 4503599627370495 (by omega) (by omega)
  rw [show b&&&4503599627370495=b%4503599627370496 from Nat.and_two_pow_sub_one_eq_mod b 52,←hF] at h
  exact h
 have c0:IntKind.i64.wrap (E:Int)=(E:Int):=IntWalk.i64_in _ (by omega)
 obtain ⟨P,hP⟩: ∃P,P=S*2147483648:=⟨_,rfl⟩;have c1:IntKind.u64.wrap ((S:Int)*2147483648)=(P:Int):=by rw [IntWalk.u64_in _ (by omega)];omega
 have hbi:((b:Int)==(b:Int))=true:=by simp
 clear hS hE hF hb;by_cases h1:E=2047
 ·rw [if_pos h1] at hn;have e1:=some_inj hn;have t1:((E:Int)==2047)=true:=by simp;omega
  have u1:(E:Int)=2047:=by omega
  obtain ⟨G,hG⟩: ∃G,G=F/536870912:=⟨_,rfl⟩;have c2:(F:Int)/536870912=(G:Int):=by omega
  have o1:bits .or .u64 (P:Int) 2139095040=((P+2139095040:Nat):Int):=by
   have:=or_lo 31 (a:=S) (b:=2139095040) (n:=2147483648) (by rfl) (by omega) (by omega)
   rw [←hP] at this;exact this
  have o2:bits .or .u64 ((P+2139095040:Nat):Int) (G:Int)=(v:Int):=by
   have:=or_lo 23 (a:=S*256+255) (b:=G) (n:=8388608) (by rfl) (by omega) (by omega)
   rw [show (S*256+255)*8388608=P+2139095040 by omega] at this
   rw [this];omega
  obtain ⟨Q,hQ⟩: ∃Q,Q=P+2139095040:=⟨_,rfl⟩;rw [←hQ] at o1 o2;replace hQ:=Hz hQ;replace hP:=Hz hP;replace hG:=Hz hG;clear h1 u1 bS bE bF hn e1;go_enter Tryz.func107,Tryz.ntmps107
  go_wp2
  go_quiet (fail)
  go_wp2_with fail
  refine (KW.out _).mono ?_
  rintro e w1 ⟨rfl,hf1⟩;go_wp2
  go_ret2
  exact ⟨rfl,((Fr.refl [] w).drewN _).trans hf1⟩
 ·rw [if_neg h1] at hn;have t1:((E:Int)==2047)=false:=by simp;omega
  have u1: ¬(E:Int)=2047:=by omega
  by_cases h2:1151≤E
  ·rw [if_pos h2] at hn;cases hn
  ·rw [if_neg h2] at hn;have t2: ¬(255:Int)≤(E:Int)-1023+127:=by omega
   have d1:IntKind.i64.wrap ((E:Int)-1023)=(E:Int)-1023:=IntWalk.i64_in _ (by omega)
   have d2:IntKind.i64.wrap ((E:Int)-1023+127)=(E:Int)-1023+127:=IntWalk.i64_in _ (by omega)
   by_cases h3:896<E
   ·rw [if_pos h3] at hn;have e1:=some_inj hn;have t3:(0:Int)<(E:Int)-1023+127:=by omega
    obtain ⟨G,hG⟩: ∃G,G=F/536870912:=⟨_,rfl⟩;have c2:(F:Int)/536870912=(G:Int):=by omega
    obtain ⟨D,hD⟩: ∃D,D=(E-896)*8388608:=⟨_,rfl⟩;have c3:IntKind.u64.wrap ((E:Int)-1023+127)=(E:Int)-1023+127:=IntWalk.u64_in _ (by omega)
    have c4:IntKind.u64.wrap (((E:Int)-1023+127)*8388608)=(D:Int):=by rw [IntWalk.u64_in _ (by omega)];omega
    have o1:bits .or .u64 (P:Int) (D:Int)=((P+D:Nat):Int):=by
     have:=or_lo 31 (a:=S) (b:=D) (n:=2147483648) (by rfl) (by omega) (by omega)
     rw [←hP] at this;exact this
    have o2:bits .or .u64 ((P+D:Nat):Int) (G:Int)=(v:Int):=by
     have:=or_lo 23 (a:=S*256+(E-896)) (b:=G) (n:=8388608) (by rfl) (by omega) (by omega)
     rw [show (S*256+(E-896))*8388608=P+D from (by rw [hP,hD,Nat.add_mul,Nat.mul_assoc])] at this
     rw [this];omega
    obtain ⟨Q,hQ⟩: ∃Q,Q=P+D:=⟨_,rfl⟩;rw [←hQ] at o1 o2;replace hQ:=Hz hQ;replace hP:=Hz hP;replace hG:=Hz hG;replace hD:=Hz hD;clear h1 h2 h3 bS bE bF hn e1;go_enter Tryz.func107,Tryz.ntmps107
    go_wp2
    go_quiet (fail)
    go_wp2_with fail
    refine (KW.out _).mono ?_
    rintro e w1 ⟨rfl,hf1⟩;go_wp2
    go_ret2
    exact ⟨rfl,((Fr.refl [] w).drewN _).trans hf1⟩
   ·rw [if_neg h3] at hn;have t3: ¬(0:Int)<(E:Int)-1023+127:=by omega
    by_cases h4:E=0∨E<873
    ·rw [if_pos h4] at hn;have e1:=some_inj hn;obtain rfl:P=v:=by omega
     replace hP:=Hz hP;by_cases h5:E=0
     ·subst h5;clear h1 h2 h3 h4 bS bE bF hn e1;go_enter Tryz.func107,Tryz.ntmps107
      go_wp2_with fail
      refine (KW.out _).mono ?_
      rintro e w1 ⟨rfl,hf1⟩;go_wp2
      go_ret2
      exact ⟨rfl,hf1⟩
     ·have t4:((E:Int)==0)=false:=by simp;omega
      have u4: ¬(E:Int)=0:=by omega
      have t5:(E:Int)-1023+127< -23:=by omega
      clear h1 h2 h3 h4 h5 bS bE bF hn e1;go_enter Tryz.func107,Tryz.ntmps107
      go_wp2_with fail
      refine (KW.out _).mono ?_
      rintro e w1 ⟨rfl,hf1⟩;go_wp2
      go_ret2
      exact ⟨rfl,hf1⟩
    ·rw [if_neg h4] at hn;have e1:=some_inj hn;have t4:((E:Int)==0)=false:=by simp;omega
     have u4: ¬(E:Int)=0:=by omega
     have t5: ¬(E:Int)-1023+127< -23:=by omega
     have o0:bits .or .u64 4503599627370496 (F:Int)=((4503599627370496+F:Nat):Int):=by
      have:=or_lo 52 (a:=1) (b:=F) (n:=4503599627370496) (by rfl) (by omega) (by omega)
      rw [Nat.one_mul] at this;exact this
     obtain ⟨Y,hY⟩: ∃Y,Y=4503599627370496+F:=⟨_,rfl⟩;rw [←hY] at o0 e1;obtain ⟨n,hn2⟩: ∃n,n=30+(896-E):=⟨_,rfl⟩;rw [←hn2] at e1;have en:(30-((E:Int)-1023+127)).toNat=n:=by omega
     have hG:Y/2^n<8388608:=by
      have h5:Y/2^n≤Y/2^30:=Nat.div_le_div_left (Nat.pow_le_pow_right (by omega) (by omega)) (Nat.pow_pos (by omega))
      have h6:Y/2^30<8388608:=by
       rw [Nat.div_lt_iff_lt_mul (Nat.pow_pos (by omega))]
       have:(2:Nat)^30*8388608=9007199254740992:=by rfl
       omega
      omega
     have o2:bits .or .u64 ((S:Int)*2147483648) ((Y:Int)/2^(30-((E:Int)-1023+127)).toNat)=(v:Int):=by
      have h5:=or_lo 31 (a:=S) (b:=Y/2^n) (n:=2147483648) (by rfl) (by omega) (by omega)
      rw [e1] at h5;rw [en,show (S:Int)*2147483648=((S*2147483648:Nat):Int) by omega]
      rw [←h5]
      congr 1
     clear hn e1 hG en hn2 hY;go_enter Tryz.func107,Tryz.ntmps107
     go_wp2_with fail
     refine (KW.out _).mono ?_
     rintro e w1 ⟨rfl,hf1⟩;go_wp2
     go_ret2
     exact ⟨rfl,hf1⟩
theorem specSingle (v:Nat) (hv:v<4294967296) (w:World):Calls Tryz.prog 90 #[.int .u64 (widen v 8 23:Int)] w fun e w'=>e= .returned (.tuple #[.int .u32 (v:Int),.bool true])∧Fr [] w w':=by
 have K:=Hz (fun w=>narrowed32 v hv w)
 have c:IntKind.u32.wrap (v:Int)=(v:Int):=by show (v:Int)%4294967296=_;omega
 obtain ⟨b,hbb⟩: ∃b,widen v 8 23=b:=⟨_,rfl⟩;rw [hbb] at K ⊢;go_enter Tryz.func90,Tryz.ntmps90
 go_wp2_with fail
 refine (K.out _).mono ?_
 rintro e w1 ⟨rfl,hf⟩;go_wp2
 go_ret2
 exact ⟨rfl,hf⟩
end
section
open Go.RowKit
def fltH (ai v:Nat):List UInt8:=UInt8.ofNat (224+ai)::beB (2^(ai-24)) v
theorem ofNat_mod (n:Nat):UInt8.ofNat (n%256)=UInt8.ofNat n:=by
 apply UInt8.toNat_inj.1
 simp
theorem fltH_16 (v:Nat):fltH 25 v=[249,UInt8.ofNat (v/256),UInt8.ofNat v]:=by
 simp [fltH,beB,ofNat_mod]
theorem fltH_32 (v:Nat):fltH 26 v=[250,UInt8.ofNat (v/16777216),UInt8.ofNat (v/65536),UInt8.ofNat (v/256),UInt8.ofNat v]:=by
 simp [fltH,beB,ofNat_mod]
theorem hd_fltH (ai v:Nat) (ha:ai=25∨ai=26∨ai=27) (hv:v<256^2^(ai-24)) (pre post:List UInt8):hd (pre++(fltH ai v++post)) pre.length= .ok (7,ai,v,pre.length+(fltH ai v).length):=by
 have h1:(UInt8.ofNat (224+ai)).toNat=224+ai:=by simp;omega
 unfold hd fltH;simp only [List.cons_append,List.getElem?_append_right (Nat.le_refl _),Nat.sub_self,List.getElem?_cons_zero,h1];have a1:(224+ai)/32=7:=by omega
 have a2:(224+ai)%32=ai:=by omega
 rw [a1,a2,if_neg (by omega),if_pos (by omega)]
 have hlen:(pre++UInt8.ofNat (224+ai)::(beB (2^(ai-24)) v++post)).length=pre.length+1+2^(ai-24)+post.length:=by
  simp [beB_length];omega
 rw [if_neg (by rw [hlen];omega),if_neg (by omega)]
 have hd1:List.drop (pre.length+1) (pre++UInt8.ofNat (224+ai)::(beB (2^(ai-24)) v++post))=beB (2^(ai-24)) v++post:=by
  rw [List.drop_append,List.drop_eq_nil_of_le (by omega),List.nil_append,show pre.length+1-pre.length=1 from by omega]
  rfl
 rw [hd1,List.take_append_of_le_length (by rw [beB_length];omega),List.take_of_length_le (by rw [beB_length];omega),be_beB0 _ _ hv]
 simp [beB_length];omega
theorem u8w (n:Nat):IntKind.u8.wrap (n:Int)=((UInt8.ofNat n).toNat:Int):=by
 show (n:Int)%256=_
 simp
theorem sized16 (v:Nat) (hv:v<65536) (w:World):Calls Tryz.prog 74 #[.int .u64 (widen v 5 10:Int),.int .i64 2] w fun e w'=>e= .returned (.string ⟨(fltH 25 v).toArray⟩)∧Fr [] w w':=by
 have K:=Hz (fun w=>specHalf v hv w)
 obtain ⟨b,hbb⟩: ∃b,widen v 5 10=b:=⟨_,rfl⟩;rw [hbb] at K ⊢;obtain ⟨R,hR⟩: ∃R,fltH 25 v=R:=⟨_,rfl⟩;rw [hR];rw [fltH_16] at hR;have s1:IntKind.u8.wrap ((v:Int)/256)=((UInt8.ofNat (v/256)).toNat:Int):=by rw [←u8w];rfl
 have s2:IntKind.u8.wrap (v:Int)=((UInt8.ofNat v).toNat:Int):=u8w v;obtain ⟨x,hx⟩: ∃x,UInt8.ofNat (v/256)=x:=⟨_,rfl⟩;obtain ⟨y,hy⟩: ∃y,UInt8.ofNat v=y:=⟨_,rfl⟩;rw [hx] at s1 hR;rw [hy] at s2 hR;replace hR:=Hz hR;clear hx hy;go_enter Tryz.func74,Tryz.ntmps74
 go_wp2_with fail
 refine (K.out _).mono ?_
 rintro e w1 ⟨rfl,hf⟩;have hrd:Rd (w1.alloc (.cells #[.int .u8 (x.toNat:Int),.int .u8 (y.toNat:Int)] 5 (0,0))) w1.heap.size 0 [x,y]:=rd_new (w:=w1) (s:=[x,y]) rfl (by simp only [enc,List.map_cons,List.map_nil])
 have ht:=toStr hrd 2;have ht2:(convert 59 9 (.slice (some ⟨w1.heap.size,0,none⟩) 2 2)).run Tryz.prog (w1.alloc (.cells #[.int .u8 (x.toNat:Int),.int .u8 (y.toNat:Int)] 5 (0,0)))= .ok (.string ⟨([x,y]:List UInt8).toArray⟩) (w1.alloc (.cells #[.int .u8 (x.toNat:Int),.int .u8 (y.toNat:Int)] 5 (0,0))):=ht;clear hrd ht;go_wp2;go_ret
 exact ⟨by rw [←hR.out];rw [←show ([249]:List UInt8)++[x,y]=[249,x,y] from rfl,←mk_append];rfl,hf.alloc _⟩
theorem sized32 (v:Nat) (hv:v<4294967296) (w:World):Calls Tryz.prog 74 #[.int .u64 (widen v 8 23:Int),.int .i64 4] w fun e w'=>e= .returned (.string ⟨(fltH 26 v).toArray⟩)∧Fr [] w w':=by
 have K:=Hz (fun w=>specSingle v hv w)
 obtain ⟨b,hbb⟩: ∃b,widen v 8 23=b:=⟨_,rfl⟩;rw [hbb] at K ⊢;obtain ⟨R,hR⟩: ∃R,fltH 26 v=R:=⟨_,rfl⟩;rw [hR];rw [fltH_32] at hR;have s0:IntKind.u8.wrap ((v:Int)/16777216)=((UInt8.ofNat (v/16777216)).toNat:Int):=by rw [←u8w];rfl
 have s1:IntKind.u8.wrap ((v:Int)/65536)=((UInt8.ofNat (v/65536)).toNat:Int):=by rw [←u8w];rfl
 have s2:IntKind.u8.wrap ((v:Int)/256)=((UInt8.ofNat (v/256)).toNat:Int):=by rw [←u8w];rfl
 have s3:IntKind.u8.wrap (v:Int)=((UInt8.ofNat v).toNat:Int):=u8w v;obtain ⟨x,hx⟩: ∃x,UInt8.ofNat (v/16777216)=x:=⟨_,rfl⟩;obtain ⟨y,hy⟩: ∃y,UInt8.ofNat (v/65536)=y:=⟨_,rfl⟩;obtain ⟨z,hz⟩: ∃z,UInt8.ofNat (v/256)=z:=⟨_,rfl⟩;obtain ⟨t,ht0⟩: ∃t,UInt8.ofNat v=t:=⟨_,rfl⟩;rw [hx] at s0 hR;rw [hy] at s1 hR;rw [hz] at s2 hR;rw [ht0] at s3 hR;replace hR:=Hz hR;clear hx hy hz ht0;go_enter Tryz.func74,Tryz.ntmps74
 go_wp2_with fail
 refine (K.out _).mono ?_
 rintro e w1 ⟨rfl,hf⟩;have hrd:Rd (w1.alloc (.cells #[.int .u8 (x.toNat:Int),.int .u8 (y.toNat:Int),.int .u8 (z.toNat:Int),.int .u8 (t.toNat:Int)] 5 (0,0))) w1.heap.size 0 [x,y,z,t]:=rd_new (w:=w1) (s:=[x,y,z,t]) rfl (by simp only [enc,List.map_cons,List.map_nil])
 have ht:=toStr hrd 4;have ht2:(convert 59 9 (.slice (some ⟨w1.heap.size,0,none⟩) 4 4)).run Tryz.prog (w1.alloc (.cells #[.int .u8 (x.toNat:Int),.int .u8 (y.toNat:Int),.int .u8 (z.toNat:Int),.int .u8 (t.toNat:Int)] 5 (0,0)))= .ok (.string ⟨([x,y,z,t]:List UInt8).toArray⟩) (w1.alloc (.cells #[.int .u8 (x.toNat:Int),.int .u8 (y.toNat:Int),.int .u8 (z.toNat:Int),.int .u8 (t.toNat:Int)] 5 (0,0))):=ht;clear hrd ht;go_wp2;go_ret
 exact ⟨by rw [←hR.out];rw [←show ([250]:List UInt8)++[x,y,z,t]=[250,x,y,z,t] from rfl,←mk_append];rfl,hf.alloc _⟩
theorem beB_take: ∀k n,∀j,j≤k→(beB k n).take j++beB (k-j) n=beB k n
 |0,n,j,h=>by
  obtain rfl:j=0:=by omega
  simp
 |k+1,n,0,h=>by simp
 |k+1,n,j+1,h=>by
  rw [show k+1-(j+1)=k-j by omega,beB,List.take_succ_cons,List.cons_append,beB_take k n j (by omega)]
theorem sized64 (v:Nat) (hv:v<18446744073709551616) (w:World):Calls Tryz.prog 74 #[.int .u64 (v:Int),.int .i64 8] w fun e w'=>e= .returned (.string ⟨(fltH 27 v).toArray⟩)∧Fr [] w w':=by
 obtain ⟨R,hR⟩: ∃R,fltH 27 v=R:=⟨_,rfl⟩;rw [hR];have hl:Hid (∀j,j≤8→R.length=9∧R=R.take (1+j)++beB (8-j) v):=Hz (fun j hj=>by
  rw [←hR];refine ⟨by simp [fltH,beB_length],?_⟩
  unfold fltH;rw [Nat.add_comm 1 j,List.take_succ_cons,List.cons_append,show 2^(27-24)=8 from rfl,beB_take 8 v j hj])
 have h0:Hid (R.take 1=[251]):=Hz (by rw [←hR];rfl)
 clear hR;have s1:=row_one w (B:=w.heap.size) rfl (Nat.le_refl _) 251 251 rfl;go_enter Tryz.func74,Tryz.ntmps74
 go_wp2
 go_loopg [9,10] 9 (fun gk v9 v10 wr=> ∃j:Nat,j≤8∧gk+j=9∧v10= .int .i64 (7-(j:Int))∧Row wr w.heap.size v9 (R.take (1+j))∧Fr [] w wr)
 case atStart=>
  refine ⟨0,by omega,by omega,by go_num,?_,(Fr.refl _ _).alloc _⟩
  rw [h0.out];exact s1
 case round=>
  obtain ⟨j,hj,hgk,rfl,hrow,hF⟩:=hrel;obtain ⟨ao,n,c,rfl⟩:=hrow.shape;obtain ⟨g',rfl⟩: ∃g',gk=g'+1:=⟨gk-1,by omega⟩
  by_cases hk:j=8
  ·subst hk;have hR8:R.take (1+8)=R:=List.take_of_length_le (by have:=(hl.out 8 (by omega)).1;omega)
   rw [hR8] at hrow;obtain ⟨g,cap,hv2,hrd⟩:=hrow.atR (by intro e;have:=(hl.out 8 (by omega)).1;rw [e] at this;simp at this)
   have ht:=toStr hrd cap;cases hv2
   clear hrd hrow hR8 h0 s1;go_wp2;go_ret
   exact ⟨rfl,hF⟩
  ·have hj7:j≤7:=by omega
   obtain ⟨x,hx⟩: ∃x,x=UInt8.ofNat (v/256^(7-j)%256):=⟨_,rfl⟩;have hsh:(v:Int)/2^(8*(7-j))%256=(x.toNat:Int):=by
    have h1:=u8_wrap_div v (7-j);rw [←hx] at h1;rw [←h1]
    show _=((v:Int)/((256^(7-j):Nat):Int))%256
    rw [show (256:Nat)^(7-j)=2^(8*(7-j)) by rw [show (256:Nat)=2^8 from rfl,←Nat.pow_mul],Int.natCast_pow]
    rfl
   have hnext:Hid (R.take (1+(j+1))=R.take (1+j)++[x]):=Hz (by
    obtain ⟨h1,h2⟩:=hl.out j hj;rw [show 8-j=(7-j)+1 by omega,beB,←hx] at h2
    have h3:=congrArg (List.take (1+(j+1))) h2;rw [List.take_append,List.length_take,h1,Nat.min_eq_left (by omega),show 1+(j+1)-(1+j)=1 by omega,List.take_take,Nat.min_eq_right (by omega)] at h3
    rw [h3]
    rfl)
   have tj:(0:Int)≤7-(j:Int):=by omega
   have w8:IntKind.i64.wrap (8*(7-(j:Int)))=8*(7-(j:Int)):=IntWalk.i64_in _ (by omega)
   have hm:(0:Int)≤8*(7-(j:Int)):=by omega
   have hm2: ¬8*(7-(j:Int))<0:=by omega
   have hr1:Row (wr.alloc (.cells #[.int .u8 (x.toNat:Int)] 5)) w.heap.size (.slice ao n c) (R.take (1+j)):=World.ownsRow.alloc hrow _;have hrd:Rd (wr.alloc (.cells #[.int .u8 (x.toNat:Int)] 5)) wr.heap.size 0 [x]:=rd_new (w:=wr) (s:=[x]) rfl (by simp only [enc,List.map_cons,List.map_nil])
   have hsF:=hF.size;have hB2:Hid (w.heap.size≤(wr.alloc (.cells #[.int .u8 (x.toNat:Int)] 5)).heap.size):=Hz (by simp;omega)
   have hl2:Hid ((R.take (1+j)).length+[x].length≤140737488355328):=Hz (by simp;omega)
   obtain ⟨A,hA⟩: ∃A,R.take (1+j)=A:=⟨_,rfl⟩;rw [hA] at hr1 hl2 hnext;replace hr1:=Hz hr1;replace hrd:=Hz hrd;clear hx hrow hA h0 s1;go_wp2_with (at_builtin;refine wpList_apRow rfl _ _ rfl (B:=w.heap.size) _ A [x] wr.heap.size 0 1 rfl rfl hrd.out hr1.out hB2.out hl2.out ?_)
   intro v' w' hrow' hg;have hF2:Fr [] w w':=(hF.alloc _).grown hg (fun k hk=> .inr (World.ownsRow.lt hr1.out k hk).1)
   obtain ⟨ao2,n2,c2,rfl⟩:=hrow'.shape;replace hrow':=Hz hrow';clear hg;go_wp2
   go_roundg g'
   case measure=>omega
   case rel=>exact ⟨j+1,by omega,by omega,by go_num,by rw [hnext.out];exact hrow'.out,hF2⟩
end
section
open Go.RowKit
mutual
def AllN (p:Tr→Prop):Tr→Prop
 | .int a b=>p (.int a b)
 | .str a b=>p (.str a b)
 | .chk a l=>p (.chk a l)∧AllNs p l
 | .arr a l=>p (.arr a l)∧AllNs p l
 | .map a l=>p (.map a l)∧AllNs p l
 | .tag a t=>p (.tag a t)∧AllN p t
 | .prim a b=>p (.prim a b)
def AllNs (p:Tr→Prop):List Tr→Prop
 |[]=>True
 |t::l=>AllN p t∧AllNs p l
end
def Few (B:Nat) (t:Tr):Prop:=t.ks.length≤B∧(gn t).tex.length≤B
mutual
theorem enc_few {xs:List UInt8}: ∀(t:Tr) (off o:Nat),Enc xs t off o→AllN (Few xs.length) t
 | .int _ _,off,o,h=>by rw [AllN];exact ⟨by simp [Tr.ks],by simp [gn,Gn.tex]⟩
 | .str tx b,off,o,h=>by
  rw [AllN];rw [Enc] at h;obtain ⟨ai,v,o1,h,_,hv,_,rfl,hb⟩:=h;have hl:b.length=v:=by rw [hb];simp;omega
  exact ⟨by simp [Tr.ks],by simp [gn,Gn.tex];omega⟩
 | .chk tx l,off,o,h=>by
  have he:=enc_off _ _ _ h;rw [Enc] at h;obtain ⟨v,o1,h,hc⟩:=h;have:=chunks_off tx l _ _ hc;rw [AllN];exact ⟨⟨by show l.length≤_;omega,by simp [gn,Gn.tex]⟩,chunks_few tx l _ _ hc⟩
 | .arr false l,off,o,h=>by
  rw [Enc] at h;obtain ⟨ai,o1,h,h31,hc⟩:=h;have:=encs_off l _ _ hc (hd_val h).2;rw [AllN];exact ⟨⟨by show l.length≤_;omega,by simp [gn,Gn.tex]⟩,encs_few l _ _ hc⟩
 | .arr true l,off,o,h=>by
  rw [Enc] at h;obtain ⟨v,o1,h,hc⟩:=h;have:=opens_off l _ _ hc;rw [AllN];exact ⟨⟨by show l.length≤_;omega,by simp [gn,Gn.tex]⟩,opens_few l _ _ hc⟩
 | .map false l,off,o,h=>by
  rw [Enc] at h;obtain ⟨ai,v,o1,h,h31,hv,hc⟩:=h;have:=encs_off l _ _ hc (hd_val h).2;rw [AllN];exact ⟨⟨by show l.length≤_;omega,by simp [gn,Gn.tex]⟩,encs_few l _ _ hc⟩
 | .map true l,off,o,h=>by
  rw [Enc] at h;obtain ⟨v,o1,h,h2,hc⟩:=h;have:=opens_off l _ _ hc;rw [AllN];exact ⟨⟨by show l.length≤_;omega,by simp [gn,Gn.tex]⟩,opens_few l _ _ hc⟩
 | .tag n t,off,o,h=>by
  have he:=enc_off _ _ _ h;rw [Enc] at h;obtain ⟨ai,o1,h,hc⟩:=h;rw [AllN];exact ⟨⟨by show 1≤_;omega,by simp [gn,Gn.tex]⟩,enc_few t _ _ hc⟩
 | .prim ai v,off,o,h=>by rw [AllN];exact ⟨by simp [Tr.ks],by simp [gn,Gn.tex]⟩
theorem encs_few {xs:List UInt8}: ∀(l:List Tr) (off o:Nat),Encs xs l off o→AllNs (Few xs.length) l
 |[],off,o,h=>by rw [AllNs];trivial
 |t::l,off,o,h=>by
  rw [Encs] at h;obtain ⟨mid,h1,h2⟩:=h;rw [AllNs];exact ⟨enc_few t _ _ h1,encs_few l _ _ h2⟩
theorem opens_few {xs:List UInt8}: ∀(l:List Tr) (off o:Nat),Opens xs l off o→AllNs (Few xs.length) l
 |[],off,o,h=>by rw [AllNs];trivial
 |t::l,off,o,h=>by
  rw [Opens] at h;obtain ⟨b,mid,_,_,h1,h2⟩:=h;rw [AllNs];exact ⟨enc_few t _ _ h1,opens_few l _ _ h2⟩
theorem chunks_few {xs:List UInt8} (tx:Bool): ∀(l:List Tr) (off o:Nat),Chunks xs tx l off o→AllNs (Few xs.length) l
 |[],off,o,h=>by rw [AllNs];trivial
 |t::l,off,o,h=>by
  rw [Chunks] at h;obtain ⟨b,mid,_,_,_,h1,h2⟩:=h;rw [AllNs];exact ⟨enc_few t _ _ h1,chunks_few tx l _ _ h2⟩
end
def NdIn (w:World) (t:Tr) (kv:Value):Prop:= ∃bl,(∀b,b∈bl→b<w.heap.size)∧NdV w bl (gn t) kv
theorem NdIn.fr {w w':World} {t:Tr} {kv:Value} (h:NdIn w t kv) (hf:Fr [] w w'):NdIn w' t kv:=by
 obtain ⟨bl,h1,h2⟩:=h;exact ⟨bl,fun b hb=>Nat.lt_of_lt_of_le (h1 b hb) hf.size,h2.fr (fun b hb=>hf.block b (h1 b hb) (by simp)) (fun b hb=>hb) _ _⟩
theorem NdIn.slice {w:World} {t:Tr} {kv:Value} (h:NdIn w t kv): ∃ao n c,kv= .slice ao n c:=by
 obtain ⟨bl,_,h2⟩:=h;exact h2.slice
end
end Go.Proofs.YteodinhkhhaafaaGreatDoor
