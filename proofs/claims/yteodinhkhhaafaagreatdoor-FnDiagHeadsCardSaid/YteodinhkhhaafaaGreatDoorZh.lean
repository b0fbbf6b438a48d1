/- FnDiagHeads, its row and its card: for all bytes, choices and options the law returns true: the text of an item is the same in each encoding of it, however its heads are written. -/
import Derived.Test.YteodinhkhhaafaaGreatDoorEbu
import Derived.ChangeSlices
import Derived.Test.YteodinhkhhaafaaGreatDoorCards
import Derived.Test.YteodinhkhhaafaaGreatDoorTie
set_option linter.unusedVariables false
set_option linter.unusedSimpArgs false
set_option maxRecDepth 100000
set_option maxHeartbeats 6400000
namespace Go.Proofs.YteodinhkhhaafaaGreatDoor
section
set_option exponentiation.threshold 3000
open Go.RowKit
theorem some_inj {a b:Nat} (h:some a=some b):a=b:=Option.some.inj h
theorem widen_lt {v ex fr:Nat} (h:(ex=5∧fr=10∧v<65536)∨(ex=8∧fr=23∧v<4294967296)):widen v ex fr<18446744073709551616:=by
 rcases h with ⟨rfl,rfl,hv⟩|⟨rfl,rfl,hv⟩
 ·obtain ⟨S,hS⟩: ∃S,S=v/32768%2:=⟨_,rfl⟩;obtain ⟨E,hE⟩: ∃E,E=v/1024%32:=⟨_,rfl⟩;obtain ⟨F,hF⟩: ∃F,F=v%1024:=⟨_,rfl⟩;rw [widen_split16 v S E F hS hE hF]
  split
  ·omega
  ·split
   ·omega
   ·split
    ·omega
    ·rename_i h3;obtain ⟨g1,g2,g3,_⟩:=sub_norm (l:=Nat.log2 F) (q:=0) (fr:=10) rfl (by omega) (by omega)
     rw [show (2:Nat)^(10+1)=2048 by decide] at g2
     generalize F*2^(10-Nat.log2 F)=Y at *
     generalize Nat.log2 F=l at *
     omega
 ·obtain ⟨S,hS⟩: ∃S,S=v/2147483648%2:=⟨_,rfl⟩;obtain ⟨E,hE⟩: ∃E,E=v/8388608%256:=⟨_,rfl⟩;obtain ⟨F,hF⟩: ∃F,F=v%8388608:=⟨_,rfl⟩;rw [widen_split32 v S E F hS hE hF]
  split
  ·omega
  ·split
   ·omega
   ·split
    ·omega
    ·rename_i h3;obtain ⟨g1,g2,g3,_⟩:=sub_norm (l:=Nat.log2 F) (q:=0) (fr:=23) rfl (by omega) (by omega)
     rw [show (2:Nat)^(23+1)=16777216 by decide] at g2
     generalize F*2^(23-Nat.log2 F)=Y at *
     generalize Nat.log2 F=l at *
     omega
theorem narrowed16 (v:Nat) (hv:v<65536) (w:World):Calls Tryz.prog 107 #[.int .u64 (widen v 5 10:Int),.int .i64 5,.int .i64 10] w fun e w'=>e= .returned (.tuple #[.int .u64 (v:Int),.bool true])∧Fr [] w w':=by
 have KW:=Hz (fun w=>widened16 v hv w)
 have hb:=widen_lt (v:=v) (ex:=5) (fr:=10) (.inl ⟨rfl,rfl,hv⟩);have hn:=narrow_widen16 v hv;obtain ⟨b,hbb⟩: ∃b,widen v 5 10=b:=⟨_,rfl⟩;rw [hbb] at KW hb hn ⊢;replace hbb:=Hz hbb;obtain ⟨S,hS⟩: ∃S,S=b/9223372036854775808:=⟨_,rfl⟩;obtain ⟨E,hE⟩: ∃E,E=b/4503599627370496%2048:=⟨_,rfl⟩;obtain ⟨F,hF⟩: ∃F,F=b%4503599627370496:=⟨_,rfl⟩;rw [narrow_split16 b S E F hS hE hF] at hn;have bS:S≤1:=by omega
 have bE:E≤2047:=by omega
 have bF:F<4503599627370496:=by omega
 have a1:(b:Int)/9223372036854775808=(S:Int):=by omega
 have a2:bits .and .u64 ((b:Int)/4503599627370496) 2047=(E:Int):=by
  have h:=u64_and_nat (b/4503599627370496) 2047 (by omega) (by omega)
  rw [show b/4503599627370496&&&2047=b/4503599627370496%2048 from Nat.and_two_pow_sub_one_eq_mod (b/4503599627370496) 11,←hE,show ((b/4503599627370496:Nat):Int)=(b:Int)/4503599627370496 by omega] at h
  exact h
 have a3:bits .and .u64 (b:Int) 4503599627370495=(F:Int):=by
  have h:=u64_and_nat b 4503599627370495 (by omega) (by omega)
  rw [show b&&&4503599627370495=b%4503599627370496 from Nat.and_two_pow_sub_one_eq_mod b 52,←hF] at h
  exact h
 have c0:IntKind.i64.wrap (E:Int)=(E:Int):=IntWalk.i64_in _ (by omega)
 obtain ⟨P,hP⟩: ∃P,P=S*32768:=⟨_,rfl⟩;have c1:IntKind.u64.wrap ((S:Int)*32768)=(P:Int):=by rw [IntWalk.u64_in _ (by omega)];omega
 have hbi:((b:Int)==(b:Int))=true:=by simp
 clear hS hE hF hb;by_cases h1:E=2047
 ·rw [if_pos h1] at hn;have e1:=some_inj hn;have t1:((E:Int)==2047)=true:=by simp;omega
  have u1:(E:Int)=2047:=by omega
  obtain ⟨G,hG⟩: ∃G,G=F/4398046511104:=⟨_,rfl⟩;have c2:(F:Int)/4398046511104=(G:Int):=by omega
  have o1:bits .or .u64 (P:Int) 31744=((P+31744:Nat):Int):=by
   have:=or_lo 15 (a:=S) (b:=31744) (n:=32768) (by rfl) (by omega) (by omega)
   rw [←hP] at this;exact this
  have o2:bits .or .u64 ((P+31744:Nat):Int) (G:Int)=(v:Int):=by
   have:=or_lo 10 (a:=S*32+31) (b:=G) (n:=1024) (by rfl) (by omega) (by omega)
   rw [show (S*32+31)*1024=P+31744 by omega] at this
   rw [this];omega
  obtain ⟨Q,hQ⟩: ∃Q,Q=P+31744:=⟨_,rfl⟩;rw [←hQ] at o1 o2;replace hQ:=Hz hQ;replace hP:=Hz hP;replace hG:=Hz hG;clear h1 u1 bS bE bF hn e1;go_enter Tryz.func107,Tryz.ntmps107
  go_wp2
  go_quiet (fail)
  go_wp2_with fail
  refine (KW.out _).mono ?_
  rintro e w1 ⟨rfl,hf1⟩;go_wp2
  go_ret2
  exact ⟨rfl,((Fr.refl [] w).drewN _).trans hf1⟩
 ·rw [if_neg h1] at hn;have t1:((E:Int)==2047)=false:=by simp;omega
  have u1: ¬(E:Int)=2047:=by omega
  by_cases h2:1039≤E
  ·rw [if_pos h2] at hn;cases hn
  ·rw [if_neg h2] at hn;have t2: ¬(31:Int)≤(E:Int)-1023+15:=by omega
   have d1:IntKind.i64.wrap ((E:Int)-1023)=(E:Int)-1023:=IntWalk.i64_in _ (by omega)
   have d2:IntKind.i64.wrap ((E:Int)-1023+15)=(E:Int)-1023+15:=IntWalk.i64_in _ (by omega)
   by_cases h3:1008<E
   ·rw [if_pos h3] at hn;have e1:=some_inj hn;have t3:(0:Int)<(E:Int)-1023+15:=by omega
    obtain ⟨G,hG⟩: ∃G,G=F/4398046511104:=⟨_,rfl⟩;have c2:(F:Int)/4398046511104=(G:Int):=by omega
    obtain ⟨D,hD⟩: ∃D,D=(E-1008)*1024:=⟨_,rfl⟩;have c3:IntKind.u64.wrap ((E:Int)-1023+15)=(E:Int)-1023+15:=IntWalk.u64_in _ (by omega)
    have c4:IntKind.u64.wrap (((E:Int)-1023+15)*1024)=(D:Int):=by rw [IntWalk.u64_in _ (by omega)];omega
    have o1:bits .or .u64 (P:Int) (D:Int)=((P+D:Nat):Int):=by
     have:=or_lo 15 (a:=S) (b:=D) (n:=32768) (by rfl) (by omega) (by omega)
     rw [←hP] at this;exact this
    have o2:bits .or .u64 ((P+D:Nat):Int) (G:Int)=(v:Int):=by
     have:=or_lo 10 (a:=S*32+(E-1008)) (b:=G) (n:=1024) (by rfl) (by omega) (by omega)
     rw [show (S*32+(E-1008))*1024=P+D from (by rw [hP,hD,Nat.add_mul,Nat.mul_assoc])] at this
     rw [this];omega
    obtain ⟨Q,hQ⟩: ∃Q,Q=P+D:=⟨_,rfl⟩;rw [←hQ] at o1 o2;replace hQ:=Hz hQ;replace hP:=Hz hP;replace hG:=Hz hG;replace hD:=Hz hD;clear h1 h2 h3 bS bE bF hn e1;go_enter Tryz.func107,Tryz.ntmps107
    go_wp2
    go_quiet (fail)
    go_wp2_with fail
    refine (KW.out _).mono ?_
    rintro e w1 ⟨rfl,hf1⟩;go_wp2
    go_ret2
    exact ⟨rfl,((Fr.refl [] w).drewN _).trans hf1⟩
   ·rw [if_neg h3] at hn;have t3: ¬(0:Int)<(E:Int)-1023+15:=by omega
    by_cases h4:E=0∨E<998
    ·rw [if_pos h4] at hn;have e1:=some_inj hn;obtain rfl:P=v:=by omega
     replace hP:=Hz hP;by_cases h5:E=0
     ·subst h5;clear h1 h2 h3 h4 bS bE bF hn e1;go_enter Tryz.func107,Tryz.ntmps107
      go_wp2_with fail
      refine (KW.out _).mono ?_
      rintro e w1 ⟨rfl,hf1⟩;go_wp2
      go_ret2
      exact ⟨rfl,hf1⟩
     ·have t4:((E:Int)==0)=false:=by simp;omega
      have u4: ¬(E:Int)=0:=by omega
      have t5:(E:Int)-1023+15< -10:=by omega
      clear h1 h2 h3 h4 h5 bS bE bF hn e1;go_enter Tryz.func107,Tryz.ntmps107
      go_wp2_with fail
      refine (KW.out _).mono ?_
      rintro e w1 ⟨rfl,hf1⟩;go_wp2
      go_ret2
      exact ⟨rfl,hf1⟩
    ·rw [if_neg h4] at hn;have e1:=some_inj hn;have t4:((E:Int)==0)=false:=by simp;omega
     have u4: ¬(E:Int)=0:=by omega
     have t5: ¬(E:Int)-1023+15< -10:=by omega
     have o0:bits .or .u64 4503599627370496 (F:Int)=((4503599627370496+F:Nat):Int):=by
      have:=or_lo 52 (a:=1) (b:=F) (n:=4503599627370496) (by rfl) (by omega) (by omega)
      rw [Nat.one_mul] at this;exact this
     obtain ⟨Y,hY⟩: ∃Y,Y=4503599627370496+F:=⟨_,rfl⟩;rw [←hY] at o0 e1;obtain ⟨n,hn2⟩: ∃n,n=43+(1008-E):=⟨_,rfl⟩;rw [←hn2] at e1;have en:(43-((E:Int)-1023+15)).toNat=n:=by omega
     have hG:Y/2^n<1024:=by
      have h5:Y/2^n≤Y/2^43:=Nat.div_le_div_left (Nat.pow_le_pow_right (by omega) (by omega)) (Nat.pow_pos (by omega))
      have h6:Y/2^43<1024:=by
       rw [Nat.div_lt_iff_lt_mul (Nat.pow_pos (by omega))]
       have:(2:Nat)^43*1024=9007199254740992:=by rfl
       omega
      omega
     have o2:bits .or .u64 ((S:Int)*32768) ((Y:Int)/2^(43-((E:Int)-1023+15)).toNat)=(v:Int):=by
      have h5:=or_lo 15 (a:=S) (b:=Y/2^n) (n:=32768) (by rfl) (by omega) (by omega)
      rw [e1] at h5;rw [en,show (S:Int)*32768=((S*32768:Nat):Int) by omega]
      rw [←h5]
      congr 1
     clear hn e1 hG en hn2 hY;go_enter Tryz.func107,Tryz.ntmps107
     go_wp2_with fail
     refine (KW.out _).mono ?_
     rintro e w1 ⟨rfl,hf1⟩;go_wp2
     go_ret2
     exact ⟨rfl,hf1⟩
theorem specHalf (v:Nat) (hv:v<65536) (w:World):Calls Tryz.prog 89 #[.int .u64 (widen v 5 10:Int)] w fun e w'=>e= .returned (.tuple #[.int .u16 (v:Int),.bool true])∧Fr [] w w':=by
 have K:=Hz (fun w=>narrowed16 v hv w)
 have c:IntKind.u16.wrap (v:Int)=(v:Int):=by show (v:Int)%65536=_;omega
 obtain ⟨b,hbb⟩: ∃b,widen v 5 10=b:=⟨_,rfl⟩;rw [hbb] at K ⊢;go_enter Tryz.func89,Tryz.ntmps89
 go_wp2_with fail
 refine (K.out _).mono ?_
 rintro e w1 ⟨rfl,hf⟩;go_wp2
 go_ret2
 exact ⟨rfl,hf⟩
theorem narrowed32 (v:Nat) (hv:v<4294967296) (w:World):Calls Tryz.prog 107 #[.int .u64 (widen v 8 23:Int),.int .i64 8,.int .i64 23] w fun e w'=>e= .returned (.tuple #[.int .u64 (v:Int),.bool true])∧Fr [] w w':=by
 have KW:=Hz (fun w=>widened32 v hv w)
 have hb:=widen_lt (v:=v) (ex:=8) (fr:=23) (.inr ⟨rfl,rfl,hv⟩);have hn:=narrow_widen32 v hv;obtain ⟨b,hbb⟩: ∃b,widen v 8 23=b:=⟨_,rfl⟩;rw [hbb] at KW hb hn ⊢;replace hbb:=Hz hbb;obtain ⟨S,hS⟩: ∃S,S=b/9223372036854775808:=⟨_,rfl⟩;obtain ⟨E,hE⟩: ∃E,E=b/4503599627370496%2048:=⟨_,rfl⟩;obtain ⟨F,hF⟩: ∃F,F=b%4503599627370496:=⟨_,rfl⟩;rw [narrow_split32 b S E F hS hE hF] at hn;have bS:S≤1:=by omega
 have bE:E≤2047:=by omega
 have bF:F<4503599627370496:=by omega
 have a1:(b:Int)/9223372036854775808=(S:Int):=by omega
 have a2:bits .and .u64 ((b:Int)/4503599627370496) 2047=(E:Int):=by
  have h:=u64_and_nat (b/4503599627370496) 2047 (by omega) (by omega)
  rw [show b/4503599627370496&&&2047=b/4503599627370496%2048 from Nat.and_two_pow_sub_one_eq_mod (b/4503599627370496) 11,←hE,show ((b/4503599627370496:Nat):Int)=(b:Int)/4503599627370496 by omega] at h
  exact h
 have a3:bits .and .u64 (b:Int) 4503599627370495=(F:Int):=by
  have h:=u64_and_nat b 4503599627370495 (by omega) (by omega)
  rw [show b&&&4503599627370495=b%4503599627370496 from Nat.and_two_pow_sub_one_eq_mod b 52,←hF] at h
  exact h
 have c0:IntKind.i64.wrap (E:Int)=(E:Int):=IntWalk.i64_in _ (by omega)
 obtain ⟨P,hP⟩: ∃P,P=S*2147483648:=⟨_,rfl⟩;have c1:IntKind.u64.wrap ((S:Int)*2147483648)=(P:Int):=by rw [IntWalk.u64_in _ (by omega)];omega
 have hbi:((b:Int)==(b:Int))=true:=by simp
 clear hS hE hF hb;by_cases h1:E=2047
 ·rw [if_pos h1] at hn;have e1:=some_inj hn;have t1:((E:Int)==2047)=true:=by simp;omega
  have u1:(E:Int)=2047:=by omega
  obtain ⟨G,hG⟩: ∃G,G=F/536870912:=⟨_,rfl⟩;have c2:(F:Int)/536870912=(G:Int):=by omega
  have o1:bits .or .u64 (P:Int) 2139095040=((P+2139095040:Nat):Int):=by
   have:=or_lo 31 (a:=S) (b:=2139095040) (n:=2147483648) (by rfl) (by omega) (by omega)
   rw [←hP] at this;exact this
  have o2:bits .or .u64 ((P+2139095040:Nat):Int) (G:Int)=(v:Int):=by
   have:=or_lo 23 (a:=S*256+255) (b:=G) (n:=8388608) (by rfl) (by omega) (by omega)
   rw [show (S*256+255)*8388608=P+2139095040 by omega] at this
   rw [this];omega
  obtain ⟨Q,hQ⟩: ∃Q,Q=P+2139095040:=⟨_,rfl⟩;rw [←hQ] at o1 o2;replace hQ:=Hz hQ;replace hP:=Hz hP;replace hG:=Hz hG;clear h1 u1 bS bE bF hn e1;go_enter Tryz.func107,Tryz.ntmps107
  go_wp2
  go_quiet (fail)
  go_wp2_with fail
  refine (KW.out _).mono ?_
  rintro e w1 ⟨rfl,hf1⟩;go_wp2
  go_ret2
  exact ⟨rfl,((Fr.refl [] w).drewN _).trans hf1⟩
 ·rw [if_neg h1] at hn;have t1:((E:Int)==2047)=false:=by simp;omega
  have u1: ¬(E:Int)=2047:=by omega
  by_cases h2:1151≤E
  ·rw [if_pos h2] at hn;cases hn
  ·rw [if_neg h2] at hn;have t2: ¬(255:Int)≤(E:Int)-1023+127:=by omega
   have d1:IntKind.i64.wrap ((E:Int)-1023)=(E:Int)-1023:=IntWalk.i64_in _ (by omega)
   have d2:IntKind.i64.wrap ((E:Int)-1023+127)=(E:Int)-1023+127:=IntWalk.i64_in _ (by omega)
   by_cases h3:896<E
   ·rw [if_pos h3] at hn;have e1:=some_inj hn;have t3:(0:Int)<(E:Int)-1023+127:=by omega
    obtain ⟨G,hG⟩: ∃G,G=F/536870912:=⟨_,rfl⟩;have c2:(F:Int)/536870912=(G:Int):=by omega
    obtain ⟨D,hD⟩: ∃D,D=(E-896)*8388608:=⟨_,rfl⟩;have c3:IntKind.u64.wrap ((E:Int)-1023+127)=(E:Int)-1023+127:=IntWalk.u64_in _ (by omega)
    have c4:IntKind.u64.wrap (((E:Int)-1023+127)*8388608)=(D:Int):=by rw [IntWalk.u64_in _ (by omega)];omega
    have o1:bits .or .u64 (P:Int) (D:Int)=((P+D:Nat):Int):=by
     have:=or_lo 31 (a:=S) (b:=D) (n:=2147483648) (by rfl) (by omega) (by omega)
     rw [←hP] at this;exact this
    have o2:bits .or .u64 ((P+D:Nat):Int) (G:Int)=(v:Int):=by
     have:=or_lo 23 (a:=S*256+(E-896)) (b:=G) (n:=8388608) (by rfl) (by omega) (by omega)
     rw [show (S*256+(E-896))*8388608=P+D from (by rw [hP,hD,Nat.add_mul,Nat.mul_assoc])] at this
     rw [this];omega
    obtain ⟨Q,hQ⟩: ∃Q,Q=P+D:=⟨_,rfl⟩;rw [←hQ] at o1 o2;replace hQ:=Hz hQ;replace hP:=Hz hP;replace hG:=Hz hG;replace hD:=Hz hD;clear h1 h2 h3 bS bE bF hn e1;go_enter Tryz.func107,Tryz.ntmps107
    go_wp2
    go_quiet (fail)
    go_wp2_with fail
    refine (KW.out _).mono ?_
    rintro e w1 ⟨rfl,hf1⟩;go_wp2
    go_ret2
    exact ⟨rfl,((Fr.refl [] w).drewN _).trans hf1⟩
   ·rw [if_neg h3] at hn;have t3: ¬(0:Int)<(E:Int)-1023+127:=by omega
    by_cases h4:E=0∨E<873
    ·rw [if_pos h4] at hn;have e1:=some_inj hn;obtain rfl:P=v:=by omega
     replace hP:=Hz hP;by_cases h5:E=0
     ·subst h5;clear h1 h2 h3 h4 bS bE bF hn e1;go_enter Tryz.func107,Tryz.ntmps107
      go_wp2_with fail
      refine (KW.out _).mono ?_
      rintro e w1 ⟨rfl,hf1⟩;go_wp2
      go_ret2
      exact ⟨rfl,hf1⟩
     ·have t4:((E:Int)==0)=false:=by simp;omega
      have u4: ¬(E:Int)=0:=by omega
      have t5:(E:Int)-1023+127< -23:=by omega
      clear h1 h2 h3 h4 h5 bS bE bF hn e1;go_enter Tryz.func107,Tryz.ntmps107
      go_wp2_with fail
      refine (KW.out _).mono ?_
      rintro e w1 ⟨rfl,hf1⟩;go_wp2
      go_ret2
      exact ⟨rfl,hf1⟩
    ·rw [if_neg h4] at hn;have e1:=some_inj hn;have t4:((E:Int)==0)=false:=by simp;omega
     have u4: ¬(E:Int)=0:=by omega
     have t5: ¬(E:Int)-1023+127< -23:=by omega
     have o0:bits .or .u64 4503599627370496 (F:Int)=((4503599627370496+F:Nat):Int):=by
      have:=or_lo 52 (a:=1) (b:=F) (n:=4503599627370496) (by rfl) (by omega) (by omega)
      rw [Nat.one_mul] at this;exact this
     obtain ⟨Y,hY⟩: ∃Y,Y=4503599627370496+F:=⟨_,rfl⟩;rw [←hY] at o0 e1;obtain ⟨n,hn2⟩: ∃n,n=30+(896-E):=⟨_,rfl⟩;rw [←hn2] at e1;have en:(30-((E:Int)-1023+127)).toNat=n:=by omega
     have hG:Y/2^n<8388608:=by
      have h5:Y/2^n≤Y/2^30:=Nat.div_le_div_left (Nat.pow_le_pow_right (by omega) (by omega)) (Nat.pow_pos (by omega))
      have h6:Y/2^30<8388608:=by
       rw [Nat.div_lt_iff_lt_mul (Nat.pow_pos (by omega))]
       have:(2:Nat)^30*8388608=9007199254740992:=by rfl
       omega
      omega
     have o2:bits .or .u64 ((S:Int)*2147483648) ((Y:Int)/2^(30-((E:Int)-1023+127)).toNat)=(v:Int):=by
      have h5:=or_lo 31 (a:=S) (b:=Y/2^n) (n:=2147483648) (by rfl) (by omega) (by omega)
      rw [e1] at h5;rw [en,show (S:Int)*2147483648=((S*2147483648:Nat):Int) by omega]
      rw [←h5]
      congr 1
     clear hn e1 hG en hn2 hY;go_enter Tryz.func107,Tryz.ntmps107
     go_wp2_with fail
     refine (KW.out _).mono ?_
     rintro e w1 ⟨rfl,hf1⟩;go_wp2
     go_ret2
     exact ⟨rfl,hf1⟩
theorem specSingle (v:Nat) (hv:v<4294967296) (w:World):Calls Tryz.prog 90 #[.int .u64 (widen v 8 23:Int)] w fun e w'=>e= .returned (.tuple #[.int .u32 (v:Int),.bool true])∧Fr [] w w':=by
 have K:=Hz (fun w=>narrowed32 v hv w)
 have c:IntKind.u32.wrap (v:Int)=(v:Int):=by show (v:Int)%4294967296=_;omega
 obtain ⟨b,hbb⟩: ∃b,widen v 8 23=b:=⟨_,rfl⟩;rw [hbb] at K ⊢;go_enter Tryz.func90,Tryz.ntmps90
 go_wp2_with fail
 refine (K.out _).mono ?_
 rintro e w1 ⟨rfl,hf⟩;go_wp2
 go_ret2
 exact ⟨rfl,hf⟩
end
section
open Go.RowKit
def fltH (ai v:Nat):List UInt8:=UInt8.ofNat (224+ai)::beB (2^(ai-24)) v
theorem ofNat_mod (n:Nat):UInt8.ofNat (n%256)=UInt8.ofNat n:=by
 apply UInt8.toNat_inj.1
 simp
theorem fltH_16 (v:Nat):fltH 25 v=[249,UInt8.ofNat (v/256),UInt8.ofNat v]:=by
 simp [fltH,beB,ofNat_mod]
theorem fltH_32 (v:Nat):fltH 26 v=[250,UInt8.ofNat (v/16777216),UInt8.ofNat (v/65536),UInt8.ofNat (v/256),UInt8.ofNat v]:=by
 simp [fltH,beB,ofNat_mod]
theorem hd_fltH (ai v:Nat) (ha:ai=25∨ai=26∨ai=27) (hv:v<256^2^(ai-24)) (pre post:List UInt8):hd (pre++(fltH ai v++post)) pre.length= .ok (7,ai,v,pre.length+(fltH ai v).length):=by
 have h1:(UInt8.ofNat (224+ai)).toNat=224+ai:=by simp;omega
 unfold hd fltH;simp only [List.cons_append,List.getElem?_append_right (Nat.le_refl _),Nat.sub_self,List.getElem?_cons_zero,h1];have a1:(224+ai)/32=7:=by omega
 have a2:(224+ai)%32=ai:=by omega
 rw [a1,a2,if_neg (by omega),if_pos (by omega)]
 have hlen:(pre++UInt8.ofNat (224+ai)::(beB (2^(ai-24)) v++post)).length=pre.length+1+2^(ai-24)+post.length:=by
  simp [beB_length];omega
 rw [if_neg (by rw [hlen];omega),if_neg (by omega)]
 have hd1:List.drop (pre.length+1) (pre++UInt8.ofNat (224+ai)::(beB (2^(ai-24)) v++post))=beB (2^(ai-24)) v++post:=by
  rw [List.drop_append,List.drop_eq_nil_of_le (by omega),List.nil_append,show pre.length+1-pre.length=1 from by omega]
  rfl
 rw [hd1,List.take_append_of_le_length (by rw [beB_length];omega),List.take_of_length_le (by rw [beB_length];omega),be_beB0 _ _ hv]
 simp [beB_length];omega
theorem u8w (n:Nat):IntKind.u8.wrap (n:Int)=((UInt8.ofNat n).toNat:Int):=by
 show (n:Int)%256=_
 simp
theorem sized16 (v:Nat) (hv:v<65536) (w:World):Calls Tryz.prog 74 #[.int .u64 (widen v 5 10:Int),.int .i64 2] w fun e w'=>e= .returned (.string ⟨(fltH 25 v).toArray⟩)∧Fr [] w w':=by
 have K:=Hz (fun w=>specHalf v hv w)
 obtain ⟨b,hbb⟩: ∃b,widen v 5 10=b:=⟨_,rfl⟩;rw [hbb] at K ⊢;obtain ⟨R,hR⟩: ∃R,fltH 25 v=R:=⟨_,rfl⟩;rw [hR];rw [fltH_16] at hR;have s1:IntKind.u8.wrap ((v:Int)/256)=((UInt8.ofNat (v/256)).toNat:Int):=by rw [←u8w];rfl
 have s2:IntKind.u8.wrap (v:Int)=((UInt8.ofNat v).toNat:Int):=u8w v;obtain ⟨x,hx⟩: ∃x,UInt8.ofNat (v/256)=x:=⟨_,rfl⟩;obtain ⟨y,hy⟩: ∃y,UInt8.ofNat v=y:=⟨_,rfl⟩;rw [hx] at s1 hR;rw [hy] at s2 hR;replace hR:=Hz hR;clear hx hy;go_enter Tryz.func74,Tryz.ntmps74
 go_wp2_with fail
 refine (K.out _).mono ?_
 rintro e w1 ⟨rfl,hf⟩;have hrd:Rd (w1.alloc (.cells #[.int .u8 (x.toNat:Int),.int .u8 (y.toNat:Int)] 5 (0,0))) w1.heap.size 0 [x,y]:=rd_new (w:=w1) (s:=[x,y]) rfl (by simp only [enc,List.map_cons,List.map_nil])
 have ht:=toStr hrd 2;have ht2:(convert 59 9 (.slice (some ⟨w1.heap.size,0,none⟩) 2 2)).run Tryz.prog (w1.alloc (.cells #[.int .u8 (x.toNat:Int),.int .u8 (y.toNat:Int)] 5 (0,0)))= .ok (.string ⟨([x,y]:List UInt8).toArray⟩) (w1.alloc (.cells #[.int .u8 (x.toNat:Int),.int .u8 (y.toNat:Int)] 5 (0,0))):=ht;clear hrd ht;go_wp2;go_ret
 exact ⟨by rw [←hR.out];rw [←show ([249]:List UInt8)++[x,y]=[249,x,y] from rfl,←mk_append];rfl,hf.alloc _⟩
theorem sized32 (v:Nat) (hv:v<4294967296) (w:World):Calls Tryz.prog 74 #[.int .u64 (widen v 8 23:Int),.int .i64 4] w fun e w'=>e= .returned (.string ⟨(fltH 26 v).toArray⟩)∧Fr [] w w':=by
 have K:=Hz (fun w=>specSingle v hv w)
 obtain ⟨b,hbb⟩: ∃b,widen v 8 23=b:=⟨_,rfl⟩;rw [hbb] at K ⊢;obtain ⟨R,hR⟩: ∃R,fltH 26 v=R:=⟨_,rfl⟩;rw [hR];rw [fltH_32] at hR;have s0:IntKind.u8.wrap ((v:Int)/16777216)=((UInt8.ofNat (v/16777216)).toNat:Int):=by rw [←u8w];rfl
 have s1:IntKind.u8.wrap ((v:Int)/65536)=((UInt8.ofNat (v/65536)).toNat:Int):=by rw [←u8w];rfl
 have s2:IntKind.u8.wrap ((v:Int)/256)=((UInt8.ofNat (v/256)).toNat:Int):=by rw [←u8w];rfl
 have s3:IntKind.u8.wrap (v:Int)=((UInt8.ofNat v).toNat:Int):=u8w v;obtain ⟨x,hx⟩: ∃x,UInt8.ofNat (v/16777216)=x:=⟨_,rfl⟩;obtain ⟨y,hy⟩: ∃y,UInt8.ofNat (v/65536)=y:=⟨_,rfl⟩;obtain ⟨z,hz⟩: ∃z,UInt8.ofNat (v/256)=z:=⟨_,rfl⟩;obtain ⟨t,ht0⟩: ∃t,UInt8.ofNat v=t:=⟨_,rfl⟩;rw [hx] at s0 hR;rw [hy] at s1 hR;rw [hz] at s2 hR;rw [ht0] at s3 hR;replace hR:=Hz hR;clear hx hy hz ht0;go_enter Tryz.func74,Tryz.ntmps74
 go_wp2_with fail
 refine (K.out _).mono ?_
 rintro e w1 ⟨rfl,hf⟩;have hrd:Rd (w1.alloc (.cells #[.int .u8 (x.toNat:Int),.int .u8 (y.toNat:Int),.int .u8 (z.toNat:Int),.int .u8 (t.toNat:Int)] 5 (0,0))) w1.heap.size 0 [x,y,z,t]:=rd_new (w:=w1) (s:=[x,y,z,t]) rfl (by simp only [enc,List.map_cons,List.map_nil])
 have ht:=toStr hrd 4;have ht2:(convert 59 9 (.slice (some ⟨w1.heap.size,0,none⟩) 4 4)).run Tryz.prog (w1.alloc (.cells #[.int .u8 (x.toNat:Int),.int .u8 (y.toNat:Int),.int .u8 (z.toNat:Int),.int .u8 (t.toNat:Int)] 5 (0,0)))= .ok (.string ⟨([x,y,z,t]:List UInt8).toArray⟩) (w1.alloc (.cells #[.int .u8 (x.toNat:Int),.int .u8 (y.toNat:Int),.int .u8 (z.toNat:Int),.int .u8 (t.toNat:Int)] 5 (0,0))):=ht;clear hrd ht;go_wp2;go_ret
 exact ⟨by rw [←hR.out];rw [←show ([250]:List UInt8)++[x,y,z,t]=[250,x,y,z,t] from rfl,←mk_append];rfl,hf.alloc _⟩
theorem beB_take: ∀k n,∀j,j≤k→(beB k n).take j++beB (k-j) n=beB k n
 |0,n,j,h=>by
  obtain rfl:j=0:=by omega
  simp
 |k+1,n,0,h=>by simp
 |k+1,n,j+1,h=>by
  rw [show k+1-(j+1)=k-j by omega,beB,List.take_succ_cons,List.cons_append,beB_take k n j (by omega)]
theorem sized64 (v:Nat) (hv:v<18446744073709551616) (w:World):Calls Tryz.prog 74 #[.int .u64 (v:Int),.int .i64 8] w fun e w'=>e= .returned (.string ⟨(fltH 27 v).toArray⟩)∧Fr [] w w':=by
 obtain ⟨R,hR⟩: ∃R,fltH 27 v=R:=⟨_,rfl⟩;rw [hR];have hl:Hid (∀j,j≤8→R.length=9∧R=R.take (1+j)++beB (8-j) v):=Hz (fun j hj=>by
  rw [←hR];refine ⟨by simp [fltH,beB_length],?_⟩
  unfold fltH;rw [Nat.add_comm 1 j,List.take_succ_cons,List.cons_append,show 2^(27-24)=8 from rfl,beB_take 8 v j hj])
 have h0:Hid (R.take 1=[251]):=Hz (by rw [←hR];rfl)
 clear hR;have s1:=row_one w (B:=w.heap.size) rfl (Nat.le_refl _) 251 251 rfl;go_enter Tryz.func74,Tryz.ntmps74
 go_wp2
 go_loopg [9,10] 9 (fun gk v9 v10 wr=> ∃j:Nat,j≤8∧gk+j=9∧v10= .int .i64 (7-(j:Int))∧Row wr w.heap.size v9 (R.take (1+j))∧Fr [] w wr)
 case atStart=>
  refine ⟨0,by omega,by omega,by go_num,?_,(Fr.refl _ _).alloc _⟩
  rw [h0.out];exact s1
 case round=>
  obtain ⟨j,hj,hgk,rfl,hrow,hF⟩:=hrel;obtain ⟨ao,n,c,rfl⟩:=hrow.shape;obtain ⟨g',rfl⟩: ∃g',gk=g'+1:=⟨gk-1,by omega⟩
  by_cases hk:j=8
  ·subst hk;have hR8:R.take (1+8)=R:=List.take_of_length_le (by have:=(hl.out 8 (by omega)).1;omega)
   rw [hR8] at hrow;obtain ⟨g,cap,hv2,hrd⟩:=hrow.some (by intro e;have:=(hl.out 8 (by omega)).1;rw [e] at this;simp at this)
   have ht:=toStr hrd cap;cases hv2
   clear hrd hrow hR8 h0 s1;go_wp2;go_ret
   exact ⟨rfl,hF⟩
  ·have hj7:j≤7:=by omega
   obtain ⟨x,hx⟩: ∃x,x=UInt8.ofNat (v/256^(7-j)%256):=⟨_,rfl⟩;have hsh:(v:Int)/2^(8*(7-j))%256=(x.toNat:Int):=by
    have h1:=u8_wrap_div v (7-j);rw [←hx] at h1;rw [←h1]
    show _=((v:Int)/((256^(7-j):Nat):Int))%256
    rw [show (256:Nat)^(7-j)=2^(8*(7-j)) by rw [show (256:Nat)=2^8 from rfl,←Nat.pow_mul],Int.natCast_pow]
    rfl
   have hnext:Hid (R.take (1+(j+1))=R.take (1+j)++[x]):=Hz (by
    obtain ⟨h1,h2⟩:=hl.out j hj;rw [show 8-j=(7-j)+1 by omega,beB,←hx] at h2
    have h3:=congrArg (List.take (1+(j+1))) h2;rw [List.take_append,List.length_take,h1,Nat.min_eq_left (by omega),show 1+(j+1)-(1+j)=1 by omega,List.take_take,Nat.min_eq_right (by omega)] at h3
    rw [h3]
    rfl)
   have tj:(0:Int)≤7-(j:Int):=by omega
   have w8:IntKind.i64.wrap (8*(7-(j:Int)))=8*(7-(j:Int)):=IntWalk.i64_in _ (by omega)
   have hm:(0:Int)≤8*(7-(j:Int)):=by omega
   have hm2: ¬8*(7-(j:Int))<0:=by omega
   have hr1:Row (wr.alloc (.cells #[.int .u8 (x.toNat:Int)] 5)) w.heap.size (.slice ao n c) (R.take (1+j)):=World.ownsRow.alloc hrow _;have hrd:Rd (wr.alloc (.cells #[.int .u8 (x.toNat:Int)] 5)) wr.heap.size 0 [x]:=rd_new (w:=wr) (s:=[x]) rfl (by simp only [enc,List.map_cons,List.map_nil])
   have hsF:=hF.size;have hB2:Hid (w.heap.size≤(wr.alloc (.cells #[.int .u8 (x.toNat:Int)] 5)).heap.size):=Hz (by simp;omega)
   have hl2:Hid ((R.take (1+j)).length+[x].length≤140737488355328):=Hz (by simp;omega)
   obtain ⟨A,hA⟩: ∃A,R.take (1+j)=A:=⟨_,rfl⟩;rw [hA] at hr1 hl2 hnext;replace hr1:=Hz hr1;replace hrd:=Hz hrd;clear hx hrow hA h0 s1;go_wp2_with (at_builtin;refine wpList_apRow rfl _ _ rfl (B:=w.heap.size) _ A [x] wr.heap.size 0 1 rfl rfl hrd.out hr1.out hB2.out hl2.out ?_)
   intro v' w' hrow' hg;have hF2:Fr [] w w':=(hF.alloc _).grown hg (fun k hk=> .inr (World.ownsRow.lt hr1.out k hk).1)
   obtain ⟨ao2,n2,c2,rfl⟩:=hrow'.shape;replace hrow':=Hz hrow';clear hg;go_wp2
   go_roundg g'
   case measure=>omega
   case rel=>exact ⟨j+1,by omega,by omega,by go_num,by rw [hnext.out];exact hrow'.out,hF2⟩
end
section
open Go.RowKit
def IntsAt (w:World) (ao:Option Addr) (n c:Nat):Prop:=n=0∨ ∃g o,ao=some ⟨g,o,none⟩∧n≤c∧ ∀i,i<n→ ∃x:Int,w.cell? ⟨g,o+i,none⟩=some (.int .i64 x)
def Ch (w:World) (cb:Nat):Prop:= ∃ao n c a,w.heap[cb]? =some (.cells #[.slice ao n c,.int .i64 ((a:Nat):Int)] 107 (0,0))∧a≤n∧n≤2147483647∧
 (n=0∨ ∃g o,ao=some ⟨g,o,none⟩∧n≤c∧g≠cb∧g<w.heap.size∧ ∀i,i<n→ ∃x:Int,w.cell? ⟨g,o+i,none⟩=some (.int .i64 x))
theorem Ch.fr {w w':World} {cb:Nat} (h:Ch w cb) (hf:Fr [] w w'):Ch w' cb:=by
 obtain ⟨ao,n,c,a,h1,h2,h3,h4⟩:=h;refine ⟨ao,n,c,a,hf.blk h1 (by simp),h2,h3,?_⟩
 rcases h4 with h4|⟨g,o,g1,g2,g3,g4,g5⟩
 ·exact .inl h4
 ·exact .inr ⟨g,o,g1,g2,g3,Nat.lt_of_lt_of_le g4 hf.size,fun i hi=>by obtain ⟨x,hx⟩:=g5 i hi;exact ⟨x,hf.cell hx (by simp)⟩⟩
theorem next {w:World} {cb:Nat} (h:Ch w cb) (m:Nat) (hm:1≤m) (hm2:m<1000):Calls Tryz.prog 62 #[.pointer (some ⟨cb,0,none⟩),.int .i64 (m:Int)] w fun e w'=> ∃k:Nat,k<m∧e= .returned (.int .i64 (k:Int))∧Ch w' cb∧Fr [cb] w w':=by
 obtain ⟨ao,n,c,a,h1,h2,h3,h4⟩:=h;have c0:=cell_blk h1 0;have c1:=cell_blk h1 1;have f1:=frozen_blk h1 1;simp only [List.getElem?_toArray,List.getElem?_cons_zero,List.getElem?_cons_succ] at c0 c1;by_cases ha:a=n
 ·have t1:(n:Int)≤(a:Int):=by omega
  have t2:decide ((n:Int)≤(a:Int))=true:=by simp;omega
  go_enter Tryz.func62,Tryz.ntmps62
  go_wp2
  go_quiet (fail)
  go_wp2;go_ret
  exact ⟨0,by omega,rfl,Ch.fr ⟨ao,n,c,a,h1,h2,h3,h4⟩ ((Fr.refl _ _).drewN _),(Fr.refl _ _).drewN _⟩
 ·rcases h4 with h4|⟨g,o,rfl,hc,hg,hgl,hx⟩
  ·omega
  ·obtain ⟨x,hx1⟩:=hx a (by omega)
   obtain ⟨k,hk,hk1,hk2⟩:=rem_nat x m (by omega) hm2
   have t1: ¬(n:Int)≤(a:Int):=by omega
   have t2:decide ((n:Int)≤(a:Int))=false:=by simp;omega
   have t2':decide (n≤a)=false:=by simp;omega
   have t3':decide ((m:Int)<1)=false:=by simp;omega
   have t3: ¬(m:Int)<1:=by omega
   have t4:(a:Int)<(n:Int):=by omega
   have t5:(0:Int)≤(a:Int):=by omega
   have t6:IntKind.u64.wrap (m:Int)=(m:Int):=by show (m:Int)%18446744073709551616=_;omega
   have t7: ¬(m:Int)=0:=by omega
   have w1:IntKind.i64.wrap ((a:Int)+1)=(a:Int)+1:=IntWalk.i64_in _ (by omega)
   have w2:IntKind.i64.wrap ((a:Int)+1-1)=(a:Int):=by rw [IntWalk.i64_in _ (by omega)];omega
   have w3:IntKind.i64.wrap (k:Int)=(k:Int):=IntWalk.i64_in _ (by omega)
   have hd: ∀u:Value,(w.setCell ⟨cb,1,none⟩ u).cell? ⟨g,o+a,none⟩=some (.int .i64 x):=fun u=>((Fr.refl [cb] w).setCell (by simp) u).cell hx1 (by simpa using hg)
   have he: ∀u:Value,(w.setCell ⟨cb,1,none⟩ u).cell? ⟨cb,0,none⟩=some (.slice (some ⟨g,o,none⟩) n c):=fun u=>cell_blk (blk_setCell h1 1 u) 0
   have hcb:g≠cb:=hg;have hcb2:cb≠g:=fun e=>hg e.symm
   replace hx:=Hz hx;replace h1:=Hz h1;go_enter Tryz.func62,Tryz.ntmps62
   go_wp2
   go_quiet (fail)
   go_wp2
   go_quiet (fail)
   go_wp2;go_ret
   have hF:Fr [cb] w (w.setCell ⟨cb,1,none⟩ (.int .i64 ((a:Int)+1))):=(Fr.refl _ _).setCell (by simp) _
   have hC:Ch (w.setCell ⟨cb,1,none⟩ (.int .i64 ((a:Int)+1))) cb:=by
    refine ⟨some ⟨g,o,none⟩,n,c,a+1,blk_setCell h1.out 1 _,by omega,h3,.inr ⟨g,o,rfl,hc,hg,by simpa using hgl,fun i hi=> ?_⟩⟩
    obtain ⟨y,hy⟩:=hx.out i hi;exact ⟨y,hF.cell hy (by simpa using hg)⟩
   have hC2: ∀n,Ch ((w.setCell ⟨cb,1,none⟩ (.int .i64 ((a:Int)+1))).drewN n) cb:=fun n=>hC.fr ((Fr.refl _ _).drewN n)
   refine ⟨k,hk,rfl,?_,?_⟩
   ·first|exact hC2 _|exact hC
   ·repeat (first|with_reducible exact Fr.refl _ _|with_reducible refine Fr.setCell ?_ (.inl (by simp)) _|with_reducible refine Fr.drewN ?_ _)
theorem newC {w:World} {ao:Option Addr} {n c:Nat} (h:IntsAt w ao n c) (hn:n≤2147483647):Calls Tryz.prog 30 #[.slice ao n c] w fun e w'=>e= .returned (.pointer (some ⟨w.heap.size,0,none⟩))∧Ch w' w.heap.size∧Fr [] w w':=by
 replace h:=Hz h;go_enter Tryz.func30,Tryz.ntmps30
 go_wp2;go_ret
 refine ⟨rfl,⟨ao,n,c,0,blk_new w _,by omega,hn,?_⟩,(Fr.refl _ _).alloc _⟩
 rcases h.out with h0|⟨g,o,h1,h2,h3⟩
 ·exact .inl h0
 ·by_cases h0:n=0
  ·exact .inl h0
  ·obtain ⟨x,hx⟩:=h3 0 (by omega)
   have hl:=World.block_lt_of_cell? w _ hx;exact .inr ⟨g,o,h1,h2,fun e=>by simp at hl;omega,by simp at hl ⊢;omega,fun i hi=>by obtain ⟨y,hy⟩:=h3 i hi;exact ⟨y,((Fr.refl [] w).alloc _).cell hy (by simp)⟩⟩
end
section
open Go.RowKit
mutual
def Tr.wgt:Tr→Nat
 | .int _ _=>1
 | .str _ b=>1+b.length
 | .chk _ l=>1+Tr.wgts l
 | .arr _ l=>1+Tr.wgts l
 | .map _ l=>1+Tr.wgts l
 | .tag _ t=>1+t.wgt
 | .prim _ _=>1
def Tr.wgts:List Tr→Nat
 |[]=>0
 |t::l=>t.wgt+Tr.wgts l
end
theorem wgts_snoc: ∀(l:List Tr) (t:Tr),Tr.wgts (l++[t])=Tr.wgts l+t.wgt
 |[],t=>by simp [Tr.wgts]
 |u::l,t=>by rw [List.cons_append,Tr.wgts,Tr.wgts,wgts_snoc l t];omega
mutual
theorem wgt_len {xs:List UInt8}: ∀(t:Tr) (off o:Nat),Enc xs t off o→t.wgt≤o-off
 | .int _ _,off,o,h=>by have:=(enc_off _ _ _ h).1;rw [Tr.wgt];omega
 | .prim _ _,off,o,h=>by have:=(enc_off _ _ _ h).1;rw [Tr.wgt];omega
 | .str tx b,off,o,h=>by
  rw [Enc] at h;obtain ⟨ai,v,o1,h,_,hv,_,rfl,hb⟩:=h;have hl:b.length=v:=by rw [hb];simp;omega
  have:=(hd_off h).1;rw [Tr.wgt];omega
 | .chk tx l,off,o,h=>by
  rw [Enc] at h;obtain ⟨v,o1,h,hc⟩:=h;have h1:=(hd_off h).1;have h2:=chunks_wgt tx l _ _ hc;have h3:=chunks_off tx l _ _ hc;rw [Tr.wgt];omega
 | .arr false l,off,o,h=>by
  rw [Enc] at h;obtain ⟨ai,o1,h,h31,hc⟩:=h;have h1:=(hd_off h).1;have h2:=encs_wgt l _ _ hc (hd_val h).2;have h3:=encs_off l _ _ hc (hd_val h).2;rw [Tr.wgt];omega
 | .arr true l,off,o,h=>by
  rw [Enc] at h;obtain ⟨v,o1,h,hc⟩:=h;have h1:=(hd_off h).1;have h2:=opens_wgt l _ _ hc;have h3:=opens_off l _ _ hc;rw [Tr.wgt];omega
 | .map false l,off,o,h=>by
  rw [Enc] at h;obtain ⟨ai,v,o1,h,h31,hv,hc⟩:=h;have h1:=(hd_off h).1;have h2:=encs_wgt l _ _ hc (hd_val h).2;have h3:=encs_off l _ _ hc (hd_val h).2;rw [Tr.wgt];omega
 | .map true l,off,o,h=>by
  rw [Enc] at h;obtain ⟨v,o1,h,_,hc⟩:=h;have h1:=(hd_off h).1;have h2:=opens_wgt l _ _ hc;have h3:=opens_off l _ _ hc;rw [Tr.wgt];omega
 | .tag n t,off,o,h=>by
  rw [Enc] at h;obtain ⟨ai,o1,h,hc⟩:=h;have h1:=(hd_off h).1;have h2:=wgt_len t _ _ hc;have h3:=enc_off t _ _ hc;rw [Tr.wgt];omega
theorem encs_wgt {xs:List UInt8}: ∀(l:List Tr) (off o:Nat),Encs xs l off o→off≤xs.length→Tr.wgts l≤o-off
 |[],off,o,h,_=>by rw [Tr.wgts];omega
 |t::l,off,o,h,hx=>by
  rw [Encs] at h;obtain ⟨mid,h1,h2⟩:=h;have e3:=enc_off t _ _ h1;have e1:=wgt_len t _ _ h1;have e2:=encs_wgt l _ _ h2 e3.2;have e4:=encs_off l _ _ h2 e3.2;rw [Tr.wgts];omega
theorem opens_wgt {xs:List UInt8}: ∀(l:List Tr) (off o:Nat),Opens xs l off o→Tr.wgts l≤o-off
 |[],off,o,h=>by rw [Tr.wgts];omega
 |t::l,off,o,h=>by
  rw [Opens] at h;obtain ⟨b,mid,_,_,h1,h2⟩:=h;have e3:=enc_off t _ _ h1;have e1:=wgt_len t _ _ h1;have e2:=opens_wgt l _ _ h2;have e4:=opens_off l _ _ h2;rw [Tr.wgts];omega
theorem chunks_wgt {xs:List UInt8} (tx:Bool): ∀(l:List Tr) (off o:Nat),Chunks xs tx l off o→Tr.wgts l≤o-off
 |[],off,o,h=>by rw [Tr.wgts];omega
 |t::l,off,o,h=>by
  rw [Chunks] at h;obtain ⟨b,mid,_,_,_,h1,h2⟩:=h;have e3:=enc_off t _ _ h1;have e1:=wgt_len t _ _ h1;have e2:=chunks_wgt tx l _ _ h2;have e4:=chunks_off tx l _ _ h2;rw [Tr.wgts];omega
end
def EncL:List (List UInt8)→List Tr→Prop
 |[],[]=>True
 |p::ps,t::ts=>Enc p t 0 p.length∧EncL ps ts
 |_,_=>False
theorem EncL.snoc: ∀{ps:List (List UInt8)} {ts:List Tr} {p:List UInt8} {t:Tr},EncL ps ts→Enc p t 0 p.length→EncL (ps++[p]) (ts++[t])
 |[],[],p,t,_,h=>⟨h,trivial⟩
 |q::ps,u::ts,p,t,h,hp=>⟨h.1,EncL.snoc h.2 hp⟩
 |[],u::ts,_,_,h,_=>h.elim
 |q::ps,[],_,_,h,_=>h.elim
theorem EncL.encs (post:List UInt8): ∀{ps:List (List UInt8)} {ts:List Tr},EncL ps ts→ ∀pre:List UInt8,Encs (pre++(ps.flatten++post)) ts pre.length (pre.length+ps.flatten.length)
 |[],[],_,pre=>by rw [Encs];simp
 |p::ps,t::ts,h,pre=>by
  have h1:=enc_at h.1 pre (ps.flatten++post);have h2:=EncL.encs post h.2 (pre++p);rw [List.append_assoc,List.length_append] at h2;rw [Encs,List.flatten_cons,List.append_assoc,List.length_append,←Nat.add_assoc];exact ⟨_,h1,h2⟩
 |[],t::ts,h,_=>h.elim
 |p::ps,[],h,_=>h.elim
theorem EncL.opens (post:List UInt8): ∀{ps:List (List UInt8)} {ts:List Tr},EncL ps ts→ ∀pre:List UInt8,Opens (pre++(ps.flatten++255::post)) ts pre.length (pre.length+ps.flatten.length+1)
 |[],[],_,pre=>by
  rw [Opens];exact ⟨255,by rw [List.flatten_nil,List.nil_append];exact get_mid _ _ _,rfl,by simp⟩
 |p::ps,t::ts,h,pre=>by
  have h1:=enc_at h.1 pre (ps.flatten++255::post);have h2:=EncL.opens post h.2 (pre++p);obtain ⟨b,hb,hb2⟩:=enc_ne h1;rw [List.append_assoc,List.length_append] at h2;rw [Opens,List.flatten_cons,List.append_assoc,List.length_append,←Nat.add_assoc];exact ⟨b,_,hb,hb2,h1,h2⟩
 |[],t::ts,h,_=>h.elim
 |p::ps,[],h,_=>h.elim
theorem EncL.chunks (tx:Bool) (post:List UInt8): ∀{ps:List (List UInt8)} {ts:List Tr},EncL ps ts→(∀t,t∈ts→ ∃s,t= .str tx s)→ ∀pre:List UInt8,Chunks (pre++(ps.flatten++255::post)) tx ts pre.length (pre.length+ps.flatten.length+1)
 |[],[],_,_,pre=>by
  rw [Chunks];exact ⟨255,by rw [List.flatten_nil,List.nil_append];exact get_mid _ _ _,rfl,by simp⟩
 |p::ps,t::ts,h,hs,pre=>by
  have h1:=enc_at h.1 pre (ps.flatten++255::post);have h2:=EncL.chunks tx post h.2 (fun t ht=>hs t (List.mem_cons_of_mem _ ht)) (pre++p)
  obtain ⟨b,hb,hb2⟩:=enc_ne h1;rw [List.append_assoc,List.length_append] at h2;rw [Chunks,List.flatten_cons,List.append_assoc,List.length_append,←Nat.add_assoc];exact ⟨b,_,hb,hb2,hs t (List.mem_cons_self ..),h1,h2⟩
 |[],t::ts,h,_,_=>h.elim
 |p::ps,[],h,_,_=>h.elim
theorem encs_mem {xs:List UInt8}: ∀{l:List Tr} {off o:Nat},Encs xs l off o→ ∀u,u∈l→ ∃off' o',Enc xs u off' o'
 |[],_,_,_,u,h=>by cases h
 |t::l,off,o,he,u,h=>by
  rw [Encs] at he;obtain ⟨mid,h1,h2⟩:=he;rcases List.mem_cons.1 h with rfl|h
  ·exact ⟨_,_,h1⟩
  ·exact encs_mem h2 u h
theorem opens_mem {xs:List UInt8}: ∀{l:List Tr} {off o:Nat},Opens xs l off o→ ∀u,u∈l→ ∃off' o',Enc xs u off' o'
 |[],_,_,_,u,h=>by cases h
 |t::l,off,o,he,u,h=>by
  rw [Opens] at he;obtain ⟨b,mid,_,_,h1,h2⟩:=he;rcases List.mem_cons.1 h with rfl|h
  ·exact ⟨_,_,h1⟩
  ·exact opens_mem h2 u h
theorem chunks_mem {xs:List UInt8} {tx:Bool}: ∀{l:List Tr} {off o:Nat},Chunks xs tx l off o→ ∀u,u∈l→(∃s,u= .str tx s)∧ ∃off' o',Enc xs u off' o'
 |[],_,_,_,u,h=>by cases h
 |t::l,off,o,he,u,h=>by
  rw [Chunks] at he;obtain ⟨b,mid,_,_,hs,h1,h2⟩:=he;rcases List.mem_cons.1 h with rfl|h
  ·exact ⟨hs,_,_,h1⟩
  ·exact chunks_mem h2 u h
theorem enc_ks {xs:List UInt8} {t u:Tr} {off o:Nat} (h:Enc xs t off o) (hu:u∈t.ks): ∃off' o',Enc xs u off' o':=by
 cases t with
 |chk tx l=>rw [Enc] at h;obtain ⟨v,o1,_,hc⟩:=h;exact (chunks_mem hc u hu).2
 |arr op l=>
  cases op<;>(rw [Enc] at h)
  ·obtain ⟨ai,o1,_,_,hc⟩:=h;exact encs_mem hc u hu
  ·obtain ⟨v,o1,_,hc⟩:=h;exact opens_mem hc u hu
 |map op l=>
  cases op<;>(rw [Enc] at h)
  ·obtain ⟨ai,v,o1,_,_,_,hc⟩:=h;exact encs_mem hc u hu
  ·obtain ⟨v,o1,_,_,hc⟩:=h;exact opens_mem hc u hu
 |tag n t=>rw [Enc] at h;obtain ⟨ai,o1,_,hc⟩:=h;simp [Tr.ks] at hu;subst hu;exact ⟨_,_,hc⟩
 |int neg n=>simp [Tr.ks] at hu
 |str tx b=>simp [Tr.ks] at hu
 |prim ai v=>simp [Tr.ks] at hu
theorem cod_int (neg:Bool) (n form:Nat) (hn:n<18446744073709551616):Enc (headB (if neg then 1 else 0) n form) (.int neg n) 0 (headB (if neg then 1 else 0) n form).length:=by
 obtain ⟨ai,hh,ha⟩:=hd_headB (if neg then 1 else 0) n form (by split<;>omega) hn [] []
 rw [List.append_nil,List.nil_append,List.length_nil,Nat.zero_add] at hh;rw [Enc];exact ⟨ai,hh⟩
theorem cod_str (tx:Bool) (b:List UInt8) (form:Nat) (hb:b.length≤100000):Enc (headB (majS tx) b.length form++b) (.str tx b) 0 (headB (majS tx) b.length form++b).length:=by
 obtain ⟨ai,hh,ha⟩:=hd_headB (majS tx) b.length form (by cases tx<;>simp [majS]) (by omega) [] b
 rw [List.nil_append,List.length_nil,Nat.zero_add] at hh;rw [Enc];refine ⟨ai,b.length,_,hh,by omega,by simp,by omega,by simp,?_⟩
 rw [List.drop_left,List.take_length]
theorem cod_arr {ps:List (List UInt8)} {ts:List Tr} (form:Nat) (h:EncL ps ts) (hl:ts.length≤100000):Enc (headB 4 ts.length form++ps.flatten) (.arr false ts) 0 (headB 4 ts.length form++ps.flatten).length:=by
 obtain ⟨ai,hh,ha⟩:=hd_headB 4 ts.length form (by omega) (by omega) [] ps.flatten
 rw [List.nil_append,List.length_nil,Nat.zero_add] at hh;rw [Enc];refine ⟨ai,_,hh,by omega,?_⟩
 have:=h.encs [] (headB 4 ts.length form)
 rwa [List.append_nil,←List.length_append] at this
theorem cod_map {ps:List (List UInt8)} {ts:List Tr} (form v:Nat) (h:EncL ps ts) (hv:ts.length=v*2) (hl:ts.length≤100000):Enc (headB 5 v form++ps.flatten) (.map false ts) 0 (headB 5 v form++ps.flatten).length:=by
 obtain ⟨ai,hh,ha⟩:=hd_headB 5 v form (by omega) (by omega) [] ps.flatten
 rw [List.nil_append,List.length_nil,Nat.zero_add] at hh;rw [Enc];refine ⟨ai,_,_,hh,by omega,hv,?_⟩
 have:=h.encs [] (headB 5 v form)
 rwa [List.append_nil,←List.length_append] at this
theorem cod_tag {ps:List (List UInt8)} {t:Tr} (form n:Nat) (h:EncL ps [t]) (hn:n<18446744073709551616):Enc (headB 6 n form++ps.flatten) (.tag n t) 0 (headB 6 n form++ps.flatten).length:=by
 obtain ⟨ai,hh,ha⟩:=hd_headB 6 n form (by omega) hn [] ps.flatten
 rw [List.nil_append,List.length_nil,Nat.zero_add] at hh;rw [Enc];refine ⟨ai,_,hh,?_⟩
 have:=h.encs [] (headB 6 n form);rw [List.append_nil,←List.length_append,Encs] at this;obtain ⟨mid,h1,h2⟩:=this;rw [Encs] at h2
 rwa [h2] at h1
theorem cod_oarr {ps:List (List UInt8)} {ts:List Tr} (h:EncL ps ts):Enc (159::(ps.flatten++[255])) (.arr true ts) 0 (159::(ps.flatten++[255])).length:=by
 rw [Enc];refine ⟨31,1,hd_open 4 (by omega) (by omega) _,?_⟩
 have:=h.opens [] [159]
 simpa [Nat.add_comm,Nat.add_left_comm] using this
theorem cod_omap {ps:List (List UInt8)} {ts:List Tr} (h:EncL ps ts) (h2:ts.length%2=0):Enc (191::(ps.flatten++[255])) (.map true ts) 0 (191::(ps.flatten++[255])).length:=by
 rw [Enc];refine ⟨31,1,hd_open 5 (by omega) (by omega) _,h2,?_⟩
 have:=h.opens [] [191]
 simpa [Nat.add_comm,Nat.add_left_comm] using this
theorem cod_chk {tx:Bool} {ps:List (List UInt8)} {ts:List Tr} (h:EncL ps ts) (hs: ∀t,t∈ts→ ∃s,t= .str tx s):Enc (UInt8.ofNat (majS tx*32+31)::(ps.flatten++[255])) (.chk tx ts) 0 (UInt8.ofNat (majS tx*32+31)::(ps.flatten++[255])).length:=by
 rw [Enc];refine ⟨31,1,hd_open (majS tx) (by cases tx<;>simp [majS]) (by cases tx<;>simp [majS]) _,?_⟩
 have:=h.chunks tx [] hs [UInt8.ofNat (majS tx*32+31)]
 simpa [Nat.add_comm,Nat.add_left_comm] using this
theorem cod_flt (ai v:Nat) (ha:ai=25∨ai=26∨ai=27) (hv:v<256^2^(ai-24)):Enc (fltH ai v) (.prim ai v) 0 (fltH ai v).length:=by
 have hh:=hd_fltH ai v ha hv [] [];rw [List.append_nil,List.nil_append,List.length_nil,Nat.zero_add] at hh;rw [Enc];exact hh
theorem cod_small (v:Nat) (hv:v<24):Enc (headB 7 v 0) (.prim v v) 0 (headB 7 v 0).length:=by
 have e:headB 7 v 0=[UInt8.ofNat (224+v)]:=if_pos ⟨rfl,hv⟩;have h1:(UInt8.ofNat (224+v)).toNat=224+v:=by simp;omega
 rw [e,Enc];unfold hd;simp only [List.getElem?_cons_zero,h1];have a1:(224+v)/32=7:=by omega
 have a2:(224+v)%32=v:=by omega
 rw [a1,a2,if_pos hv]
 rfl
theorem cod_one (v:Nat) (h1:32≤v) (h2:v<256):Enc (headB 7 v 1) (.prim 24 v) 0 (headB 7 v 1).length:=by
 have e:headB 7 v 1=[248,UInt8.ofNat v]:=by
  unfold headB;rw [if_neg (by omega)]
  have hl:lgB 1 v=0:=by unfold lgB;rw [if_pos ⟨by omega,h2⟩]
  rw [hl];simp [beB,ofNat_mod]
 have h3:(UInt8.ofNat v).toNat=v:=by simp;omega
 rw [e,Enc];unfold hd;simp [be,h3];omega
end
section
open Go.RowKit
def NdB (B:Nat) (w:World) (t:Tr) (kv:Value):Prop:= ∃bl,(∀b,b∈bl→b<B)∧NdV w bl (gn t) kv
theorem NdB.fr {B:Nat} {w w':World} {t:Tr} {kv:Value} {S:List Nat} (h:NdB B w t kv) (hB:B≤w.heap.size) (hf:Fr S w w') (hS: ∀s,s∈S→B≤s):NdB B w' t kv:=by
 obtain ⟨bl,h1,h2⟩:=h;exact ⟨bl,h1,h2.fr (fun b hb=>hf.block b (Nat.lt_of_lt_of_le (h1 b hb) hB) (fun e=>by have:=hS b e;have:=h1 b hb;omega)) (fun b hb=>hb) _ _⟩
theorem NdB.kids {B:Nat} {w:World} {t:Tr} {kv:Value} (h:NdB B w t kv): ∃ao c g,kv= .slice ao t.ks.length c∧(t.ks≠[]→ao=some ⟨g,0,none⟩∧t.ks.length≤c∧g<B)∧ ∀j (hj:j<t.ks.length),∃kv',At w g (8*j) (nd (gn t.ks[j]) kv')∧NdB B w t.ks[j] kv':=by
 obtain ⟨bl,h1,h2⟩:=h;rw [ndV_ks,gn_ks] at h2;rcases h2 with ⟨h3,ao,c,rfl⟩|⟨g,c,rfl,h3,h4,h5,h6⟩
 ·have h0:t.ks=[]:=by
   cases hk:t.ks with
   |nil=>rfl
   |cons u l=>rw [hk] at h3;simp [gns] at h3
  exact ⟨ao,c,0,by rw [h0];rfl,fun h=>absurd h0 h,fun j hj=>absurd hj (by rw [h0];simp)⟩
 ·rw [gns_length] at h3;refine ⟨some ⟨g,0,none⟩,c,g,by rw [gns_length],fun _=>⟨rfl,h3,h1 g h5⟩,fun j hj=> ?_⟩
  have:=NdFrom.at_ (gns t.ks) 0 j (gn t.ks[j]) h6 (by rw [gns_get,List.getElem?_eq_getElem hj];rfl)
  rw [Nat.zero_add] at this;obtain ⟨kv',q1,q2⟩:=this;exact ⟨kv',q1,bl,h1,q2⟩
theorem NdB.slice {B:Nat} {w:World} {t:Tr} {kv:Value} (h:NdB B w t kv): ∃ao n c,kv= .slice ao n c:=by
 obtain ⟨bl,_,h2⟩:=h;exact h2.slice
def CodP (t:Tr) (w:World) (cb:Nat) (e:Ending) (w':World):Prop:= ∃bs:List UInt8,e= .returned (.string ⟨bs.toArray⟩)∧Enc bs t 0 bs.length∧bs.length≤10*t.wgt∧Ch w' cb∧Fr [cb] w w'
theorem Ch.lt {w:World} {cb:Nat} (h:Ch w cb):cb<w.heap.size:=by
 obtain ⟨ao,n,c,a,h1,_⟩:=h;exact blk_lt' h1
theorem fltH_len (ai v:Nat) (ha:ai=25∨ai=26∨ai=27):(fltH ai v).length≤9:=by
 rcases ha with rfl|rfl|rfl<;>simp [fltH,beB_length]
theorem coded_flt {w:World} {cb:Nat} {ao:Option Addr} {nk c:Nat} (N sz:Nat) (T:List UInt8) (hT: ∀w,Calls Tryz.prog 74 #[.int .u64 (N:Int),.int .i64 (sz:Int)] w fun e w'=>e= .returned (.string ⟨T.toArray⟩)∧Fr [] w w') (hc:Ch w cb):
  Calls Tryz.prog 42 #[.agg #[.int .i64 (7),.int .u64 ((N:Int)),.int .i64 ((sz:Int)),.bool false,.bool true,.bool false,.string ⟨#[]⟩,.slice ao nk c],.pointer (some ⟨cb,0,none⟩)] w fun e w'=>e= .returned (.string ⟨T.toArray⟩)∧Ch w' cb∧Fr [cb] w w':=by
 replace hT:=Hz hT;have K1:=Hz (fun (o:Obj)=>next (hc.fr ((Fr.refl [] w).alloc o)) 7 (by omega) (by omega))
 have hcl:=hc.lt;go_enter Tryz.func42,Tryz.ntmps42
 go_wp2_with fail
 refine (K1.out _).mono ?_
 rintro e w1 ⟨k,hk,rfl,hc1,hf1⟩;have hb1:=hf1.blk (blk_new w (.cells #[.int .i64 (7),.int .u64 ((N:Int)),.int .i64 ((sz:Int)),.bool false,.bool true,.bool false,.string ⟨#[]⟩,.slice ao nk c] 45)) (by simp;omega)
 have hF1:Fr [cb] w w1:=((Fr.refl _ _).alloc _).trans hf1;obtain ⟨⟨d0,d1,d2,d3,d4,d5,d6,d7⟩,g0,g1,g2,g3,g4,g5,g6,g7⟩:=cells8 hb1;have hs1:=hf1.size;simp only [World.size_alloc] at hs1;replace hb1:=Hz hb1;obtain ⟨form,hform,hfo⟩: ∃f:Nat,f≤4∧(max 0 ((k:Int)-2))=(f:Int):=⟨k-2,by omega,by omega⟩
 go_wp2_with fail
 refine (hT.out _).mono ?_
 rintro e w2 ⟨rfl,hf2⟩;go_wp2;go_ret
 exact ⟨rfl,hc1.fr hf2,hF1.trans (hf2.mono (by simp))⟩
theorem coded_small {w:World} {cb:Nat} {ao:Option Addr} {nk c:Nat} (N:Nat) (hN:N<24) (hc:Ch w cb):
  Calls Tryz.prog 42 #[.agg #[.int .i64 (7),.int .u64 ((N:Int)),.int .i64 (0),.bool false,.bool false,.bool false,.string ⟨#[]⟩,.slice ao nk c],.pointer (some ⟨cb,0,none⟩)] w fun e w'=>e= .returned (.string ⟨(headB 7 N 0).toArray⟩)∧Ch w' cb∧Fr [cb] w w':=by
 have KH:=Hz (fun w=>head 7 N (by omega) (by omega) w)
 have tN:(N:Int)<24:=by omega
 have K1:=Hz (fun (o:Obj)=>next (hc.fr ((Fr.refl [] w).alloc o)) 7 (by omega) (by omega))
 have hcl:=hc.lt;go_enter Tryz.func42,Tryz.ntmps42
 go_wp2_with fail
 refine (K1.out _).mono ?_
 rintro e w1 ⟨k,hk,rfl,hc1,hf1⟩;have hb1:=hf1.blk (blk_new w (.cells #[.int .i64 (7),.int .u64 ((N:Int)),.int .i64 (0),.bool false,.bool false,.bool false,.string ⟨#[]⟩,.slice ao nk c] 45)) (by simp;omega)
 have hF1:Fr [cb] w w1:=((Fr.refl _ _).alloc _).trans hf1;obtain ⟨⟨d0,d1,d2,d3,d4,d5,d6,d7⟩,g0,g1,g2,g3,g4,g5,g6,g7⟩:=cells8 hb1;have hs1:=hf1.size;simp only [World.size_alloc] at hs1;replace hb1:=Hz hb1;obtain ⟨form,hform,hfo⟩: ∃f:Nat,f≤4∧(max 0 ((k:Int)-2))=(f:Int):=⟨k-2,by omega,by omega⟩
 go_wp2_with fail
 refine (KH.out _).mono ?_
 rintro e w2 ⟨rfl,hf2⟩;go_wp2;go_ret
 exact ⟨rfl,hc1.fr hf2,hF1.trans (hf2.mono (by simp))⟩
theorem coded_one {w:World} {cb:Nat} {ao:Option Addr} {nk c:Nat} (N:Nat) (hN:24≤N) (hN2:N<256) (hc:Ch w cb):
  Calls Tryz.prog 42 #[.agg #[.int .i64 (7),.int .u64 ((N:Int)),.int .i64 (0),.bool false,.bool false,.bool false,.string ⟨#[]⟩,.slice ao nk c],.pointer (some ⟨cb,0,none⟩)] w fun e w'=>e= .returned (.string ⟨(headB 7 N 1).toArray⟩)∧Ch w' cb∧Fr [cb] w w':=by
 have KH:=Hz (fun w=>headIn 7 N 1 (by omega) (by omega) (by omega) w)
 have tN: ¬(N:Int)<24:=by omega
 have K1:=Hz (fun (o:Obj)=>next (hc.fr ((Fr.refl [] w).alloc o)) 7 (by omega) (by omega))
 have hcl:=hc.lt;go_enter Tryz.func42,Tryz.ntmps42
 go_wp2_with fail
 refine (K1.out _).mono ?_
 rintro e w1 ⟨k,hk,rfl,hc1,hf1⟩;have hb1:=hf1.blk (blk_new w (.cells #[.int .i64 (7),.int .u64 ((N:Int)),.int .i64 (0),.bool false,.bool false,.bool false,.string ⟨#[]⟩,.slice ao nk c] 45)) (by simp;omega)
 have hF1:Fr [cb] w w1:=((Fr.refl _ _).alloc _).trans hf1;obtain ⟨⟨d0,d1,d2,d3,d4,d5,d6,d7⟩,g0,g1,g2,g3,g4,g5,g6,g7⟩:=cells8 hb1;have hs1:=hf1.size;simp only [World.size_alloc] at hs1;replace hb1:=Hz hb1;obtain ⟨form,hform,hfo⟩: ∃f:Nat,f≤4∧(max 0 ((k:Int)-2))=(f:Int):=⟨k-2,by omega,by omega⟩
 go_wp2_with fail
 refine (KH.out _).mono ?_
 rintro e w2 ⟨rfl,hf2⟩;go_wp2;go_ret
 exact ⟨rfl,hc1.fr hf2,hF1.trans (hf2.mono (by simp))⟩
theorem coded_int {w:World} {cb:Nat} {ao:Option Addr} {nk c:Nat} (m N:Nat) (hm:m<2) (hN:N<18446744073709551616) (hc:Ch w cb):
  Calls Tryz.prog 42 #[.agg #[.int .i64 ((m:Int)),.int .u64 ((N:Int)),.int .i64 (0),.bool false,.bool false,.bool false,.string ⟨#[]⟩,.slice ao nk c],.pointer (some ⟨cb,0,none⟩)] w fun e w'=> ∃form,e= .returned (.string ⟨(headB m N form).toArray⟩)∧Ch w' cb∧Fr [cb] w w':=by
 have KH:=Hz (fun f (hf:f≤100) w=>headIn m N f (by omega) hN hf w)
 have t7:((m:Int)==7)=false:=by simp;omega
 have u7: ¬(m:Int)=7:=by omega
 have t2:(m:Int)<2:=by omega
 have K1:=Hz (fun (o:Obj)=>next (hc.fr ((Fr.refl [] w).alloc o)) 7 (by omega) (by omega))
 have hcl:=hc.lt;go_enter Tryz.func42,Tryz.ntmps42
 go_wp2_with fail
 refine (K1.out _).mono ?_
 rintro e w1 ⟨k,hk,rfl,hc1,hf1⟩;have hb1:=hf1.blk (blk_new w (.cells #[.int .i64 ((m:Int)),.int .u64 ((N:Int)),.int .i64 (0),.bool false,.bool false,.bool false,.string ⟨#[]⟩,.slice ao nk c] 45)) (by simp;omega)
 have hF1:Fr [cb] w w1:=((Fr.refl _ _).alloc _).trans hf1;obtain ⟨⟨d0,d1,d2,d3,d4,d5,d6,d7⟩,g0,g1,g2,g3,g4,g5,g6,g7⟩:=cells8 hb1;have hs1:=hf1.size;simp only [World.size_alloc] at hs1;replace hb1:=Hz hb1;obtain ⟨form,hform,hfo⟩: ∃f:Nat,f≤4∧(max 0 ((k:Int)-2))=(f:Int):=⟨k-2,by omega,by omega⟩
 go_wp2_with fail
 refine (KH.out form (by omega) _).mono ?_
 rintro e w2 ⟨rfl,hf2⟩;go_wp2;go_ret
 exact ⟨form,rfl,hc1.fr hf2,hF1.trans (hf2.mono (by simp))⟩
theorem coded_str {w:World} {cb:Nat} {ao:Option Addr} {nk c:Nat} (m:Nat) (b:List UInt8) (hm:m=2∨m=3) (hb:b.length≤100000) (hc:Ch w cb):
  Calls Tryz.prog 42 #[.agg #[.int .i64 ((m:Int)),.int .u64 (0),.int .i64 (0),.bool false,.bool false,.bool false,.string ⟨b.toArray⟩,.slice ao nk c],.pointer (some ⟨cb,0,none⟩)] w fun e w'=> ∃form,e= .returned (.string ⟨(headB m b.length form++b).toArray⟩)∧Ch w' cb∧Fr [cb] w w':=by
 have KH:=fun f (hf:f≤4) w=>headIn m b.length f (by omega) (by omega) (by omega) w
 have HL:=Hz (headB_le m b.length);have t7:((m:Int)==7)=false:=by simp;omega
 have u7: ¬(m:Int)=7:=by omega
 have t2: ¬(m:Int)<2:=by omega
 have t4:(m:Int)<4:=by omega
 have gu:IntKind.u64.wrap (b.length:Int)=(b.length:Int):=by show (b.length:Int)%18446744073709551616=_;omega
 replace KH:=Hz KH;have K1:=Hz (fun (o:Obj)=>next (hc.fr ((Fr.refl [] w).alloc o)) 7 (by omega) (by omega))
 have hcl:=hc.lt;go_enter Tryz.func42,Tryz.ntmps42
 go_wp2_with fail
 refine (K1.out _).mono ?_
 rintro e w1 ⟨k,hk,rfl,hc1,hf1⟩;have hb1:=hf1.blk (blk_new w (.cells #[.int .i64 ((m:Int)),.int .u64 (0),.int .i64 (0),.bool false,.bool false,.bool false,.string ⟨b.toArray⟩,.slice ao nk c] 45)) (by simp;omega)
 have hF1:Fr [cb] w w1:=((Fr.refl _ _).alloc _).trans hf1;obtain ⟨⟨d0,d1,d2,d3,d4,d5,d6,d7⟩,g0,g1,g2,g3,g4,g5,g6,g7⟩:=cells8 hb1;have hs1:=hf1.size;simp only [World.size_alloc] at hs1;replace hb1:=Hz hb1;obtain ⟨form,hform,hfo⟩: ∃f:Nat,f≤4∧(max 0 ((k:Int)-2))=(f:Int):=⟨k-2,by omega,by omega⟩
 have hhl:=HL.out form;have KH2:=Hz (KH.out form hform);obtain ⟨Hd,hHd⟩: ∃Hd,headB m b.length form=Hd:=⟨_,rfl⟩;rw [hHd] at hhl KH2;have q1: ¬9223372036854775807<Hd.length+b.length:=by omega
 have KEEP: ∀W,Fr [] w1 W→W.cell? ⟨w.heap.size,0,none⟩=some (.int .i64 (m:Int))∧W.cell? ⟨w.heap.size,6,none⟩=some (.string ⟨b.toArray⟩):=fun W hf=>⟨hf.cell d0 (by simp),hf.cell d6 (by simp)⟩
 replace KEEP:=Hz KEEP;go_wp2
 go_region_held3 (fun W=>W.cell? ⟨w.heap.size,0,none⟩=some (.int .i64 (m:Int))∧W.cell? ⟨w.heap.size,6,none⟩=some (.string ⟨b.toArray⟩)) (first|go_keep|exact KEEP.out _ hf2) (first|(go_at_call 55;refine (KH2.out _).mono ?_;rintro e w2 ⟨rfl,hf2a⟩;have hf2:=((Fr.refl [] w1).drewN 1).trans hf2a))
 go_wp2;go_ret
 exact ⟨form,by rw [hHd,←mk_append];rfl,hc1.fr hf2,hF1.trans (hf2.mono (by simp))⟩
end
section
open Go.RowKit
theorem wgts_take: ∀(l:List Tr) (j:Nat) (hj:j<l.length),Tr.wgts (l.take (j+1))=Tr.wgts (l.take j)+l[j].wgt
 |[],j,hj=>by simp at hj
 |t::l,0,hj=>by simp [Tr.wgts]
 |t::l,j+1,hj=>by
  simp only [List.take_succ_cons,Tr.wgts,List.getElem_cons_succ];rw [wgts_take l j (by simpa using hj)]
  omega
theorem wgts_le: ∀(l:List Tr) j,Tr.wgts (l.take j)≤Tr.wgts l
 |[],j=>by simp [Tr.wgts]
 |a::l,0=>by simp [Tr.wgts]
 |a::l,j+1=>by simp only [List.take_succ_cons,Tr.wgts];have:=wgts_le l j;omega
theorem byteStr (w:World) (b:UInt8) (x:Int) (hx:x=(b.toNat:Int)):(convert 59 9 (.slice (some ⟨w.heap.size,0,none⟩) 1 1)).run Tryz.prog (w.alloc (.cells #[.int .u8 x] 5))= .ok (.string ⟨#[b]⟩) (w.alloc (.cells #[.int .u8 x] 5)):=
 toStr (xs:=[b]) (fun j hj=>by
  obtain rfl:j=0:=by simp at hj;omega
  subst hx;exact cell_blk (blk_new w _) 0) 1
theorem wrapS (b:UInt8) (P:List UInt8):(⟨(b::(P++[255])).toArray⟩:ByteArray)=⟨#[b]⟩++⟨P.toArray⟩++⟨#[255]⟩:=by
 rw [show b::(P++[255])=([b]++P)++[255] by simp,mk_append,mk_append]
def LsV (mi:Int) (K:List Tr) (N V:Nat):Prop:=(mi=4∧V=K.length)∨(mi=5∧K.length=V*2)∨(mi=6∧V=N)
def CodK (w:World) (cb g:Nat) (K:List Tr):Prop:= ∀j (hj:j<K.length),∃ao' n' c',∀W,Fr [cb] w W→Ch W cb→At W g (8*j) (nd (gn K[j]) (.slice ao' n' c'))∧ ∀W',Fr [cb] w W'→Ch W' cb→Calls Tryz.prog 42 #[.agg (nd (gn K[j]) (.slice ao' n' c')).toArray,.pointer (some ⟨cb,0,none⟩)] W' fun e w'=>CodP K[j] W' cb e w'
theorem coded_open {w:World} {cb:Nat} {ao:Option Addr} {c:Nat} (mi:Int) (b0:UInt8) (hM:(mi=2∧b0=95)∨(mi=3∧b0=127)∨(mi=4∧b0=159)∨(mi=5∧b0=191)) (K:List Tr) (g:Nat) (hao:K≠[]→ao=some ⟨g,0,none⟩∧K.length≤c) (hw:Tr.wgts K≤100000) (hkl:K.length≤100000) (hks:CodK w cb g K) (hc:Ch w cb):
  Calls Tryz.prog 42 #[.agg #[.int .i64 (mi),.int .u64 (0),.int .i64 (0),.bool true,.bool false,.bool false,.string ⟨#[]⟩,.slice ao K.length c],.pointer (some ⟨cb,0,none⟩)] w fun e w'=> ∃ps:List (List UInt8),e= .returned (.string ⟨(b0::(ps.flatten++[255])).toArray⟩)∧EncL ps K∧ps.flatten.length≤10*Tr.wgts K∧Ch w' cb∧Fr [cb] w w':=by
 have t7:(mi==7)=false:=by simp;omega
 have u7: ¬mi=7:=by omega
 have t2: ¬mi<2:=by omega
 have hlow:cb<w.heap.size:=hc.lt;replace hks:=Hz hks;replace hao:=Hz hao;replace hM:=Hz hM;have K1:=Hz (fun (o:Obj)=>next (hc.fr ((Fr.refl [] w).alloc o)) 7 (by omega) (by omega))
 have hcl:=hc.lt;go_enter Tryz.func42,Tryz.ntmps42
 go_wp2_with fail
 refine (K1.out _).mono ?_
 rintro e w1 ⟨k,hk,rfl,hc1,hf1⟩;have hb1:=hf1.blk (blk_new w (.cells #[.int .i64 (mi),.int .u64 (0),.int .i64 (0),.bool true,.bool false,.bool false,.string ⟨#[]⟩,.slice ao K.length c] 45)) (by simp;omega)
 have hF1:Fr [cb] w w1:=((Fr.refl _ _).alloc _).trans hf1;obtain ⟨⟨d0,d1,d2,d3,d4,d5,d6,d7⟩,g0,g1,g2,g3,g4,g5,g6,g7⟩:=cells8 hb1;have hs1:=hf1.size;simp only [World.size_alloc] at hs1;replace hb1:=Hz hb1;obtain ⟨form,hform,hfo⟩: ∃f:Nat,f≤4∧(max 0 ((k:Int)-2))=(f:Int):=⟨k-2,by omega,by omega⟩
 have hlt:=Hz (wgts_take K);have hle:=Hz (wgts_le K);go_wp2_with fail
 go_loopg [6,59] K.length (fun k v6 v59 wr=> ∃(j:Nat) (ps:List (List UInt8)) (P:List UInt8),Hid (P=ps.flatten)∧v59= .int .i64 (j:Int)∧j+k=K.length∧v6= .string ⟨P.toArray⟩∧Hid (EncL ps (K.take j))∧P.length≤10*Tr.wgts (K.take j)∧Hid (Ch wr cb)∧Hid (Fr [cb] w wr)∧Hid (wr.heap[w.heap.size]? =some (.cells #[.int .i64 (mi),.int .u64 (0),.int .i64 (0),.bool true,.bool false,.bool false,.string ⟨#[]⟩,.slice ao K.length c] 45 (0,0))))
 case atStart=>exact ⟨0,[],[],Hz rfl,by go_num,by omega,rfl,Hz (by rw [List.take_zero];trivial),by simp,Hz hc1,Hz hF1,hb1⟩
 case round=>
  obtain ⟨j,ps,P,hP,rfl,hj,rfl,hE,hpl,hC,hF,hb⟩:=hrel;by_cases hk0:gk=0
  ·subst hk0;obtain rfl:j=K.length:=by omega
   rw [List.take_length] at hE hpl;have hcc:=hb.out;obtain ⟨⟨c0,c1,c2,c3,c4,c5,c6,c7⟩,f0,f1,f2,f3,f4,f5,f6,f7⟩:=cells8 hcc;clear hcc f0 f1 f2 f3 f4 f5 f6 f7 d0 d1 d2 d3 d4 d5 d6 d7 g0 g1 g2 g3 g4 g5 g6 g7;have hpl2:P.length≤1000000:=by omega
   have hsum:=Hz (show (List.map List.length ps).sum≤10*Tr.wgts K by rw [←List.length_flatten,←hP.out];exact hpl)
   rcases hM.out with ⟨rfl,rfl⟩|⟨rfl,rfl⟩|⟨rfl,rfl⟩|⟨rfl,rfl⟩
   ·have hbt:bits .or .i64 64 31=95:=rfl;have hcv:=byteStr wr 95 95 rfl;have q2: ¬9223372036854775807<1+P.length:=by omega
    have q3: ¬9223372036854775807<1+P.length+1:=by omega
    go_wp2;go_ret
    exact ⟨ps,by rw [←hP.out,wrapS];rfl,hE.out,hsum.out,(hC.out.fr ((Fr.refl [] wr).alloc _)),hF.out.alloc _⟩
   ·have hbt:bits .or .i64 96 31=127:=rfl;have hcv:=byteStr wr 127 127 rfl;have q2: ¬9223372036854775807<1+P.length:=by omega
    have q3: ¬9223372036854775807<1+P.length+1:=by omega
    go_wp2;go_ret
    exact ⟨ps,by rw [←hP.out,wrapS];rfl,hE.out,hsum.out,(hC.out.fr ((Fr.refl [] wr).alloc _)),hF.out.alloc _⟩
   ·have hbt:bits .or .i64 128 31=159:=rfl;have hcv:=byteStr wr 159 159 rfl;have q2: ¬9223372036854775807<1+P.length:=by omega
    have q3: ¬9223372036854775807<1+P.length+1:=by omega
    go_wp2;go_ret
    exact ⟨ps,by rw [←hP.out,wrapS];rfl,hE.out,hsum.out,(hC.out.fr ((Fr.refl [] wr).alloc _)),hF.out.alloc _⟩
   ·have hbt:bits .or .i64 160 31=191:=rfl;have hcv:=byteStr wr 191 191 rfl;have q2: ¬9223372036854775807<1+P.length:=by omega
    have q3: ¬9223372036854775807<1+P.length+1:=by omega
    go_wp2;go_ret
    exact ⟨ps,by rw [←hP.out,wrapS];rfl,hE.out,hsum.out,(hC.out.fr ((Fr.refl [] wr).alloc _)),hF.out.alloc _⟩
  ·obtain ⟨q,rfl⟩: ∃q,gk=q+1:=⟨gk-1,by omega⟩
   have hjl:j<K.length:=by omega
   have t1:(j:Int)<(K.length:Int):=by omega
   obtain ⟨ao',n',c',hkj⟩:=hks.out j hjl;obtain ⟨hat,KL⟩:=hkj wr hF.out hC.out;clear hkj;obtain ⟨rfl,hcap⟩:=hao.out (by intro e;rw [e] at hjl;simp at hjl)
   have hst:=hlt.out j hjl;have hl2:=hle.out (j+1);obtain ⟨⟨m2,nu2,si2,op2,fl2,bi2,tx2,gk2⟩,hG⟩: ∃G,G=gn K[j]:=⟨_,rfl⟩;rw [←hG] at hat KL;rw [nd_mk] at KL;replace KL:=Hz KL;have e0:=hat 0 _ rfl;have e1:=hat 1 _ rfl;have e2:=hat 2 _ rfl;have e3:=hat 3 _ rfl;have e4:=hat 4 _ rfl;have e5:=hat 5 _ rfl;have e6:=hat 6 _ rfl;have e7:=hat 7 _ rfl;simp only [Gn.maj,Gn.num,Gn.siz,Gn.opn,Gn.flt,Gn.big,Gn.tex] at e0 e1 e2 e3 e4 e5 e6;rw [Nat.mul_comm 8 j] at e0 e1 e2 e3 e4 e5 e6 e7;rw [Nat.add_zero] at e0;clear hat hG d0 d1 d2 d3 d4 d5 d6 d7 g0 g1 g2 g3 g4 g5 g6 g7;have hCa:=Hz (fun (o:Obj)=>hC.out.fr ((Fr.refl [] wr).alloc o))
   have hFa:=Hz (fun (o:Obj)=>hF.out.alloc o)
   have hsz:=Hz (blk_lt' hb.out);have htk:=Hz (take_snoc' K j hjl);obtain ⟨TJ,hTJ⟩: ∃TJ,TJ=K[j]:=⟨_,rfl⟩;rw [←hTJ] at hst KL htk;clear hTJ;go_wp2_with fail
   refine (KL.out _ (hFa.out _) (hCa.out _)).mono ?_
   rintro e w2 ⟨bs,rfl,he2,hl3,hc2,hf2⟩;have hpl3:(P++bs).length≤10*Tr.wgts (K.take (j+1)):=by rw [List.length_append];omega
   have hE3:Hid (EncL (ps++[bs]) (K.take (j+1))):=Hz (by rw [htk.out];exact hE.out.snoc he2)
   replace hf2:=Hz hf2;replace hc2:=Hz hc2;have q1: ¬9223372036854775807<P.length+bs.length:=by omega
   go_wp2
   go_roundg q
   case measure=>omega
   case rel=>exact ⟨j+1,ps++[bs],P++bs,Hz (by rw [hP.out,List.flatten_append,List.flatten_cons,List.flatten_nil,List.append_nil]),by go_num,by omega,by rw [←mk_append],hE3,hpl3,hc2,Hz ((hFa.out _).trans hf2.out),Hz (hf2.out.blk (blk_alloc hb.out _) (by simp;exact fun e=>absurd (e▸hlow) (by omega)))⟩
theorem coded_list {w:World} {cb:Nat} {ao:Option Addr} {c:Nat} (mi:Int) (N v:Nat) (K:List Tr) (hm:(mi=4∧v=0)∨(mi=5∧K.length=v*2)∨(mi=6∧K.length=1∧N<18446744073709551616)) (g:Nat) (hao:K≠[]→ao=some ⟨g,0,none⟩∧K.length≤c) (hw:Tr.wgts K≤100000) (hkl:K.length≤100000) (hks:CodK w cb g K) (hc:Ch w cb):
  Calls Tryz.prog 42 #[.agg #[.int .i64 (mi),.int .u64 ((N:Int)),.int .i64 (0),.bool false,.bool false,.bool false,.string ⟨#[]⟩,.slice ao K.length c],.pointer (some ⟨cb,0,none⟩)] w fun e w'=> ∃(ps:List (List UInt8)) (form V:Nat),e= .returned (.string ⟨(headB mi.toNat V form++ps.flatten).toArray⟩)∧EncL ps K∧ps.flatten.length≤10*Tr.wgts K∧LsV mi K N V∧Ch w' cb∧Fr [cb] w w':=by
 have t7:(mi==7)=false:=by simp;omega
 have u7: ¬mi=7:=by omega
 have t2: ¬mi<2:=by omega
 have t4: ¬mi<4:=by omega
 have hlow:cb<w.heap.size:=hc.lt;replace hks:=Hz hks;replace hao:=Hz hao;replace hm:=Hz hm;have K1:=Hz (fun (o:Obj)=>next (hc.fr ((Fr.refl [] w).alloc o)) 7 (by omega) (by omega))
 have hcl:=hc.lt;go_enter Tryz.func42,Tryz.ntmps42
 go_wp2_with fail
 refine (K1.out _).mono ?_
 rintro e w1 ⟨k,hk,rfl,hc1,hf1⟩;have hb1:=hf1.blk (blk_new w (.cells #[.int .i64 (mi),.int .u64 ((N:Int)),.int .i64 (0),.bool false,.bool false,.bool false,.string ⟨#[]⟩,.slice ao K.length c] 45)) (by simp;omega)
 have hF1:Fr [cb] w w1:=((Fr.refl _ _).alloc _).trans hf1;obtain ⟨⟨d0,d1,d2,d3,d4,d5,d6,d7⟩,g0,g1,g2,g3,g4,g5,g6,g7⟩:=cells8 hb1;have hs1:=hf1.size;simp only [World.size_alloc] at hs1;replace hb1:=Hz hb1;obtain ⟨form,hform,hfo⟩: ∃f:Nat,f≤4∧(max 0 ((k:Int)-2))=(f:Int):=⟨k-2,by omega,by omega⟩
 have hlt:=Hz (wgts_take K);have hle:=Hz (wgts_le K);go_wp2_with fail
 go_loopg [6,97] K.length (fun k v6 v97 wr=> ∃(j:Nat) (ps:List (List UInt8)) (P:List UInt8),Hid (P=ps.flatten)∧v97= .int .i64 (j:Int)∧j+k=K.length∧v6= .string ⟨P.toArray⟩∧Hid (EncL ps (K.take j))∧P.length≤10*Tr.wgts (K.take j)∧Hid (Ch wr cb)∧Hid (Fr [cb] w wr)∧Hid (wr.heap[w.heap.size]? =some (.cells #[.int .i64 (mi),.int .u64 ((N:Int)),.int .i64 (0),.bool false,.bool false,.bool false,.string ⟨#[]⟩,.slice ao K.length c] 45 (0,0))))
 case atStart=>exact ⟨0,[],[],Hz rfl,by go_num,by omega,rfl,Hz (by rw [List.take_zero];trivial),by simp,Hz hc1,Hz hF1,hb1⟩
 case round=>
  obtain ⟨j,ps,P,hP,rfl,hj,rfl,hE,hpl,hC,hF,hb⟩:=hrel;by_cases hk0:gk=0
  ·subst hk0;obtain rfl:j=K.length:=by omega
   rw [List.take_length] at hE hpl;have hcc:=hb.out;obtain ⟨⟨c0,c1,c2,c3,c4,c5,c6,c7⟩,f0,f1,f2,f3,f4,f5,f6,f7⟩:=cells8 hcc;clear hcc f0 f1 f2 f3 f4 f5 f6 f7 d0 d1 d2 d3 d4 d5 d6 d7 g0 g1 g2 g3 g4 g5 g6 g7;have hpl2:P.length≤1000000:=by omega
   have hsum:=Hz (show (List.map List.length ps).sum≤10*Tr.wgts K by rw [←List.length_flatten,←hP.out];exact hpl)
   rcases hm.out with ⟨rfl,hv⟩|⟨rfl,hv⟩|⟨rfl,hv,hN⟩
   ·have hhl:=headB_le 4 (K.length) form;have KH2:=Hz (fun W=>headIn 4 (K.length) form (by omega) (by omega) (by omega) W)
    obtain ⟨Hd,hHd⟩: ∃Hd,headB 4 (K.length) form=Hd:=⟨_,rfl⟩;rw [hHd] at hhl KH2;have gw:IntKind.u64.wrap (K.length:Int)=(K.length:Int):=by show (K.length:Int)%18446744073709551616=_;omega
    have q1: ¬9223372036854775807<Hd.length+P.length:=by omega
    go_wp2_with fail
    refine (KH2.out _).mono ?_
    rintro e w2 ⟨rfl,hf2⟩;go_wp2;go_ret
    exact ⟨ps,form,K.length,by rw [←hP.out,show Int.toNat 4=4 from rfl,hHd,←mk_append];rfl,hE.out,(by rw [List.length_flatten];exact hsum.out),.inl ⟨rfl,rfl⟩,hC.out.fr hf2,hF.out.trans (hf2.mono (by simp))⟩
   ·have hhl:=headB_le 5 (v) form;have KH2:=Hz (fun W=>headIn 5 (v) form (by omega) (by omega) (by omega) W)
    obtain ⟨Hd,hHd⟩: ∃Hd,headB 5 (v) form=Hd:=⟨_,rfl⟩;rw [hHd] at hhl KH2;have gw:IntKind.u64.wrap (K.length:Int)=(K.length:Int):=by show (K.length:Int)%18446744073709551616=_;omega
    have q1: ¬9223372036854775807<Hd.length+P.length:=by omega
    have hq:((K.length:Nat):Int).tdiv 2=(v:Int):=by rw [Int.tdiv_eq_ediv_of_nonneg (by omega)];omega
    go_wp2_with fail
    refine (KH2.out _).mono ?_
    rintro e w2 ⟨rfl,hf2⟩;go_wp2;go_ret
    exact ⟨ps,form,v,by rw [←hP.out,show Int.toNat 5=5 from rfl,hHd,←mk_append];rfl,hE.out,(by rw [List.length_flatten];exact hsum.out),.inr (.inl ⟨rfl,hv⟩),hC.out.fr hf2,hF.out.trans (hf2.mono (by simp))⟩
   ·have hhl:=headB_le 6 (N) form;have KH2:=Hz (fun W=>headIn 6 (N) form (by omega) (by omega) (by omega) W)
    obtain ⟨Hd,hHd⟩: ∃Hd,headB 6 (N) form=Hd:=⟨_,rfl⟩;rw [hHd] at hhl KH2;have gw:IntKind.u64.wrap (K.length:Int)=(K.length:Int):=by show (K.length:Int)%18446744073709551616=_;omega
    have q1: ¬9223372036854775807<Hd.length+P.length:=by omega
    go_wp2_with fail
    refine (KH2.out _).mono ?_
    rintro e w2 ⟨rfl,hf2⟩;go_wp2;go_ret
    exact ⟨ps,form,N,by rw [←hP.out,show Int.toNat 6=6 from rfl,hHd,←mk_append];rfl,hE.out,(by rw [List.length_flatten];exact hsum.out),.inr (.inr ⟨rfl,rfl⟩),hC.out.fr hf2,hF.out.trans (hf2.mono (by simp))⟩
  ·obtain ⟨q,rfl⟩: ∃q,gk=q+1:=⟨gk-1,by omega⟩
   have hjl:j<K.length:=by omega
   have t1:(j:Int)<(K.length:Int):=by omega
   obtain ⟨ao',n',c',hkj⟩:=hks.out j hjl;obtain ⟨hat,KL⟩:=hkj wr hF.out hC.out;clear hkj;obtain ⟨rfl,hcap⟩:=hao.out (by intro e;rw [e] at hjl;simp at hjl)
   have hst:=hlt.out j hjl;have hl2:=hle.out (j+1);obtain ⟨⟨m2,nu2,si2,op2,fl2,bi2,tx2,gk2⟩,hG⟩: ∃G,G=gn K[j]:=⟨_,rfl⟩;rw [←hG] at hat KL;rw [nd_mk] at KL;replace KL:=Hz KL;have e0:=hat 0 _ rfl;have e1:=hat 1 _ rfl;have e2:=hat 2 _ rfl;have e3:=hat 3 _ rfl;have e4:=hat 4 _ rfl;have e5:=hat 5 _ rfl;have e6:=hat 6 _ rfl;have e7:=hat 7 _ rfl;simp only [Gn.maj,Gn.num,Gn.siz,Gn.opn,Gn.flt,Gn.big,Gn.tex] at e0 e1 e2 e3 e4 e5 e6;rw [Nat.mul_comm 8 j] at e0 e1 e2 e3 e4 e5 e6 e7;rw [Nat.add_zero] at e0;clear hat hG d0 d1 d2 d3 d4 d5 d6 d7 g0 g1 g2 g3 g4 g5 g6 g7;have hCa:=Hz (fun (o:Obj)=>hC.out.fr ((Fr.refl [] wr).alloc o))
   have hFa:=Hz (fun (o:Obj)=>hF.out.alloc o)
   have hsz:=Hz (blk_lt' hb.out);have htk:=Hz (take_snoc' K j hjl);obtain ⟨TJ,hTJ⟩: ∃TJ,TJ=K[j]:=⟨_,rfl⟩;rw [←hTJ] at hst KL htk;clear hTJ;go_wp2_with fail
   refine (KL.out _ (hFa.out _) (hCa.out _)).mono ?_
   rintro e w2 ⟨bs,rfl,he2,hl3,hc2,hf2⟩;have hpl3:(P++bs).length≤10*Tr.wgts (K.take (j+1)):=by rw [List.length_append];omega
   have hE3:Hid (EncL (ps++[bs]) (K.take (j+1))):=Hz (by rw [htk.out];exact hE.out.snoc he2)
   replace hf2:=Hz hf2;replace hc2:=Hz hc2;have q1: ¬9223372036854775807<P.length+bs.length:=by omega
   go_wp2
   go_roundg q
   case measure=>omega
   case rel=>exact ⟨j+1,ps++[bs],P++bs,Hz (by rw [hP.out,List.flatten_append,List.flatten_cons,List.flatten_nil,List.append_nil]),by go_num,by omega,by rw [←mk_append],hE3,hpl3,hc2,Hz ((hFa.out _).trans hf2.out),Hz (hf2.out.blk (blk_alloc hb.out _) (by simp;exact fun e=>absurd (e▸hlow) (by omega)))⟩
end
section
open Go.RowKit
theorem hd_sm {xs:List UInt8} {off ai v o:Nat} (h:hd xs off= .ok (7,ai,v,o)):(ai<24∧v=ai)∨(ai=24∧32≤v∧v<256)∨ai=25∨ai=26∨ai=27:=by
 have hv:=hd_ai h;unfold hd at h
 split at h
 ·cases h
 ·rename_i b hb
  split at h
  ·simp at h;exact .inl ⟨by omega,by omega⟩
  ·split at h
   ·split at h
    ·cases h
    ·split at h
     ·cases h
     ·rename_i h24 h28 hl hn;simp at h;obtain ⟨h1,h2,h3,h4⟩:=h;by_cases h5:ai=24
      ·subst h5;refine .inr (.inl ⟨rfl,?_,by simpa using hv (by omega) (by omega)⟩)
       rw [h2] at h3 hn;simp at h3 hn;rw [←h3];exact hn h1
      ·exact .inr (.inr (by omega))
   ·split at h
    ·split at h
     ·cases h
     ·simp at h;omega
    ·cases h
theorem wgt_pos (t:Tr):1≤t.wgt:=by cases t<;>(rw [Tr.wgt];try omega)
theorem len_wgts: ∀l:List Tr,l.length≤Tr.wgts l
 |[]=>by simp
 |t::l=>by have:=len_wgts l;have:=wgt_pos t;rw [Tr.wgts,List.length_cons];omega
theorem fst_chunk {xs:List UInt8} {tx:Bool} {l:List Tr} {off o:Nat} (h:Enc xs (.chk tx l) off o): ∀t,t∈l→ ∃s,t= .str tx s:=by
 rw [Enc] at h;obtain ⟨v,o1,_,hc⟩:=h;exact fun u hu=>(chunks_mem hc u hu).1
theorem coded: ∀(n:Nat) (t:Tr),SizeOf.sizeOf t≤n→(∃xs off o,xs.length≤10000∧Enc xs t off o)→ ∀(w:World) (B:Nat) (kv:Value) (cb:Nat),NdB B w t kv→B≤cb→Ch w cb→
  Calls Tryz.prog 42 #[.agg (nd (gn t) kv).toArray,.pointer (some ⟨cb,0,none⟩)] w fun e w'=>CodP t w cb e w':=by
 intro n
 induction n with
 |zero=>intro t h;cases t<;>simp at h<;>omega
 |succ n ih=>
  intro t hn hE w B kv cb hN hB hc;have hcl:=hc.lt;obtain ⟨xs,off,o,hx,hE⟩:=hE;have hwg:t.wgt≤10000:=by have:=wgt_len t _ _ hE;have:=enc_off t _ _ hE;omega
  have KK: ∃ao c g,kv= .slice ao t.ks.length c∧(t.ks≠[]→ao=some ⟨g,0,none⟩∧t.ks.length≤c)∧CodK w cb g t.ks:=by
   obtain ⟨ao,c,g,h1,h2,h3⟩:=hN.kids;refine ⟨ao,c,g,h1,fun h=>⟨(h2 h).1,(h2 h).2.1⟩,fun j hj=> ?_⟩
   obtain ⟨kv',q1,q2⟩:=h3 j hj;obtain ⟨ao',n',c',rfl⟩:=q2.slice;have hg:=(h2 (by intro e;rw [e] at hj;simp at hj)).2.2
   have hm:=List.getElem_mem hj;refine ⟨ao',n',c',fun W hW hcW=>⟨q1.fr (hW.block g (by omega) (by simp;omega)),fun W' hW' hcW'=>ih _ ?_ ?_ W' B _ cb (q2.fr (by omega) hW' (by simp;omega)) hB hcW'⟩⟩
   ·have:=ks_lt hm;omega
   ·obtain ⟨off',o',he⟩:=enc_ks hE hm;exact ⟨xs,off',o',hx,he⟩
  obtain ⟨ao,c,g,rfl,hao,hks⟩:=KK;cases t with
  |int neg m=>
   have hm:m<18446744073709551616:=by
    rw [Enc] at hE;obtain ⟨ai,h⟩:=hE;exact (hd_val h).1
   rw [gn,nd_mk];refine (coded_int (if neg then 1 else 0) m (by split<;>omega) hm hc).mono ?_
   rintro e w' ⟨form,rfl,h1,h2⟩;exact ⟨_,rfl,cod_int neg m form hm,by have:=headB_le (if neg then 1 else 0) m form;rw [Tr.wgt];omega,h1,h2⟩
  |str tx b=>
   have hb:b.length≤10000:=by rw [Tr.wgt] at hwg;omega
   rw [gn,nd_mk];refine (coded_str (majS tx) b (by cases tx<;>simp [majS]) (by omega) hc).mono ?_
   rintro e w' ⟨form,rfl,h1,h2⟩;exact ⟨_,rfl,cod_str tx b form (by omega),by have:=headB_le (majS tx) b.length form;rw [Tr.wgt,List.length_append];omega,h1,h2⟩
  |chk tx l=>
   have hk:(Tr.chk tx l).ks=l:=rfl;have hw:(Tr.chk tx l).wgt=1+Tr.wgts l:=by rw [Tr.wgt]
   have hs:=fst_chunk hE;rw [hk] at hao hks ⊢;have hl:=len_wgts l;rw [gn,nd_mk];refine (coded_open (majS tx:Int) (UInt8.ofNat (majS tx*32+31)) (by cases tx<;>simp [majS]<;>decide) l g hao (by omega) (by omega) hks hc).mono ?_
   rintro e w' ⟨ps,rfl,h1,h2,h3,h4⟩;exact ⟨_,rfl,cod_chk h1 hs,by rw [hw,List.length_cons,List.length_append];simp only [List.length_cons,List.length_nil];omega,h3,h4⟩
  |arr op l=>
   have hk:(Tr.arr op l).ks=l:=rfl;have hw:(Tr.arr op l).wgt=1+Tr.wgts l:=by rw [Tr.wgt]
   rw [hk] at hao hks ⊢;have hl:=len_wgts l;rw [gn,nd_mk];cases op
   ·refine (coded_list 4 0 0 l (.inl ⟨rfl,rfl⟩) g hao (by omega) (by omega) hks hc).mono ?_
    rintro e w' ⟨ps,form,V,rfl,h1,h2,hV,h3,h4⟩;have hV2:V=l.length:=by unfold LsV at hV;omega
    subst hV2;exact ⟨_,rfl,cod_arr form h1 (by omega),by have:=headB_le 4 l.length form;rw [hw,show Int.toNat 4=4 from rfl,List.length_append];omega,h3,h4⟩
   ·refine (coded_open 4 159 (by simp) l g hao (by omega) (by omega) hks hc).mono ?_
    rintro e w' ⟨ps,rfl,h1,h2,h3,h4⟩;exact ⟨_,rfl,cod_oarr h1,by rw [hw,List.length_cons,List.length_append];simp only [List.length_cons,List.length_nil];omega,h3,h4⟩
  |map op l=>
   have hk:(Tr.map op l).ks=l:=rfl;have hw:(Tr.map op l).wgt=1+Tr.wgts l:=by rw [Tr.wgt]
   rw [hk] at hao hks ⊢;have hl:=len_wgts l;rw [gn,nd_mk];cases op
   ·rw [Enc] at hE;obtain ⟨ai,v,o1,_,_,hv,_⟩:=hE;refine (coded_list 5 0 v l (.inr (.inl ⟨rfl,hv⟩)) g hao (by omega) (by omega) hks hc).mono ?_
    rintro e w' ⟨ps,form,V,rfl,h1,h2,hV,h3,h4⟩;have hV2:V=v:=by unfold LsV at hV;omega
    subst hV2;exact ⟨_,rfl,cod_map form V h1 hv (by omega),by have:=headB_le 5 V form;rw [hw,show Int.toNat 5=5 from rfl,List.length_append];omega,h3,h4⟩
   ·rw [Enc] at hE;obtain ⟨v,o1,_,h2e,_⟩:=hE;refine (coded_open 5 191 (by simp) l g hao (by omega) (by omega) hks hc).mono ?_
    rintro e w' ⟨ps,rfl,h1,h2,h3,h4⟩;exact ⟨_,rfl,cod_omap h1 h2e,by rw [hw,List.length_cons,List.length_append];simp only [List.length_cons,List.length_nil];omega,h3,h4⟩
  |tag m u=>
   have hk:(Tr.tag m u).ks=[u]:=rfl;have hw:(Tr.tag m u).wgt=1+u.wgt:=by rw [Tr.wgt]
   have hw2:Tr.wgts [u]=u.wgt:=by rw [Tr.wgts,Tr.wgts];omega
   have hm:m<18446744073709551616:=by
    rw [Enc] at hE;obtain ⟨ai,o1,h,_⟩:=hE;exact (hd_val h).1
   rw [hk] at hao hks ⊢;rw [gn,nd_mk];refine (coded_list 6 m 0 [u] (.inr (.inr ⟨rfl,rfl,hm⟩)) g hao (by omega) (by simp) hks hc).mono ?_
   rintro e w' ⟨ps,form,V,rfl,h1,h2,hV,h3,h4⟩;have hV2:V=m:=by unfold LsV at hV;omega
   subst hV2;exact ⟨_,rfl,cod_tag form V h1 hm,by have:=headB_le 6 V form;rw [hw,show Int.toNat 6=6 from rfl,List.length_append];omega,h3,h4⟩
  |prim ai v=>
   rw [Enc] at hE;have hs:=hd_sm hE;have hw:(Tr.prim ai v).wgt=1:=by rw [Tr.wgt]
   rcases hs with ⟨h1,rfl⟩|⟨rfl,h1,h2⟩|h1
   ·have e1:isFl v=false:=by unfold isFl;simp;omega
    have e2:wide v v=v:=by unfold wide;rw [if_neg (by omega),if_neg (by omega)]
    rw [gn,nd_mk,e1,e2];refine (coded_small v h1 hc).mono ?_
    rintro e w' ⟨rfl,h3,h4⟩;exact ⟨_,rfl,cod_small v h1,by have:=headB_le 7 v 0;rw [hw];omega,h3,h4⟩
   ·have e1:isFl 24=false:=rfl;have e2:wide 24 v=v:=by unfold wide;rw [if_neg (by omega),if_neg (by omega)]
    rw [gn,nd_mk,e1,e2];refine (coded_one v (by omega) h2 hc).mono ?_
    rintro e w' ⟨rfl,h3,h4⟩;exact ⟨_,rfl,cod_one v h1 h2,by have:=headB_le 7 v 1;rw [hw];omega,h3,h4⟩
   ·have e1:isFl ai=true:=by unfold isFl;simp;omega
    have hv:v<256^2^(ai-24):=hd_ai hE (by omega) (by omega)
    have hT: ∀W,Calls Tryz.prog 74 #[.int .u64 (wide ai v:Int),.int .i64 ((2^(ai-24):Nat):Int)] W fun e w'=>e= .returned (.string ⟨(fltH ai v).toArray⟩)∧Fr [] W w':=by
     intro W;rcases h1 with rfl|rfl|rfl
     ·exact sized16 v hv W
     ·exact sized32 v hv W
     ·exact sized64 v hv W
    rw [gn,nd_mk,e1];refine (coded_flt (wide ai v) (2^(ai-24)) (fltH ai v) hT hc).mono ?_
    rintro e w' ⟨rfl,h3,h4⟩;exact ⟨_,rfl,cod_flt ai v h1 hv,by have:=fltH_len ai v h1;rw [hw];omega,h3,h4⟩
end
section
open Go.RowKit
theorem IntsAt.fr {w w':World} {ao:Option Addr} {n c:Nat} (h:IntsAt w ao n c) (hf:Fr [] w w'):IntsAt w' ao n c:=by
 rcases h with h|⟨g,o,h1,h2,h3⟩
 ·exact .inl h
 ·exact .inr ⟨g,o,h1,h2,fun i hi=>by obtain ⟨x,hx⟩:=h3 i hi;exact ⟨x,hf.cell hx (by simp)⟩⟩
theorem heads_any {w:World} {ao:Option Addr} {n c:Nat} (hI:IntsAt w ao n c) (p:List UInt8) (a x y z:Int) (sp tx em sq pr:Bool) (hu:U8 w):
  Calls Tryz.prog 10 #[.string ⟨p.toArray⟩,.slice ao n c,.agg #[.int .i64 a,.bool sp,.bool tx,.bool em,.bool sq,.bool pr,.int .i64 x,.int .i64 y,.int .i64 z]] w fun e w'=>e= .returned (.bool true)∧Fr [] w w':=by
 by_cases hp:p.length≤2147483647
 ·have tp: ¬(2147483647:Int)<(p.length:Int):=by omega
  by_cases hn:n≤2147483647
  ·have tn: ¬(2147483647:Int)<(n:Int):=by omega
   obtain ⟨k,hk,_,hk2⟩:=rem_nat a 4 (by decide) (by decide)
   have KO:=fun w=>optionsC a x y z sp tx em sq pr k hk2 w
   unfold diagOpts at KO;replace KO:=Hz KO;have KI:=Hz (fun w=>itemW (xs:=p) (m:=30) (by omega) w)
   have KZ:=Hz (fun W (hf:Fr [] w W)=>noted W (hu.fr hf (by simp)))
   have hbb: ∀b:ByteArray,(b==b)=true:=ba_self;replace hu:=Hz hu;replace hI:=Hz hI;go_enter Tryz.func10,Tryz.ntmps10
   have hb1:=blk_new w (.cells #[.int .i64 a,.bool sp,.bool tx,.bool em,.bool sq,.bool pr,.int .i64 x,.int .i64 y,.int .i64 z] 24);have hF1:Fr [] w (w.alloc (.cells #[.int .i64 a,.bool sp,.bool tx,.bool em,.bool sq,.bool pr,.int .i64 x,.int .i64 y,.int .i64 z] 24)):=(Fr.refl _ _).alloc _;go_wp2_with fail
   refine (KI.out _).mono ?_
   rintro e w1 ⟨gg,ka,kn,kc,he1,hf1,hq⟩;obtain ⟨a0,a1,a2,b0,b1,b2,tt,gks⟩:=gg;rw [nd_mk] at he1;subst he1;have hF2:=hF1.trans hf1;have hb2:=hf1.blk hb1 (by simp)
   obtain ⟨B,hB⟩: ∃B,(itemF p 30).isSome=B:=⟨_,rfl⟩;rw [hB];cases hT:itemF p 30 with
   |none=>
    rw [hT] at hB;obtain rfl:false=B:=hB;clear hq;replace hb2:=Hz hb2;replace hb1:=Hz hb1;go_wp2;go_ret
    exact ⟨rfl,hF2.alloc _⟩
   |some t=>
    rw [hT] at hB;obtain rfl:true=B:=hB;obtain ⟨q2,bl,q4,q5⟩:=hq t hT;have hok:=itemF_ok hT;have hpl:=hok.len;have hs1:=hf1.size;simp only [World.size_alloc] at hs1;have hb3:=blk_alloc hb2 (.cells #[.int .i64 (a0:Int),.int .u64 (a1:Int),.int .i64 (a2:Int),.bool b0,.bool b1,.bool b2,.string ⟨tt.toArray⟩,.slice ka kn kc] 45);have hm3:=blk_new w1 (.cells #[.int .i64 (a0:Int),.int .u64 (a1:Int),.int .i64 (a2:Int),.bool b0,.bool b1,.bool b2,.string ⟨tt.toArray⟩,.slice ka kn kc] 45);have hF3:=hF2.alloc (.cells #[.int .i64 (a0:Int),.int .u64 (a1:Int),.int .i64 (a2:Int),.bool b0,.bool b1,.bool b2,.string ⟨tt.toArray⟩,.slice ka kn kc] 45);have NDW:Hid (∀W,Fr [w.heap.size] w1 W→NdB w1.heap.size W t (.slice ka kn kc)):=Hz (fun W hW=>⟨bl,fun b hb=>(q4 b hb).2,by
     rw [←q2];exact q5.fr (fun b hb=>hW.block b (q4 b hb).2 (by have:=(q4 b hb).1;simp at this ⊢;omega)) (fun b hb=>hb) _ _⟩)
    obtain ⟨⟨c0,c1,c2,c3,c4,c5,c6,c7,c8⟩,f0,f1,f2,f3,f4,f5,f6,f7,f8⟩:=cells9 hb3;replace hb1:=Hz hb1;replace hb2:=Hz hb2;replace hb3:=Hz hb3;replace hm3:=Hz hm3;replace q2:=Hz q2;clear hq q4 q5;go_wp2_with fail
    refine (KO.out _).mono ?_
    rintro e w2 ⟨rfl,hf2⟩;have hF4:=hF3.trans hf2;have hb4:=hf2.blk hb3.out (by simp)
    have hm4:=hf2.blk hm3.out (by simp)
    have hf12:Fr [] w1 w2:=((Fr.refl _ _).alloc _).trans hf2;clear c0 c1 c2 c3 c4 c5 c6 c7 c8 f0 f1 f2 f3 f4 f5 f6 f7 f8;obtain ⟨⟨c0,c1,c2,c3,c4,c5,c6,c7,c8⟩,f0,f1,f2,f3,f4,f5,f6,f7,f8⟩:=cells9 hb4;have hne:w1.heap.size≠w.heap.size:=by omega
    have hF5:Hid (Fr [] w ((put9 w2 w.heap.size (.int .i64 (k:Int)) (.bool sp) (.bool tx) (.bool em) (.bool sq) (.bool pr) (.int .i64 0) (.int .i64 0) (.int .i64 0)).setCell ⟨w.heap.size,3,none⟩ (.bool false))):=Hz ((hF4.then_ (Fr.put9 _ _ _ _ _ _ _ _ _ _ _) (by simp)).setCell (.inr (by simp)) _)
    have hb5:Hid (OBlk ((put9 w2 w.heap.size (.int .i64 (k:Int)) (.bool sp) (.bool tx) (.bool em) (.bool sq) (.bool pr) (.int .i64 0) (.int .i64 0) (.int .i64 0)).setCell ⟨w.heap.size,3,none⟩ (.bool false)) w.heap.size k sp tx false sq pr):=Hz (blk_setCell (put9_blk hb4 _ _ _ _ _ _ _ _ _) 3 _);have hf15:Hid (Fr [w.heap.size] w1 ((put9 w2 w.heap.size (.int .i64 (k:Int)) (.bool sp) (.bool tx) (.bool em) (.bool sq) (.bool pr) (.int .i64 0) (.int .i64 0) (.int .i64 0)).setCell ⟨w.heap.size,3,none⟩ (.bool false))):=Hz ((hf12.mono (T:=[w.heap.size]) (by simp)).trans ((Fr.put9 _ _ _ _ _ _ _ _ _ _ _).setCell (.inl (by simp)) _))
    have hm5:Hid ((((put9 w2 w.heap.size (.int .i64 (k:Int)) (.bool sp) (.bool tx) (.bool em) (.bool sq) (.bool pr) (.int .i64 0) (.int .i64 0) (.int .i64 0)).setCell ⟨w.heap.size,3,none⟩ (.bool false)):World).heap[w1.heap.size]? =some (.cells #[.int .i64 (a0:Int),.int .u64 (a1:Int),.int .i64 (a2:Int),.bool b0,.bool b1,.bool b2,.string ⟨tt.toArray⟩,.slice ka kn kc] 45 (0,0))):=Hz (((Fr.put9 _ _ _ _ _ _ _ _ _ _ _).setCell (.inl (by simp)) _:Fr [w.heap.size] w2 ((put9 w2 w.heap.size (.int .i64 (k:Int)) (.bool sp) (.bool tx) (.bool em) (.bool sq) (.bool pr) (.int .i64 0) (.int .i64 0) (.int .i64 0)).setCell ⟨w.heap.size,3,none⟩ (.bool false))).blk hm4 (by simpa using hne))
    have hlt2:=blk_lt' hb4;replace hb4:=Hz hb4;go_upto_region 8 with fail
    replace hF5:Hid (Fr [] w ((((((((((w2.setCell ⟨w.heap.size,0,none⟩ (.int .i64 (k:Int))).setCell ⟨w.heap.size,1,none⟩ (.bool sp)).setCell ⟨w.heap.size,2,none⟩ (.bool tx)).setCell ⟨w.heap.size,3,none⟩ (.bool em)).setCell ⟨w.heap.size,4,none⟩ (.bool sq)).setCell ⟨w.heap.size,5,none⟩ (.bool pr)).setCell ⟨w.heap.size,6,none⟩ (.int .i64 0)).setCell ⟨w.heap.size,7,none⟩ (.int .i64 0)).setCell ⟨w.heap.size,8,none⟩ (.int .i64 0)).setCell ⟨w.heap.size,3,none⟩ (.bool false))):=hF5;replace hb5:Hid (OBlk ((((((((((w2.setCell ⟨w.heap.size,0,none⟩ (.int .i64 (k:Int))).setCell ⟨w.heap.size,1,none⟩ (.bool sp)).setCell ⟨w.heap.size,2,none⟩ (.bool tx)).setCell ⟨w.heap.size,3,none⟩ (.bool em)).setCell ⟨w.heap.size,4,none⟩ (.bool sq)).setCell ⟨w.heap.size,5,none⟩ (.bool pr)).setCell ⟨w.heap.size,6,none⟩ (.int .i64 0)).setCell ⟨w.heap.size,7,none⟩ (.int .i64 0)).setCell ⟨w.heap.size,8,none⟩ (.int .i64 0)).setCell ⟨w.heap.size,3,none⟩ (.bool false)) w.heap.size k sp tx false sq pr):=hb5;replace hf15:Hid (Fr [w.heap.size] w1 ((((((((((w2.setCell ⟨w.heap.size,0,none⟩ (.int .i64 (k:Int))).setCell ⟨w.heap.size,1,none⟩ (.bool sp)).setCell ⟨w.heap.size,2,none⟩ (.bool tx)).setCell ⟨w.heap.size,3,none⟩ (.bool em)).setCell ⟨w.heap.size,4,none⟩ (.bool sq)).setCell ⟨w.heap.size,5,none⟩ (.bool pr)).setCell ⟨w.heap.size,6,none⟩ (.int .i64 0)).setCell ⟨w.heap.size,7,none⟩ (.int .i64 0)).setCell ⟨w.heap.size,8,none⟩ (.int .i64 0)).setCell ⟨w.heap.size,3,none⟩ (.bool false))):=hf15;replace hm5:Hid ((((((((((((w2.setCell ⟨w.heap.size,0,none⟩ (.int .i64 (k:Int))).setCell ⟨w.heap.size,1,none⟩ (.bool sp)).setCell ⟨w.heap.size,2,none⟩ (.bool tx)).setCell ⟨w.heap.size,3,none⟩ (.bool em)).setCell ⟨w.heap.size,4,none⟩ (.bool sq)).setCell ⟨w.heap.size,5,none⟩ (.bool pr)).setCell ⟨w.heap.size,6,none⟩ (.int .i64 0)).setCell ⟨w.heap.size,7,none⟩ (.int .i64 0)).setCell ⟨w.heap.size,8,none⟩ (.int .i64 0)).setCell ⟨w.heap.size,3,none⟩ (.bool false)):World).heap[w1.heap.size]? =some (.cells #[.int .i64 (a0:Int),.int .u64 (a1:Int),.int .i64 (a2:Int),.bool b0,.bool b1,.bool b2,.string ⟨tt.toArray⟩,.slice ka kn kc] 45 (0,0))):=hm5;clear c0 c1 c2 c3 c4 c5 c6 c7 c8 f0 f1 f2 f3 f4 f5 f6 f7 f8;generalize (((((((((w2.setCell ⟨w.heap.size,0,none⟩ (.int .i64 (k:Int))).setCell ⟨w.heap.size,1,none⟩ (.bool sp)).setCell ⟨w.heap.size,2,none⟩ (.bool tx)).setCell ⟨w.heap.size,3,none⟩ (.bool em)).setCell ⟨w.heap.size,4,none⟩ (.bool sq)).setCell ⟨w.heap.size,5,none⟩ (.bool pr)).setCell ⟨w.heap.size,6,none⟩ (.int .i64 0)).setCell ⟨w.heap.size,7,none⟩ (.int .i64 0)).setCell ⟨w.heap.size,8,none⟩ (.int .i64 0)).setCell ⟨w.heap.size,3,none⟩ (.bool false)=w3 at *
    obtain ⟨⟨c0,c1,c2,c3,c4,c5,c6,c7,c8⟩,_⟩:=cells9 hb5.out;have hlt3:=blk_lt' hb5.out;have hTx:=fun (q:List UInt8) (h:Enc q t 0 q.length) (hl:q.length≤90000)=>show diagR L0 ⟨k,sp,tx,false,sq,pr⟩ sq q=txt (noteT ⟨k,sp,tx,false,sq,pr⟩ t) by
     rw [diagR_enc sq h (by omega) (Nat.le_trans hok.lev (by omega)),note_txt hok.snd]
    obtain ⟨NT,hNT⟩: ∃NT,noteT ⟨k,sp,tx,false,sq,pr⟩ t=NT:=⟨_,rfl⟩;rw [hNT] at hTx;have KD0:=Hz (fun W (hf:Fr [] w W)=>diag_of hk (by omega) (hTx p hok.enc (by omega)) W (hu.out.fr hf (by simp)))
    go_wp2_with fail
    refine (KD0.out _ hF5.out).mono ?_
    rintro e w5 ⟨rfl,hf5⟩;clear c0 c1 c2 c3 c4 c5 c6 c7 c8;have hF6:=hF5.out.trans hf5;have KEEP: ∀W,Fr [] w5 W→W.cell? ⟨w.heap.size,0,none⟩=some (.int .i64 (k:Int))∧W.cell? ⟨w.heap.size,1,none⟩=some (.bool sp)∧W.cell? ⟨w.heap.size,2,none⟩=some (.bool tx)∧W.cell? ⟨w.heap.size,3,none⟩=some (.bool false)∧W.cell? ⟨w.heap.size,4,none⟩=some (.bool sq)∧W.cell? ⟨w.heap.size,5,none⟩=some (.bool pr)∧W.cell? ⟨w.heap.size,6,none⟩=some (.int .i64 0)∧W.cell? ⟨w.heap.size,7,none⟩=some (.int .i64 0)∧W.cell? ⟨w.heap.size,8,none⟩=some (.int .i64 0)∧W.cell? ⟨w1.heap.size,0,none⟩=some (.int .i64 (a0:Int))∧W.cell? ⟨w1.heap.size,1,none⟩=some (.int .u64 (a1:Int))∧W.cell? ⟨w1.heap.size,2,none⟩=some (.int .i64 (a2:Int))∧W.cell? ⟨w1.heap.size,3,none⟩=some (.bool b0)∧W.cell? ⟨w1.heap.size,4,none⟩=some (.bool b1)∧W.cell? ⟨w1.heap.size,5,none⟩=some (.bool b2)∧W.cell? ⟨w1.heap.size,6,none⟩=some (.string ⟨tt.toArray⟩)∧W.cell? ⟨w1.heap.size,7,none⟩=some (.slice ka kn kc):=fun W hf=>by
     have h1:=(cells9 ((hf5.trans hf).blk hb5.out (by simp))).1
     have h2:=(cells8 ((hf5.trans hf).blk hm5.out (by simp))).1
     exact ⟨h1.1,h1.2.1,h1.2.2.1,h1.2.2.2.1,h1.2.2.2.2.1,h1.2.2.2.2.2.1,h1.2.2.2.2.2.2.1,h1.2.2.2.2.2.2.2.1,h1.2.2.2.2.2.2.2.2,h2⟩
    have KN:Hid (∀W,Fr [] w5 W→Calls Tryz.prog 30 #[.slice ao n c] W fun e w'=> ∃cb,e= .returned (.pointer (some ⟨cb,0,none⟩))∧w5.heap.size≤cb∧Ch w' cb∧Fr [] w5 w'):=Hz (fun W hf=>(newC (hI.out.fr (hF6.trans hf)) hn).mono fun e w' h=>⟨_,h.1,hf.size,h.2.1,hf.trans h.2.2⟩)
    have hf55:=(hf15.out.trans (hf5.mono (by simp)))
    have KC:Hid (∀W cb,Fr [] w5 W→w5.heap.size≤cb→Ch W cb→Calls Tryz.prog 42 #[.agg #[.int .i64 (a0:Int),.int .u64 (a1:Int),.int .i64 (a2:Int),.bool b0,.bool b1,.bool b2,.string ⟨tt.toArray⟩,.slice ka kn kc],.pointer (some ⟨cb,0,none⟩)] W fun e w'=> ∃bs:List UInt8,e= .returned (.string ⟨bs.toArray⟩)∧Enc bs t 0 bs.length∧bs.length≤90000∧Fr [] w5 w'):=Hz (fun W cb hf hcb hch=>by
     have h:=coded _ t (Nat.le_refl _) ⟨p,0,p.length,by omega,hok.enc⟩ W w1.heap.size (.slice ka kn kc) cb (NDW.out W (hf55.trans (hf.mono (by simp)))) (by have:=hf55.size;omega) hch
     rw [←q2.out,nd_mk] at h;refine h.mono ?_
     rintro e w' ⟨bs,h1,h2,h3,h4,h5⟩;have h6:=wgt_len t _ _ hok.enc;exact ⟨bs,h1,h2,by omega,hf.then_ h5 (by simp;omega)⟩)
    have KD:Hid (∀(bs:List UInt8) W,Enc bs t 0 bs.length→bs.length≤90000→Fr [] w5 W→Calls Tryz.prog 26 #[.string ⟨bs.toArray⟩,.agg #[.int .i64 (k:Int),.bool sp,.bool tx,.bool false,.bool sq,.bool pr,.int .i64 0,.int .i64 0,.int .i64 0]] W fun e w'=>e= .returned (.tuple #[.string ⟨NT.toArray⟩,.int .i64 0])∧Fr [] w5 w'):=Hz (fun bs W h1 h2 hf=>(diag_of hk h2 (hTx bs h1 h2) W (hu.out.fr (hF6.trans hf) (by simp))).mono fun e w' h=>⟨h.1,hf.trans h.2⟩)
    obtain ⟨o0,o1,o2,o3,o4,o5,o6,o7,o8,o10,o11,o12,o13,o14,o15,o16,o17⟩:=KEEP w5 (Fr.refl _ _);replace KEEP:=Hz KEEP;replace hbb:=Hz hbb;clear hTx hNT hok hpl hs1 hlt2 hlt3 hf55 hne;go_upto_region 9 with fail
    go_region_held3 (fun W=>W.cell? ⟨w.heap.size,0,none⟩=some (.int .i64 (k:Int))∧W.cell? ⟨w.heap.size,1,none⟩=some (.bool sp)∧W.cell? ⟨w.heap.size,2,none⟩=some (.bool tx)∧W.cell? ⟨w.heap.size,3,none⟩=some (.bool false)∧W.cell? ⟨w.heap.size,4,none⟩=some (.bool sq)∧W.cell? ⟨w.heap.size,5,none⟩=some (.bool pr)∧W.cell? ⟨w.heap.size,6,none⟩=some (.int .i64 0)∧W.cell? ⟨w.heap.size,7,none⟩=some (.int .i64 0)∧W.cell? ⟨w.heap.size,8,none⟩=some (.int .i64 0)∧W.cell? ⟨w1.heap.size,0,none⟩=some (.int .i64 (a0:Int))∧W.cell? ⟨w1.heap.size,1,none⟩=some (.int .u64 (a1:Int))∧W.cell? ⟨w1.heap.size,2,none⟩=some (.int .i64 (a2:Int))∧W.cell? ⟨w1.heap.size,3,none⟩=some (.bool b0)∧W.cell? ⟨w1.heap.size,4,none⟩=some (.bool b1)∧W.cell? ⟨w1.heap.size,5,none⟩=some (.bool b2)∧W.cell? ⟨w1.heap.size,6,none⟩=some (.string ⟨tt.toArray⟩)∧W.cell? ⟨w1.heap.size,7,none⟩=some (.slice ka kn kc)) (first|go_keep|with_reducible exact KEEP.out _ hfA|with_reducible exact KEEP.out _ hfB|with_reducible exact KEEP.out _ hfC)
     (first|(go_at_call 30;refine (KN.out _ ((Fr.refl [] w5).drewN 1)).mono ?_;rintro e wA ⟨cb,rfl,hcb,hcA,hfA⟩)|(go_at_call 42;refine (KC.out _ cb hfA hcb hcA).mono ?_;rintro e wB ⟨bs,rfl,heB,hlB,hfB⟩)|(go_at_call 26;refine (KD.out bs _ heB hlB hfB).mono ?_;rintro e wC ⟨rfl,hfC⟩))
    have hFC:=hF6.trans hfC;clear o0 o1 o2 o3 o4 o5 o6 o7 o8 o10 o11 o12 o13 o14 o15 o16 o17;have hb2b:=hbb.out ⟨NT.toArray⟩;go_wp2_with fail
    refine (KZ.out _ hFC).mono ?_
    rintro e w9 ⟨rfl,hf9⟩;go_wp2;go_ret
    exact ⟨rfl,hFC.trans hf9⟩
  ·have tn:(2147483647:Int)<(n:Int):=by omega
   go_enter Tryz.func10,Tryz.ntmps10
   go_wp2;go_ret
   exact ⟨rfl,(Fr.refl _ _).alloc _⟩
 ·have tp:(2147483647:Int)<(p.length:Int):=by omega
  go_enter Tryz.func10,Tryz.ntmps10
  go_wp2;go_ret
  exact ⟨rfl,(Fr.refl _ _).alloc _⟩
end
section
open Go.ChangeShapes Go.WideShapes Go.RowKit Go.Joins Go.Deep
section
variable {H:Type} {enc:TypeId×Value→H} {w:World} {base:Nat} {held:Bool}
set_option linter.constructorNameAsVariable false in
theorem open_choices {r:Reach} {b0:Nat} {v:Value} {d:DataW H} {p:List MemPlace} (hv:Value.okWide Tryz.prog w r b0 38 v) (h:DataW.Trod enc Tryz.prog w base (fun _=>true) held 38 v d p): ∃ao n c,v= .slice ao n c∧IntsAt w ao n c:=by
 obtain ⟨a0,len,cap,rfl⟩:=okWide_slice Tryz.underlying38 hv;obtain ⟨fuel,hf⟩:=h;have hf2:DataW.trod enc Tryz.prog w base (fun _=>true) held fuel 38 [.slice a0 len cap]=some (d,p):=by simpa [Value.cells] using hf
 rcases open_ints Tryz.underlying38 Tryz.underlying3 (by kernel_rfl) hf2 with ⟨hcs,hx⟩|⟨a,len',cap',zs,hcs,_,hl,hm,hz,hx,hcell,_⟩
 ·simp at hcs;obtain ⟨rfl,rfl,rfl⟩:=hcs;exact ⟨_,_,_,rfl,.inl rfl⟩
 ·simp at hcs;obtain ⟨rfl,rfl,rfl⟩:=hcs;simp only [if_true] at hz;obtain ⟨b,off,spot⟩:=a;by_cases h0:cap=0
  ·subst h0;obtain rfl:len=0:=by omega
   exact ⟨_,_,_,rfl,.inl rfl⟩
  ·have hspot:spot=none:=by simpa [Addr.add] using World.cell?_spot (hcell 0 (by omega))
   subst hspot;refine ⟨_,_,_,rfl,.inr ⟨b,off,rfl,hl,fun j hj=> ?_⟩⟩
   have:=hcell j (by omega)
   rw [show (⟨b,off,none⟩:Addr).add j=⟨b,off+j,none⟩ by unfold Addr.add;split<;>simp_all] at this
   exact ⟨_,this⟩
end
end
section
open Go.ChangeShapes Go.WideShapes Go.RowKit
open Go.ChangeMaps (open_string)
theorem heads_lifted (os:Os) (started:os.Started) (H:Type) (enc:TypeId×Value→H):
  ReturnsInHanded {} Tryz.checked os 10 .any (fun w args=>(Rows.fnDiagHeadsSpec.pre enc Tryz.prog Tryz.f10 [] false w args∧laidMetH Tryz.prog laidU w)∧sizedMet enc Tryz.prog Tryz.f10 (OpenSpec.ofChange Rows.fnDiagHeadsSpec) false w args)
   (Rows.fnDiagHeadsSpec.post enc Tryz.prog Tryz.f10 false true false false):=by
 refine lift_row os started enc (by kernel_rfl) Tryz.func10 rfl rfl ?_ ?_
  (ChangeSpec.witness_at (enc:=enc) (C:=Tryz.checked) (os:=os) (X:=fun w _=>laidMetH Tryz.prog laidU w) false (laidWorld os) #[.string ⟨#[]⟩,.slice none 0 0,.agg #[.int .i64 0,.bool false,.bool false,.bool false,.bool false,.bool false,.int .i64 0,.int .i64 0,.int .i64 0]] 8 rfl (by kernel_rfl) (by kernel_rfl) (by kernel_rfl) (by kernel_rfl) (by kernel_rfl) (laid_met os _)) ?_
 ·intro ds h;rw [Tryz.params10] at h
  match ds,h with
  |[d1,d2,d3],_=>rfl
 ·rw [Tryz.params10];intro t ht;have ht2:t=9∨t=38∨t=24:=by simpa using ht
  rcases ht2 with rfl|rfl|rfl
  all_goals exact ⟨by kernel_rfl,of_decide_eq_true (by kernel_rfl)⟩
 ·intro W base args ds ps hval hA hu;rw [Tryz.params10] at hA hval;obtain ⟨v0,v1,v2,d0,d1,d2,p0,p1,p2,rfl,rfl,rfl,h0,h1,h2⟩:=trodAll_three hA;obtain ⟨s,rfl,_⟩:=open_string Tryz.underlying9 (hval 0 9 v0 rfl rfl) h0;obtain ⟨ao,n,c,rfl,hI⟩:=open_choices (hval 1 38 v1 rfl rfl) h1;obtain ⟨a,x,y,z,sp,tx,em,sq,pr,rfl⟩:=open_opts (hval 2 24 v2 rfl rfl) h2;rw [show (Value.string s)= .string ⟨s.data.toList.toArray⟩ from by cases s;simp]
  exact heads_any hI _ a x y z sp tx em sq pr hu
theorem heads_f1:Tryz.prog.inPlace 10=Rows.fnDiagHeadsRow.inPlace:=by kernel_rfl
theorem heads_f2:Tryz.prog.unfollowed 10=Rows.fnDiagHeadsRow.unfollowed:=by kernel_rfl
theorem heads_f3:Tryz.prog.recurses 10=Rows.fnDiagHeadsRow.recurses:=by kernel_rfl
theorem heads_f4:Tryz.prog.varsNamed 10=Rows.fnDiagHeadsRow.named:=by kernel_rfl
theorem heads_facts:joinedFacts Tryz.prog 10 Tryz.f10 Rows.fnDiagHeadsSpec Rows.fnDiagHeadsRow=true:=by
 unfold joinedFacts;rw [heads_f1,heads_f2,heads_f3,heads_f4,Tryz.mayEnter,Tryz.liftsFinal,Tryz.make,Tryz.mapsRowed,Tryz.plainKeys,Tryz.stopsHeard,Tryz.laidOut]
 kernel_rfl
theorem heads_goes:false=Rows.fnDiagHeadsRow.goesBy Tryz.prog:=by kernel_rfl
theorem heads_name:Tryz.prog.funcNamed "pub-necessaire/laws.FnDiagHeads" =some 10:=by kernel_rfl
theorem heads_row:Rows.FnDiagHeadsSaid:=
 OpenClaim.holds_of_wide 10 Tryz.f10 rfl rfl rfl rfl rfl rfl rfl ⟨rfl,rfl,rfl,rfl,rfl⟩ rfl rfl rfl rfl rfl heads_name Tryz.func10 heads_facts
  (of_decide_eq_true (by kernel_rfl)) (by unfold Func.isWrapper;first|(rw [if_pos (by decide+kernel)];kernel_rfl)|(rw [if_neg (by decide+kernel)];exact ⟨rfl,rfl⟩))
  (fun os started H enc _=>heads_lifted os started H enc)
theorem heads_card:Rows.FnDiagHeadsCardSaid:=
 Claim7.holds_tied_plain_at .later [] [.data,.pinned] true (true, "6290c9495f33fe9badd3dbfab1b5d898f91c774e4e5da1dae7cabe16e93ab7d6") true
  heads_row (fun _ h=>by cases h) (by kernel_rfl) (fun _ h=>by cases h) fnDiagHeads_row_tie rfl ⟨rfl,rfl⟩ Tryz.mainIs rfl
  (fun f fn hf hfn=>by
   obtain rfl:f=10:=Option.some.inj (heads_name.symm.trans hf)|>.symm
   obtain rfl:fn=Tryz.f10:=(Option.some.inj (Tryz.func10.symm.trans hfn)).symm;exact ⟨by kernel_rfl,fun j t ht=>by
    rw [Tryz.params10] at ht;rcases j with _|_|_|j
    ·have h3:t=9:=by simpa using ht.symm
     subst h3;exact (show Tryz.prog.wantsStandIn 9=false by kernel_rfl)
    ·have h3:t=38:=by simpa using ht.symm
     subst h3;exact (show Tryz.prog.wantsStandIn 38=false by kernel_rfl)
    ·have h3:t=24:=by simpa using ht.symm
     subst h3;exact (show Tryz.prog.wantsStandIn 24=false by kernel_rfl)
    ·simp at ht⟩)
  heads_goes
end
end Go.Proofs.YteodinhkhhaafaaGreatDoor
