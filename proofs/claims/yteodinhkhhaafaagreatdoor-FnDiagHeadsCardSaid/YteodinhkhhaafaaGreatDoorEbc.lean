/- Walks of the program, and plain facts. -/
import Derived.Test.YteodinhkhhaafaaGreatDoorEba
import Derived.Test.YteodinhkhhaafaaGreatDoorEbb
set_option linter.unusedVariables false
set_option linter.unusedSimpArgs false
set_option maxRecDepth 100000
set_option maxHeartbeats 6400000
namespace Go.Proofs.YteodinhkhhaafaaGreatDoor
section
set_option exponentiation.threshold 3000
open Go.RowKit
theorem u16_and_nat' (a b:Nat) (ha:a<65536) (hb:b<65536):bits .and .u16 (a:Int) (b:Int)=((a&&&b:Nat):Int):=by
 first|exact u16_and_nat a b ha hb|(have:=u16_and (a:Int) (b:Int) (by omega) (by omega) (by omega) (by omega);simpa using this)
theorem frombits (x:Nat) (w:World):Calls Tryz.prog 179 #[.int .u16 (x:Int)] w fun e w'=>e= .returned (.int .u16 (x:Int))∧w'=w:=by
 go_enter Tryz.func179,Tryz.ntmps179
 go_wp2;go_ret
 exact ⟨rfl,rfl⟩
theorem absF (b:Nat) (hb:b<18446744073709551616) (w:World):Calls Tryz.prog 185 #[.float .f64 b] w fun e w'=>e= .returned (.float .f64 (b%9223372036854775808))∧w'=w:=by
 have h:=u64_andNot_nat b 9223372036854775808 (by omega) (by omega)
 have h2:b&&&(18446744073709551615-9223372036854775808)=b%9223372036854775808:=by
  rw [show 18446744073709551615-9223372036854775808=2^63-1 by decide,Nat.and_two_pow_sub_one_eq_mod]
 rw [h2] at h;have h3:bits .andNot .u64 (b:Int) 9223372036854775808=((b%9223372036854775808:Nat):Int):=h;have x202:=fun w=>ext202 b w
 have x184:=fun w=>ext184 (b%9223372036854775808) w
 clear h h2;generalize b%9223372036854775808=a at *
 go_enter Tryz.func185,Tryz.ntmps185
 go_wp2;go_ret
 exact ⟨rfl,rfl⟩
theorem single_num (y:Nat) (hy:y<4294967296) (hf:y/8388608%256≠255): ∃s m e,Ieee.single.read y= .number s m e:=by
 have e1:Ieee.single.signWeight=2147483648:=by decide
 have e2:Ieee.single.binade=8388608:=by decide
 have e3:Ieee.single.infRung=2139095040:=by decide
 unfold Ieee.Format.read;rw [e1,e2,e3];dsimp only;by_cases h0:y%2147483648<8388608
 ·rw [if_pos h0];exact ⟨_,_,_,rfl⟩
 ·rw [if_neg h0,if_pos (by omega)];exact ⟨_,_,_,rfl⟩
theorem s2d_fin (y:Nat) (hy:y<4294967296) (hf:y/8388608%256≠255):s2d y<18446744073709551616∧s2d y/4503599627370496%2048≠2047:=by
 have key: ∀(sg E F:Nat),sg≤1→E≤1200→F<4503599627370496→sg*9223372036854775808+E*4503599627370496+F<18446744073709551616∧(sg*9223372036854775808+E*4503599627370496+F)/4503599627370496%2048≠2047:=by
  intro sg E F h1 h2 h3;omega
 rw [s2d_wide y hy hf];unfold widen;rw [show (2:Nat)^23=8388608 by decide,show (2:Nat)^8=256 by decide,show (2:Nat)^(8+23)=2147483648 by decide,show (2:Nat)^63=9223372036854775808 by decide,show (2:Nat)^52=4503599627370496 by decide,show (2:Nat)^(52-23)=536870912 by decide,show (2:Nat)^(8-1)=128 by decide]
 rw [if_neg hf];have hm:=Nat.mod_lt y (show 0<8388608 by decide)
 have hel:=Nat.mod_lt (y/8388608) (show 0<256 by decide)
 have hs:=Nat.mod_lt (y/2147483648) (show 0<2 by decide)
 split
 ·exact key _ _ _ (by omega) (by omega) (by omega)
 ·split
  ·have:=key (y/2147483648%2) 0 0 (by omega) (by omega) (by omega)
   rw [Nat.zero_mul,Nat.add_zero] at this;exact this
  ·rename_i h1 h2;refine key _ _ _ (by omega) (by omega) ?_
   generalize y%8388608=m at *
   have hup:m<2^(m.log2+1):=Nat.lt_log2_self;have hl:m.log2≤22:=by
    have:=(Nat.log2_lt (n:=m) (k:=23) (by omega)).2 (by omega)
    omega
   have h:=Nat.mul_lt_mul_of_pos_right hup (Nat.pow_pos (n:=23-m.log2) (show 0<2 by decide))
   rw [←Nat.pow_add,show m.log2+1+(23-m.log2)=24 by omega] at h
   have h':m*2^(23-m.log2)<16777216:=h;obtain ⟨t,ht⟩: ∃t,t=m*2^(23-m.log2):=⟨_,rfl⟩;rw [←ht] at h' ⊢;clear ht h hup;omega
theorem conv32 (y:Nat) (hy:y<4294967296) (hf:y/8388608%256≠255) (w:World):(convert 291 287 (.float .f32 y)).run Tryz.prog w= .ok (.float .f64 (s2d y)) w:=by
 obtain ⟨s,m,e,hr⟩:=single_num y hy hf;obtain ⟨f1,f2⟩:=s2d_fin y hy hf;have hc:(convert 291 287 (.float .f32 y)).run Tryz.prog w=(Conv.floatToFloat .f32 y .f64).run Tryz.prog w:=by
  simp [convert,run_underlying Tryz.underlying291,run_underlying Tryz.underlying287]
 rw [hc];have hd:FloatKind.f64.encode (.number s m e)=s2d y:=by unfold s2d;rw [hr];rfl
 have hn:(FloatKind.f64.decode (s2d y)).isInfinity=false:=by
  show (Ieee.double.read (s2d y)).isInfinity=false
  rw [read64 _ f1 f2]
  rfl
 unfold Conv.floatToFloat;rw [if_neg (by decide)]
 rw [show FloatKind.f32.decode y= .number s m e from hr]
 dsimp only;rw [hd,hn]
 rfl
end
def allTo (P:Nat→Bool):Nat→Bool
 |0=>true
 |n+1=>P n&&allTo P n
theorem allTo_at {P:Nat→Bool}: ∀n,allTo P n=true→ ∀i,i<n→P i=true
 |0,_,i,h=>by omega
 |n+1,h,i,hi=>by
  rw [allTo,Bool.and_eq_true] at h;by_cases e:i=n
  ·rw [e];exact h.1
  ·exact allTo_at n h.2 i (by omega)
def halfOK (x:Nat):Bool:=Nat.beq (x/1024%32) 31||(Nat.beq (widen (h2s x) 8 23) (widen x 5 10)&&Nat.blt (h2s x) 4294967296&& !Nat.beq (h2s x/8388608%256) 255)
theorem half_tab:allTo (fun i=>allTo (fun j=>halfOK (i*256+j)) 256) 256=true:=by kernel_rfl
theorem half_fin (x:Nat) (hx:x<65536) (hf:x/1024%32≠31):widen (h2s x) 8 23=widen x 5 10∧h2s x<4294967296∧h2s x/8388608%256≠255:=by
 have h:=allTo_at 256 (allTo_at 256 half_tab (x/256) (by omega)) (x%256) (by omega)
 rw [show x/256*256+x%256=x by omega] at h
 unfold halfOK at h;simp only [Bool.or_eq_true,Bool.and_eq_true,Bool.not_eq_true',Nat.beq_eq,Nat.blt_eq] at h;rcases h with h|⟨⟨h1,h2⟩,h3⟩
 ·exact absurd h hf
 ·refine ⟨h1,h2,fun e=> ?_⟩
  rw [e] at h3;exact absurd h3 (by decide)
section
set_option exponentiation.threshold 3000
open Go.RowKit
def wbits (ai v:Nat):Nat:=if ai=25 then s2d (h2s v) else if ai=26 then s2d v else v
def numOK (ai v:Nat):Prop:=(ai=25∧v<65536∧v/1024%32≠31)∨(ai=26∧v<4294967296∧v/8388608%256≠255)∨(ai=27∧v<18446744073709551616∧v/4503599627370496%2048≠2047)
theorem wbits_fin {ai v:Nat} (h:numOK ai v):wbits ai v<18446744073709551616∧wbits ai v/4503599627370496%2048≠2047∧wbits ai v=wide ai v:=by
 unfold wbits wide;rcases h with ⟨rfl,h1,h2⟩|⟨rfl,h1,h2⟩|⟨rfl,h1,h2⟩
 ·obtain ⟨e1,e2,e3⟩:=half_fin v h1 h2;obtain ⟨a,b⟩:=s2d_fin _ e2 e3;rw [if_pos rfl,if_pos rfl];exact ⟨a,b,by rw [s2d_wide _ e2 e3,e1]⟩
 ·obtain ⟨a,b⟩:=s2d_fin v h1 h2;rw [if_neg (by omega),if_pos rfl,if_neg (by omega),if_pos rfl]
  exact ⟨a,b,s2d_wide v h1 h2⟩
 ·rw [if_neg (by omega),if_neg (by omega),if_neg (by omega),if_neg (by omega)]
  exact ⟨h1,h2,rfl⟩
def ord (a b:Nat):Option Ordering:=Ieee.double.order a b
def useE (b:Nat):Bool:=(ord (b%9223372036854775808) 0 !=some .eq)&&((ord (b%9223372036854775808) 4517329193108106637==some .lt)||(ord (b%9223372036854775808) 4921056587992461136==some .gt||ord (b%9223372036854775808) 4921056587992461136==some .eq))
theorem useE_pos {b:Nat} (h:useE b=true):0<fMant b:=by
 rcases Nat.eq_zero_or_pos (fMant b) with h0|h0
 ·exfalso
  have hz:b%9223372036854775808=0:=by
   unfold fMant at h0
   split at h0<;>omega
  unfold useE at h;rw [hz] at h;have:ord 0 0=some .eq:=by decide
  rw [this] at h;simp at h
 ·exact h0
def preT (b:Nat):List UInt8:=if useE b then cleanE (fmtF b true) else fmtF b false
def fltB (b:Nat):List UInt8:=dotted (preT b)
def precT (pr:Bool) (ai:Nat):List UInt8:=if pr then [95,if ai=25 then 49 else if ai=26 then 50 else 51] else []
theorem isNaN16 (x:Nat) (hx:x<65536) (hf:x/1024%32≠31) (w:World):Calls Tryz.prog 180 #[.int .u16 (x:Int)] w fun e w'=>e= .returned (.bool false)∧w'=w:=by
 have h:=u16_and_nat' x 31744 hx (by omega)
 have h2:x&&&31744≠31744:=by
  intro e;have h3:(x&&&31744)/1024=x/1024&&&31:=by
   rw [show (1024:Nat)=2^10 by decide,←Nat.shiftRight_eq_div_pow,Nat.shiftRight_and_distrib,Nat.shiftRight_eq_div_pow]
   rfl
  rw [e,show (31:Nat)=2^5-1 by decide,Nat.and_two_pow_sub_one_eq_mod] at h3
  omega
 have h3:bits .and .u16 (x:Int) 31744=((x&&&31744:Nat):Int):=h;have t0:((((x&&&31744:Nat):Int))==31744)=false:=by simp;omega
 generalize x&&&31744=y at *
 have t1: ¬(y:Int)=31744:=by omega
 clear h h2;go_enter Tryz.func180,Tryz.ntmps180
 go_wp2;go_ret
 exact ⟨rfl,rfl⟩
theorem isInf16 (x:Nat) (s:Int) (hf:x/1024%32≠31) (w:World):Calls Tryz.prog 181 #[.int .u16 (x:Int),.int .i64 s] w fun e w'=>e= .returned (.bool false)∧w'=w:=by
 have t0:((x:Int)==31744)=false:=by simp;omega
 have t1: ¬(x:Int)=31744:=by omega
 have t2:((x:Int)==64512)=false:=by simp;omega
 have t3: ¬(x:Int)=64512:=by omega
 go_enter Tryz.func181,Tryz.ntmps181
 go_wp2;go_ret
 exact ⟨rfl,rfl⟩
theorem read32 (b:Nat) (hb:b<4294967296) (hf:b/8388608%256≠255): ∃m e,Ieee.single.read b= .number (b/2147483648==1) m e∧m<16777216∧e≤104:=by
 have e1:Ieee.single.signWeight=2147483648:=by decide
 have e2:Ieee.single.binade=8388608:=by decide
 have e3:Ieee.single.infRung=2139095040:=by decide
 have e4:Ieee.single.leastPlace= -149:=by decide
 have h2:b/2147483648%2=b/2147483648:=by omega
 unfold Ieee.Format.read;rw [e1,e2,e3,e4];dsimp only;rw [h2];by_cases h0:b%2147483648<8388608
 ·rw [if_pos h0];exact ⟨_,_,rfl,by omega,by omega⟩
 ·rw [if_neg h0,if_pos (by omega)];exact ⟨_,_,rfl,by omega,by omega⟩
theorem order_self32 (b:Nat) (hb:b<4294967296) (hf:b/8388608%256≠255):Ieee.single.order b b=some .eq:=by
 obtain ⟨m,e,h,_,_⟩:=read32 b hb hf;unfold Ieee.Format.order;rw [h];simp [Ieee.Datum.order]
theorem order_max32 (b:Nat) (hb:b<4294967296) (hf:b/8388608%256≠255):Ieee.single.order b 2139095039≠some .gt∧Ieee.single.order b 4286578687≠some .lt:=by
 have r1:Ieee.single.read 2139095039= .number false 16777215 104:=by decide
 have r2:Ieee.single.read 4286578687= .number true 16777215 104:=by decide
 obtain ⟨m,i,h,hm,he⟩:=read32 b hb hf;unfold Ieee.Format.order;rw [h,r1,r2];generalize (b/2147483648==1)=s at *
 have hk:m≤16777215<<<(104-i).toNat:=by
  rw [Nat.shiftLeft_eq];have:=Nat.mul_le_mul (show m≤16777215 by omega) (Nat.pow_pos (n:=(104-i).toNat) (show 0<2 by decide))
  omega
 simp only [Ieee.Datum.order,Int.min_eq_left he];have h0:(i-i).toNat=0:=by omega
 rw [h0]
 constructor
 ·intro e;injection e with e
  rw [Int.compare_eq_gt] at e;unfold Ieee.signed at e;rw [Nat.shiftLeft_zero] at e;generalize 16777215<<<(104-i).toNat=S at *
  cases s
  ·simp at e;omega
  ·simp at e;omega
 ·intro e;injection e with e
  rw [Int.compare_eq_lt] at e;unfold Ieee.signed at e;rw [Nat.shiftLeft_zero] at e;generalize 16777215<<<(104-i).toNat=S at *
  cases s
  ·simp at e;omega
  ·simp at e;omega
theorem Row.take {w:World} {B g n c:Nat} {bs:List UInt8} (h:Row w B (.slice (Option.some ⟨g,0,none⟩) n c) bs) (k:Nat) (hk:k≤bs.length):Row w B (.slice (Option.some ⟨g,0,none⟩) k c) (bs.take k):=by
 have hl:(bs.take k).length=k:=by simp;omega
 rcases h.2 with ⟨hv,_⟩|⟨g',cap,cur,hv,hg,hh,hc,hm,hs,ht⟩
 ·cases hv
 ·injection hv with e1 e2 e3
  injection e1 with e1
  injection e1 with e1 _ _
  subst e1 e3;refine ⟨by simp [enc],.inr ⟨g,c,cur,by rw [hl],hg,hh,by omega,hm,hs,?_⟩⟩
  have h6:=congrArg (List.take (k*1)) ht;rw [List.take_take,Nat.min_eq_left (by omega)] at h6
  rw [hl,h6];simp [enc]
theorem Row.set {w:World} {B:Nat} {v:Value} {bs:List UInt8} (h:Row w B v bs) (i:Nat) (hi:i<bs.length):
  ∃g c,v= .slice (Option.some ⟨g,0,none⟩) bs.length c∧B≤g∧(∃u,w.cell? ⟨g,i,none⟩=Option.some u)∧w.frozen? ⟨g,i,none⟩=false∧ ∀b:UInt8,Row (w.setCell ⟨g,i,none⟩ (.int .u8 (b.toNat:Int))) B v (bs.set i b):=by
 rcases h.2 with ⟨hv,h0⟩|⟨g,cap,cur,hv,hg,hh,hc,hm,hs,ht⟩
 ·omega
 ·subst hv;rw [Nat.mul_one] at hs ht;refine ⟨g,cap,rfl,hg,⟨cur[i]'(by omega),by rw [cell_blk hh];exact Array.getElem?_eq_getElem (by omega)⟩,frozen_blk hh _,fun b=> ?_⟩
  refine ⟨by simp [enc],.inr ⟨g,cap,_,by simp,hg,blk_setCell hh i _,by simpa using hc,hm,by simpa using hs,?_⟩⟩
  rw [List.length_set,Nat.mul_one,Array.toList_setIfInBounds,List.take_set,ht];simp [enc,List.map_set]
end
end Go.Proofs.YteodinhkhhaafaaGreatDoor
