/- Walks of the program, and plain facts. -/
import Derived.Test.YteodinhkhhaafaaGreatDoorEaa
import Derived.LoopTactic
set_option linter.unusedVariables false
set_option linter.unusedSimpArgs false
set_option maxRecDepth 100000
set_option maxHeartbeats 6400000
namespace Go.Proofs.YteodinhkhhaafaaGreatDoor
section
section
open Go.RowKit
def subn:Nat→Nat→Nat→Nat×Nat
 |0,c,E=>(c,E)
 |f+1,c,E=>if c<8388608 then subn f (c*2) (E-1) else (c,E)
def h2s (x:Nat):Nat:=
 let s:=(x&&&32768)*65536
 let e:=(x&&&31744)/1024
 let c:=(x&&&1023)*8192
 if e=31 then (if c=0 then (s|||2139095040)|||c else (s|||2143289344)|||c)
 else if e=0 then (if c=0 then s else (s|||(subn 11 c 113).2*8388608)|||((subn 11 c 113).1&&&8388607))
 else (s|||(e+112)*8388608)|||c
theorem or_u32 (a b:Nat) (ha:a<4294967296) (hb:b<4294967296):bits .or .u32 (a:Int) (b:Int)=((a|||b:Nat):Int):=u32_or_nat a b ha hb
theorem or_lt32 {a b:Nat} (ha:a<4294967296) (hb:b<4294967296):a|||b<4294967296:=Nat.or_lt_two_pow (n:=32) ha hb
theorem or2_u32 (a b c:Nat) (ha:a<4294967296) (hb:b<4294967296) (hc:c<4294967296):bits .or .u32 (bits .or .u32 (a:Int) (b:Int)) (c:Int)=((a|||b|||c:Nat):Int):=by
 rw [or_u32 a b ha hb,or_u32 _ c (or_lt32 ha hb) hc]
section
variable (x a b c:Nat) (w:World) (e1:bits .and .u16 (x:Int) 32768=(a:Int)) (e2:bits .and .u16 (x:Int) 31744=(b:Int)) (e3:bits .and .u16 (x:Int) 1023=(c:Int)) (la:a≤32768) (lb:b≤31744) (lc:c≤1023)
include e1 e2 e3 la lb lc
theorem half_inf (h1:((b:Int)/1024==31)=true) (h2:((c:Int)*8192==0)=true):
  Calls Tryz.prog 201 #[.int .u16 (x:Int)] w fun e w'=>e= .returned (.int .u32 ((a*65536|||2139095040|||c*8192:Nat):Int))∧w'=w:=by
 rw [←or2_u32 _ _ _ (by omega) (by omega) (by omega)]
 go_enter Tryz.func201,Tryz.ntmps201
 go_wp2;go_ret
 exact ⟨rfl,rfl⟩
theorem half_nan (h1:((b:Int)/1024==31)=true) (h2:((c:Int)*8192==0)=false):
  Calls Tryz.prog 201 #[.int .u16 (x:Int)] w fun e w'=>e= .returned (.int .u32 ((a*65536|||2143289344|||c*8192:Nat):Int))∧w'=w:=by
 rw [←or2_u32 _ _ _ (by omega) (by omega) (by omega)]
 go_enter Tryz.func201,Tryz.ntmps201
 go_wp2;go_ret
 exact ⟨rfl,rfl⟩
theorem half_zero (h1:((b:Int)/1024==31)=false) (h0:((b:Int)/1024==0)=true) (h2:((c:Int)*8192==0)=true):
  Calls Tryz.prog 201 #[.int .u16 (x:Int)] w fun e w'=>e= .returned (.int .u32 ((a*65536:Nat):Int))∧w'=w:=by
 go_enter Tryz.func201,Tryz.ntmps201
 go_wp2;go_ret
 exact ⟨rfl,rfl⟩
theorem half_norm (h1:((b:Int)/1024==31)=false) (h0:((b:Int)/1024==0)=false):
  Calls Tryz.prog 201 #[.int .u16 (x:Int)] w fun e w'=>e= .returned (.int .u32 ((a*65536|||(b/1024+112)*8388608|||c*8192:Nat):Int))∧w'=w:=by
 rw [←or2_u32 _ _ _ (by omega) (by omega) (by omega)]
 go_enter Tryz.func201,Tryz.ntmps201
 go_wp2;go_ret
 exact ⟨rfl,rfl⟩
omit e1 e2 e3 la lb lc in
theorem subn_lt: ∀(f c E:Nat),c<16777216→(subn f c E).1<16777216
 |0,c,E,h=>h
 |f+1,c,E,h=>by
  unfold subn
  split
  ·exact subn_lt f _ _ (by omega)
  ·exact h
theorem half_sub (h1:((b:Int)/1024==31)=false) (h0:((b:Int)/1024==0)=true) (h2:((c:Int)*8192==0)=false):
  Calls Tryz.prog 201 #[.int .u16 (x:Int)] w fun e w'=>e= .returned (.int .u32 ((a*65536|||(subn 11 (c*8192) 113).2*8388608|||((subn 11 (c*8192) 113).1&&&8388607):Nat):Int))∧w'=w:=by
 obtain ⟨p,hp⟩: ∃p,subn 11 (c*8192) 113=p:=⟨_,rfl⟩;rw [hp];replace hp:=Hz hp;go_enter Tryz.func201,Tryz.ntmps201
 go_wp2
 go_loop [4,5] (fun ve vc=> ∃f k E:Nat,8192≤k∧k<16777216∧8388608≤k*2^f∧103+f≤E+1∧E≤113∧Hid (subn f k E=p)∧ve= .int .u32 (IntKind.u32.wrap ((E:Int)-112))∧vc= .int .u32 (k:Int)) (fun _ vc=>16777216-(intOf vc).toNat)
 case atStart=>
  have hb:b/1024=0:=by simp at h0;omega
  refine ⟨11,c*8192,113,by simp at h2;omega,by omega,by simp at h2;omega,by omega,by omega,hp,?_,rfl⟩
  rw [show (b:Int)/1024=0 by omega]
  rfl
 case round=>
  obtain ⟨f,k,E,g1,g2,g3,g4,g5,hq,rfl,rfl⟩:=hrel;have key:bits .and .u32 (k:Int) 2139095040=((k/8388608*8388608:Nat):Int):=by
   rw [show (2139095040:Int)=((2139095040:Nat):Int) from rfl,u32_and_nat k 2139095040 (by omega) (by omega)]
   have e:k&&&2139095040=k/8388608*8388608:=by
    have h24:k&&&16777215=k:=by rw [show (16777215:Nat)=2^24-1 from rfl,Nat.and_two_pow_sub_one_eq_mod,Nat.mod_eq_of_lt (by omega)]
    rw [←h24,Nat.and_assoc,show (16777215&&&2139095040:Nat)=2^23 from rfl,h24,nat_bit]
    omega
   rw [e]
  by_cases hk:k<8388608
  ·have ht:(bits .and .u32 (k:Int) 2139095040==0)=true:=by rw [key];simp;omega
   replace key:=Hz key;go_wp2
   go_round
   case rel=>
    obtain ⟨f,rfl⟩: ∃f',f=f'+1:=by
     rcases f with _|f
     ·simp at g3;omega
     ·exact ⟨f,rfl⟩
    refine ⟨f,k*2,E-1,by omega,by omega,by rw [Nat.pow_succ] at g3;rw [Nat.mul_assoc,Nat.mul_comm 2];exact g3,by omega,by omega,?_,?_,by go_num⟩
    ·have:=hq.out;unfold subn at this;rw [if_pos hk] at this;exact this
    ·rw [IntKind.wrap_u32]
     congr 1
     omega
   case measure=>simp [intOf];omega
  ·have ht:(bits .and .u32 (k:Int) 2139095040==0)=false:=by rw [key];simp;omega
   replace key:=Hz key;have hs:subn f k E=(k,E):=by
    rcases f with _|f
    ·rfl
    ·unfold subn;rw [if_neg hk]
   rw [hs] at hq;have hq:=hq.out;subst hq;have m1:bits .and .u32 (k:Int) 8388607=((k&&&8388607:Nat):Int):=u32_and_nat k 8388607 (by omega) (by omega)
   have l1:k&&&8388607≤8388607:=Nat.and_le_right;have fin:bits .or .u32 (bits .or .u32 ((a:Int)*65536) ((E:Int)%4294967296*8388608)) (bits .and .u32 (k:Int) 8388607)=((a*65536|||E*8388608|||k&&&8388607:Nat):Int):=by
    rw [m1,←or2_u32 _ _ _ (by omega) (by omega) (by omega),show (E:Int)%4294967296*8388608=((E*8388608:Nat):Int) by omega]
    rfl
   replace fin:=Hz fin;clear m1 l1;go_wp2;go_ret
   exact ⟨by rw [←fin.out];rfl,rfl⟩
end
theorem half_any (x:Nat) (hx:x<65536) (w:World):
  Calls Tryz.prog 201 #[.int .u16 (x:Int)] w fun e w'=>e= .returned (.int .u32 (h2s x:Int))∧w'=w:=by
 have e1:bits .and .u16 (x:Int) 32768=((x&&&32768:Nat):Int):=u16_and_nat x 32768 hx (by decide)
 have e2:bits .and .u16 (x:Int) 31744=((x&&&31744:Nat):Int):=u16_and_nat x 31744 hx (by decide)
 have e3:bits .and .u16 (x:Int) 1023=((x&&&1023:Nat):Int):=u16_and_nat x 1023 hx (by decide)
 have la:x&&&32768≤32768:=Nat.and_le_right;have lb:x&&&31744≤31744:=Nat.and_le_right;have lc:x&&&1023≤1023:=Nat.and_le_right;unfold h2s;dsimp only;by_cases h1:(x&&&31744)/1024=31
 ·rw [if_pos h1];by_cases h2:(x&&&1023)*8192=0
  ·rw [if_pos h2];exact half_inf x _ _ _ w e1 e2 e3 la lb lc (by simp;omega) (by simp;omega)
  ·rw [if_neg h2];exact half_nan x _ _ _ w e1 e2 e3 la lb lc (by simp;omega) (by simp;omega)
 ·rw [if_neg h1];by_cases h0:(x&&&31744)/1024=0
  ·rw [if_pos h0];by_cases h2:(x&&&1023)*8192=0
   ·rw [if_pos h2];exact half_zero x _ _ _ w e1 e2 e3 la lb lc (by simp;omega) (by simp;omega) (by simp;omega)
   ·rw [if_neg h2];exact half_sub x _ _ _ w e1 e2 e3 la lb lc (by simp;omega) (by simp;omega) (by simp;omega)
  ·rw [if_neg h0];exact half_norm x _ _ _ w e1 e2 e3 la lb lc (by simp;omega) (by simp;omega)
end
section
open Go.RowKit
theorem ext183 (n:Nat) (w:World):(callFunc 183 #[.int .u32 (n:Int)]).run Tryz.prog w= .ok (.value (.float .f32 n)) w:=
 (run_callFunc_extern Tryz.func183 (by kernel_rfl) (by kernel_rfl) (by kernel_rfl) (show Extern.find Tryz.f183=some Extern.MathFloatBits.float32frombits by kernel_rfl) _ w).trans rfl
theorem ext184 (n:Nat) (w:World):(callFunc 184 #[.int .u64 (n:Int)]).run Tryz.prog w= .ok (.value (.float .f64 n)) w:=
 (run_callFunc_extern Tryz.func184 (by kernel_rfl) (by kernel_rfl) (by kernel_rfl) (show Extern.find Tryz.f184=some Extern.MathFloatBits.float64frombits by kernel_rfl) _ w).trans rfl
theorem ext202 (n:Nat) (w:World):(callFunc 202 #[.float .f64 n]).run Tryz.prog w= .ok (.value (.int .u64 (n:Int))) w:=
 (run_callFunc_extern Tryz.func202 (by kernel_rfl) (by kernel_rfl) (by kernel_rfl) (show Extern.find Tryz.f202=some Extern.MathFloatBits.float64bits by kernel_rfl) _ w).trans rfl
theorem float32_any (x:Nat) (hx:x<65536) (w:World):
  Calls Tryz.prog 182 #[.int .u16 (x:Int)] w fun e w'=>e= .returned (.float .f32 (h2s x))∧w'=w:=by
 have K:=Hz (half_any x hx);clear hx;generalize h2s x=y at K;have he:=ext183 y;go_enter Tryz.func182,Tryz.ntmps182
 go_wp2_with (go_at_call 201;refine (K.out _).mono ?_;rintro e w' ⟨rfl,rfl⟩)
 go_wp2;go_ret
 exact ⟨rfl,rfl⟩
def DecM (w:World) (dm nest elems pairs:Nat):Prop:=
 w.heap[dm]? =some (.cells #[.int .i64 0,.int .i64 (nest:Int),.int .i64 (elems:Int),.int .i64 (pairs:Int),.int .i64 0,.int .i64 0,.int .i64 0,.int .i64 0,.int .i64 0,.int .i64 0,.int .i64 0,.pointer none,.int .i64 0,.int .i64 0,.int .i64 0] 239 (0,0))
theorem DecM.fr {S:List Nat} {w w':World} {dm n e p:Nat} (h:DecM w dm n e p) (hf:Fr S w w') (hn:dm∉S):DecM w' dm n e p:=hf.blk h hn
theorem DecM.cell {w:World} {dm n e p:Nat} (h:DecM w dm n e p) (i:Nat):w.cell? ⟨dm,i,none⟩=(#[.int .i64 0,.int .i64 (n:Int),.int .i64 (e:Int),.int .i64 (p:Int),.int .i64 0,.int .i64 0,.int .i64 0,.int .i64 0,.int .i64 0,.int .i64 0,.int .i64 0,.pointer none,.int .i64 0,.int .i64 0,.int .i64 0]:Array Value)[i]? :=cell_blk h i
theorem acceptableFloat {w:World} {d db o c dm n el pa:Nat} {xs:List UInt8} {v:Value} (h:DecV w d db o c dm xs v) (hm:DecM w dm n el pa) (b:Nat):
  Calls Tryz.prog 192 #[.pointer (some ⟨d,0,none⟩),.float .f64 b] w fun e w'=>e= .returned .nilIface∧w'=w:=by
 have h2:w.cell? ⟨d,2,none⟩=some (.pointer (some ⟨dm,0,none⟩)):=cell_blk h.blk 2;have h12:w.cell? ⟨dm,12,none⟩=some (.int .i64 0):=hm.cell 12;have h13:w.cell? ⟨dm,13,none⟩=some (.int .i64 0):=hm.cell 13;go_enter Tryz.func192,Tryz.ntmps192
 go_wp2;go_ret
 exact ⟨rfl,rfl⟩
theorem convert_f32 (b:Nat):(∃f:World→Nat,∀w,(convert 291 287 (.float .f32 b)).run Tryz.prog w= .ok (.float .f64 (f w)) w)∨(∃f:World→Nat,∀w,(convert 291 287 (.float .f32 b)).run Tryz.prog w= .ok (.float .f64 (f w)) w.drew):=by
 have hc: ∀w,(convert 291 287 (.float .f32 b)).run Tryz.prog w=(Conv.floatToFloat .f32 b .f64).run Tryz.prog w:=fun w=>by
  simp [convert,run_underlying Tryz.underlying291,run_underlying Tryz.underlying287]
 simp only [hc];unfold Conv.floatToFloat;simp only [reduceCtorEq,if_false]
 split
 ·simp only [Sem.run_bind,run_choose_drew];by_cases hq:(Question.nanConv .f64 b).forced=true
  ·exact .inl ⟨fun w=>0,fun w=>by rw [if_pos hq];rfl⟩
  ·exact .inr ⟨fun w=>(Question.nanConv .f64 b).cut (w.tape w.drawn (Question.nanConv .f64 b)),fun w=>by rw [if_neg hq];rfl⟩
 ·exact .inl ⟨_,fun w=>rfl⟩
 ·skip
  split
  ·simp only [Sem.run_bind,run_choose_drew];by_cases hq:(Question.floatToFloat b).forced=true
   ·exact .inl ⟨fun w=>0,fun w=>by rw [if_pos hq];rfl⟩
   ·exact .inr ⟨fun w=>(Question.floatToFloat b).cut (w.tape w.drawn (Question.floatToFloat b)),fun w=>by rw [if_neg hq];rfl⟩
  ·exact .inl ⟨fun _=>_,fun w=>rfl⟩
end
end
section
open Go.RowKit
def dec (n:Nat):List UInt8:=if h:n<10 then [(48+n).toUInt8] else dec (n/10)++[(48+n%10).toUInt8]
termination_by n
decreasing_by omega
theorem dec_lt (n:Nat) (h:n<10):dec n=[(48+n).toUInt8]:=by rw [dec];simp [h]
theorem dec_ge (n:Nat) (h: ¬n<10):dec n=dec (n/10)++[(48+n%10).toUInt8]:=by rw [dec];simp [h]
theorem dec_ne (n:Nat):dec n≠[]:=by
 rw [dec]
 split<;>simp
theorem digit_at: ∀j:Fin 10,((⟨#[48,49,50,51,52,53,54,55,56,57,97,98,99,100,101,102,103,104,105,106,107,108,109,110,111,112,113,114,115,116,117,118,119,120,121,122]⟩:ByteArray)[j.val]'(by have:=j.isLt;show _<36;omega)).toNat=(48+j.val).toUInt8.toNat:=by decide
def Left (n0 n i:Nat) (tail:List UInt8):Prop:=if i=64 then n=n0∧tail=[] else if n=0 then tail=dec n0 else dec n++tail=dec n0
def FU (w:World) (n0:Nat) (v0 v6:Value) (wr:World):Prop:=
 ∃(n i:Nat) (tail:List UInt8) (cs:Array Value),v0= .int .u64 (n:Int)∧v6= .int .i64 (i:Int)∧i+tail.length=64∧n<10^(i-44)∧44≤i∧n≤n0∧Left n0 n i tail∧
  wr.heap[w.heap.size]? =some (.cells cs 268 (0,0))∧cs.size=64∧(∀j,(h:j<tail.length)→cs[i+j]? =some (.int .u8 (tail[j].toNat:Int)))∧Fr [] w wr
theorem fu_step {w wr:World} {n0 n i:Nat} {tail:List UInt8} {cs:Array Value} (hi:i+tail.length=64) (hp:n<10^(i-44)) (h44:44≤i) (hle:n≤n0) (hn0:n0<18446744073709551616) (hL:Left n0 n i tail)
  (hb:wr.heap[w.heap.size]? =some (.cells cs 268 (0,0))) (hs:cs.size=64) (hc: ∀j,(h:j<tail.length)→cs[i+j]? =some (.int .u8 (tail[j].toNat:Int))) (hf:Fr [] w wr)
  (h45:45≤i) (hz:i=64∨n≠0) (x:Int) (hx:x=((48+n%10).toUInt8.toNat:Int)):
  FU w n0 (.int .u64 (IntKind.u64.wrap ((n:Int)/10))) (.int .i64 ((i:Int)-1)) (wr.setCell ⟨w.heap.size,i-1,none⟩ (.int .u8 x)):=by
 subst hx;refine ⟨n/10,i-1,(48+n%10).toUInt8::tail,_,?_,?_,by simp;omega,?_,by omega,by omega,?_,blk_setCell hb _ _,by simpa using hs,?_,hf.setCell (.inr (by simp)) _⟩
 ·have:IntKind.u64.wrap ((n:Int)/10)=((n/10:Nat):Int):=by
   simp only [IntKind.wrap,IntKind.bits,IntKind.signed];simp;omega
  rw [this]
 ·congr 1;omega
 ·obtain ⟨k,rfl⟩: ∃k,i=k+45:=⟨i-45,by omega⟩
  rw [show k+45-44=k+1 by omega,Nat.pow_succ] at hp
  rw [show k+45-1-44=k by omega]
  omega
 ·unfold Left at hL ⊢;rw [if_neg (by omega)]
  by_cases h64:i=64
  ·rw [if_pos h64] at hL;obtain ⟨rfl,rfl⟩:=hL;by_cases h10:n<10
   ·rw [if_pos (by omega),dec_lt n h10,Nat.mod_eq_of_lt h10]
   ·rw [if_neg (by omega),dec_ge n h10]
  ·rw [if_neg h64,if_neg (hz.resolve_left h64)] at hL;by_cases h10:n<10
   ·rw [if_pos (by omega),←hL,dec_lt n h10,Nat.mod_eq_of_lt h10];rfl
   ·rw [if_neg (by omega),←hL,dec_ge n h10];simp
 ·intro j hj;rcases j with _|j
  ·rw [Nat.add_zero,Array.getElem?_setIfInBounds_self_of_lt (by omega)];rfl
  ·have hj':j<tail.length:=by simpa using hj
   rw [Array.getElem?_setIfInBounds_ne (by omega),show i-1+(j+1)=i+j by omega,hc j hj']
   rfl
theorem slice64 (B i:Nat) (hi:i<64) (w:World):(Instr.sliceAt 268 (.pointer (some ⟨B,0,none⟩)) (some (.int .i64 (i:Int))) none none).run Tryz.prog w= .ok (.slice (some ⟨B,i,none⟩) (64-i) (64-i)) w:=by
 have e1:Tryz.prog.arrayLen 268=64:=by kernel_rfl
 have e2:Tryz.prog.elem 268=5:=by kernel_rfl
 have e3:(sizeOf 5).run Tryz.prog w= .ok 1 w:=by kernel_rfl
 rw [run_sliceAt_array_l w 268 _ (by rw [e1,e2];exact Tryz.underlying268) _ _ (by omega) (by rw [e1];omega),e1,e2,e3]
 simp only [Result.andThen,slicedAt,Int.toNat_natCast,Nat.mul_one];rw [if_neg (by omega)]
 unfold Addr.add
 split
 ·rename_i h;subst h;rfl
 ·simp
theorem formatUint (n:Nat) (hn:n<18446744073709551616) (w:World):
  Calls Tryz.prog 122 #[.int .u64 (n:Int),.int .i64 10] w fun e w'=>e= .returned (.string ⟨(dec n).toArray⟩)∧Fr [] w w':=by
 replace hn:=Hz hn;go_enter Tryz.func122,Tryz.ntmps122
 go_wp2
 go_loopw [0,6] (fun v0 v6 wr=>FU w n v0 v6 wr) (fun v0 v6 _=>(intOf v6).toNat)
 case atStart=>
  refine ⟨n,64,[],_,rfl,rfl,by simp,?_,by omega,Nat.le_refl _,?_,blk_new _ _,by rfl,by simp,(Fr.refl _ _).alloc _⟩
  ·have:=hn.out;omega
  ·unfold Left;simp
 case round=>
  obtain ⟨m,i,tail,cs,rfl,rfl,hi,hp,h44,hle,hL,hb,hs,hc,hf⟩:=hrel;replace hi:=Hz hi;replace hp:=Hz hp;replace hb:=Hz hb;replace hs:=Hz hs;replace hc:=Hz hc;have hi64:i≤64:=by have:=hi.out;omega
  by_cases hz:i=64∨m≠0
  ·have h45:45≤i:=by
    rcases hz with hz|hz
    ·omega
    ·have:=hp.out;by_cases h:i=44
     ·subst h;simp at this;omega
     ·omega
   have hcell: ∃u,wr.cell? ⟨w.heap.size,i-1,none⟩=some u:=by
    rw [cell_blk hb.out];exact ⟨_,Array.getElem?_eq_getElem (by rw [hs.out];omega)⟩
   obtain ⟨u,hcell⟩:=hcell;have hfr:wr.frozen? ⟨w.heap.size,i-1,none⟩=false:=frozen_blk hb.out _;have step:=fu_step hi.out hp.out h44 hle hn.out hL hb.out hs.out hc.out hf h45 hz _ (congrArg (fun z:Nat=>(z:Int)) (digit_at ⟨m%10,by omega⟩))
   have i36:(m:Int)%10<36:=by omega
   replace step:=Hz step;replace hL:=Hz hL;by_cases h64:i=64
   ·have g1:((i:Int)==64)=true:=by simp;omega
    clear hz h64;go_wp2
    go_roundw
    case rel=>exact step.out
    case measure=>simp [intOf];omega
   ·have g1:((i:Int)==64)=false:=by simp;omega
    have hm0:m≠0:=hz.resolve_left h64;have g2:0<m:=by omega
    clear hz h64 hm0;go_wp2
    go_roundw
    case rel=>exact step.out
    case measure=>simp [intOf];omega
  ·have h64:i≠64:=fun e=>hz (.inl e)
   have hm:m=0:=by
    by_cases h:m=0
    ·exact h
    ·exact absurd (.inr h) hz
   have g1:((i:Int)==64)=false:=by simp;omega
   have g2: ¬0<m:=by omega
   have hsl:=slice64 w.heap.size i (by omega) wr
   unfold Left at hL;rw [if_neg h64,if_pos hm] at hL;clear hz hm h64;have hrd:Rd wr w.heap.size i tail:=fun j hj=>by rw [cell_blk hb.out];exact hc.out j hj
   have hcv:=toStr hrd (64-i);have hl:tail.length=64-i:=by have:=hi.out;omega
   rw [hl,hL] at hcv;replace hl:=Hz hl;replace hL:=Hz hL;clear hrd;have i44: ¬i=64:=fun e=>by simp [e] at g1
   go_wp2;go_ret
   exact ⟨rfl,hf⟩
theorem mk_append (a b:List UInt8):(⟨a.toArray⟩:ByteArray)++⟨b.toArray⟩=⟨(a++b).toArray⟩:=by
 apply ByteArray.ext
 simp
theorem dec_length (n:Nat) (k:Nat) (h:n<10^k) (hk:1≤k):(dec n).length≤k:=by
 induction k generalizing n with
 |zero=>omega
 |succ k ih=>
  by_cases h10:n<10
  ·rw [dec_lt n h10];simp
  ·rw [dec_ge n h10];rw [Nat.pow_succ] at h;rcases k with _|k
   ·simp at h;omega
   ·have:=ih (n/10) (by omega) (by omega)
    simp;omega
def itoa (n:Int):List UInt8:=if n<0 then 45::dec n.natAbs else dec n.natAbs
theorem formatInt_pos (n:Nat) (hn:n<9223372036854775808) (w:World):
  Calls Tryz.prog 128 #[.int .i64 (n:Int),.int .i64 10] w fun e w'=>e= .returned (.string ⟨(dec n).toArray⟩)∧Fr [] w w':=by
 have K:=Hz (formatUint n (by omega))
 have g:n≤9223372036854775807:=by omega
 clear hn;go_enter Tryz.func128,Tryz.ntmps128
 go_wp2_with fail
 refine (K.out _).mono ?_
 rintro e w' ⟨rfl,hf⟩;go_wp2;go_ret
 exact ⟨rfl,hf⟩
theorem formatInt_neg (n:Nat) (h0:0<n) (hn:n≤9223372036854775808) (w:World):
  Calls Tryz.prog 128 #[.int .i64 (-(n:Int)),.int .i64 10] w fun e w'=>e= .returned (.string ⟨(45::dec n).toArray⟩)∧Fr [] w w':=by
 have K:=Hz (formatUint n (by omega))
 have hl:=dec_length n 19 (by omega) (by omega)
 have g1: -(n:Int)<0:=by omega
 have hw:IntKind.u64.wrap (-IntKind.u64.wrap (-(n:Int)))=(n:Int):=by
  simp only [IntKind.wrap,IntKind.bits,IntKind.signed];simp;omega
 clear hn;go_enter Tryz.func128,Tryz.ntmps128
 go_wp2_with fail
 refine (K.out _).mono ?_
 rintro e w' ⟨rfl,hf⟩;go_wp2;go_ret
 exact ⟨rfl,hf⟩
theorem formatInt (n:Int) (h1: -9223372036854775808≤n) (h2:n<9223372036854775808) (w:World):
  Calls Tryz.prog 128 #[.int .i64 n,.int .i64 10] w fun e w'=>e= .returned (.string ⟨(itoa n).toArray⟩)∧Fr [] w w':=by
 by_cases h:n<0
 ·have e:n= -((n.natAbs:Nat):Int):=by omega
  have hi:itoa n=45::dec n.natAbs:=by unfold itoa;rw [if_pos h]
  rw [hi];generalize n.natAbs=k at *
  subst e;exact formatInt_neg k (by omega) (by omega) w
 ·have e:n=((n.natAbs:Nat):Int):=by omega
  have hi:itoa n=dec n.natAbs:=by unfold itoa;rw [if_neg h]
  rw [hi];generalize n.natAbs=k at *
  subst e;exact formatInt_pos k (by omega) w
theorem itoa_length (n:Int) (h1: -9223372036854775808≤n) (h2:n<9223372036854775808):(itoa n).length≤20:=by
 have:=dec_length n.natAbs 19 (by omega) (by omega)
 unfold itoa
 split
 ·simp;omega
 ·omega
theorem itoa_any (n:Int) (h1: -9223372036854775808≤n) (h2:n<9223372036854775808) (w:World):
  Calls Tryz.prog 116 #[.int .i64 n] w fun e w'=>e= .returned (.string ⟨(itoa n).toArray⟩)∧Fr [] w w':=by
 have K:=Hz (formatInt n h1 h2);clear h1 h2;go_enter Tryz.func116,Tryz.ntmps116
 go_wp2_with fail
 refine (K.out _).mono ?_
 rintro e w' ⟨rfl,hf⟩;go_wp2;go_ret
 exact ⟨rfl,hf⟩
theorem typeName (m:Nat) (hm:m<8) (w:World):
  Calls Tryz.prog 134 #[.int .u8 ((m*32:Nat):Int)] w fun e w'=> ∃s:ByteArray,e= .returned (.string s)∧s.size≤20∧w'=w:=by
 have h8:m=0∨m=1∨m=2∨m=3∨m=4∨m=5∨m=6∨m=7:=by omega
 rcases h8 with rfl|rfl|rfl|rfl|rfl|rfl|rfl|rfl
 all_goals
  go_enter Tryz.func134,Tryz.ntmps134
  go_wp2;go_ret
  refine ⟨_,rfl,?_,rfl⟩
  decide
end
end Go.Proofs.YteodinhkhhaafaaGreatDoor
