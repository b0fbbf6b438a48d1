/- Walks of the program, and plain facts. -/
import Derived.Test.YteodinhkhhaafaaGreatDoorDaa
import Derived.LoopTactic
set_option linter.unusedVariables false
set_option linter.unusedSimpArgs false
set_option maxRecDepth 100000
set_option maxHeartbeats 6400000
namespace Go.Proofs.YteodinhkhhaafaaGreatDoor
section
open Go.RowKit
def dec (n:Nat):List UInt8:=if h:n<10 then [(48+n).toUInt8] else dec (n/10)++[(48+n%10).toUInt8]
termination_by n
decreasing_by omega
theorem dec_lt (n:Nat) (h:n<10):dec n=[(48+n).toUInt8]:=by rw [dec];simp [h]
theorem dec_ge (n:Nat) (h: ¬n<10):dec n=dec (n/10)++[(48+n%10).toUInt8]:=by rw [dec];simp [h]
theorem dec_ne (n:Nat):dec n≠[]:=by
 rw [dec]
 split<;>simp
theorem digit_at: ∀j:Fin 10,((⟨#[48,49,50,51,52,53,54,55,56,57,97,98,99,100,101,102,103,104,105,106,107,108,109,110,111,112,113,114,115,116,117,118,119,120,121,122]⟩:ByteArray)[j.val]'(by have:=j.isLt;show _<36;omega)).toNat=(48+j.val).toUInt8.toNat:=by decide
def Left (n0 n i:Nat) (tail:List UInt8):Prop:=if i=64 then n=n0∧tail=[] else if n=0 then tail=dec n0 else dec n++tail=dec n0
def FU (w:World) (n0:Nat) (v0 v6:Value) (wr:World):Prop:=
 ∃(n i:Nat) (tail:List UInt8) (cs:Array Value),v0= .int .u64 (n:Int)∧v6= .int .i64 (i:Int)∧i+tail.length=64∧n<10^(i-44)∧44≤i∧n≤n0∧Left n0 n i tail∧
  wr.heap[w.heap.size]? =some (.cells cs 268 (0,0))∧cs.size=64∧(∀j,(h:j<tail.length)→cs[i+j]? =some (.int .u8 (tail[j].toNat:Int)))∧Fr [] w wr
theorem fu_step {w wr:World} {n0 n i:Nat} {tail:List UInt8} {cs:Array Value} (hi:i+tail.length=64) (hp:n<10^(i-44)) (h44:44≤i) (hle:n≤n0) (hn0:n0<18446744073709551616) (hL:Left n0 n i tail)
  (hb:wr.heap[w.heap.size]? =some (.cells cs 268 (0,0))) (hs:cs.size=64) (hc: ∀j,(h:j<tail.length)→cs[i+j]? =some (.int .u8 (tail[j].toNat:Int))) (hf:Fr [] w wr)
  (h45:45≤i) (hz:i=64∨n≠0) (x:Int) (hx:x=((48+n%10).toUInt8.toNat:Int)):
  FU w n0 (.int .u64 (IntKind.u64.wrap ((n:Int)/10))) (.int .i64 ((i:Int)-1)) (wr.setCell ⟨w.heap.size,i-1,none⟩ (.int .u8 x)):=by
 subst hx
 refine ⟨n/10,i-1,(48+n%10).toUInt8::tail,_,?_,?_,by simp;omega,?_,by omega,by omega,?_,blk_setCell hb _ _,by simpa using hs,?_,hf.setCell (.inr (by simp)) _⟩
 ·have:IntKind.u64.wrap ((n:Int)/10)=((n/10:Nat):Int):=by
   simp only [IntKind.wrap,IntKind.bits,IntKind.signed];simp;omega
  rw [this]
 ·congr 1;omega
 ·obtain ⟨k,rfl⟩: ∃k,i=k+45:=⟨i-45,by omega⟩
  rw [show k+45-44=k+1 by omega,Nat.pow_succ] at hp
  rw [show k+45-1-44=k by omega]
  omega
 ·unfold Left at hL ⊢
  rw [if_neg (by omega)]
  by_cases h64:i=64
  ·rw [if_pos h64] at hL
   obtain ⟨rfl,rfl⟩:=hL
   by_cases h10:n<10
   ·rw [if_pos (by omega),dec_lt n h10,Nat.mod_eq_of_lt h10]
   ·rw [if_neg (by omega),dec_ge n h10]
  ·rw [if_neg h64,if_neg (hz.resolve_left h64)] at hL
   by_cases h10:n<10
   ·rw [if_pos (by omega),←hL,dec_lt n h10,Nat.mod_eq_of_lt h10];rfl
   ·rw [if_neg (by omega),←hL,dec_ge n h10];simp
 ·intro j hj
  rcases j with _|j
  ·rw [Nat.add_zero,Array.getElem?_setIfInBounds_self_of_lt (by omega)];rfl
  ·have hj':j<tail.length:=by simpa using hj
   rw [Array.getElem?_setIfInBounds_ne (by omega),show i-1+(j+1)=i+j by omega,hc j hj']
   rfl
theorem slice64 (B i:Nat) (hi:i<64) (w:World):(Instr.sliceAt 268 (.pointer (some ⟨B,0,none⟩)) (some (.int .i64 (i:Int))) none none).run Tryz.prog w= .ok (.slice (some ⟨B,i,none⟩) (64-i) (64-i)) w:=by
 have e1:Tryz.prog.arrayLen 268=64:=by kernel_rfl
 have e2:Tryz.prog.elem 268=5:=by kernel_rfl
 have e3:(sizeOf 5).run Tryz.prog w= .ok 1 w:=by kernel_rfl
 rw [run_sliceAt_array_l w 268 _ (by rw [e1,e2];exact Tryz.underlying268) _ _ (by omega) (by rw [e1];omega),e1,e2,e3]
 simp only [Result.andThen,slicedAt,Int.toNat_natCast,Nat.mul_one]
 rw [if_neg (by omega)]
 unfold Addr.add
 split
 ·rename_i h;subst h;rfl
 ·simp
theorem formatUint (n:Nat) (hn:n<18446744073709551616) (w:World):
  Calls Tryz.prog 122 #[.int .u64 (n:Int),.int .i64 10] w fun e w'=>e= .returned (.string ⟨(dec n).toArray⟩)∧Fr [] w w':=by
 replace hn:=Hz hn
 go_enter Tryz.func122,Tryz.ntmps122
 go_wp2
 go_loopw [0,6] (fun v0 v6 wr=>FU w n v0 v6 wr) (fun v0 v6 _=>(intOf v6).toNat)
 case atStart=>
  refine ⟨n,64,[],_,rfl,rfl,by simp,?_,by omega,Nat.le_refl _,?_,blk_new _ _,by rfl,by simp,(Fr.refl _ _).alloc _⟩
  ·have:=hn.out;omega
  ·unfold Left;simp
 case round=>
  obtain ⟨m,i,tail,cs,rfl,rfl,hi,hp,h44,hle,hL,hb,hs,hc,hf⟩:=hrel
  replace hi:=Hz hi
  replace hp:=Hz hp
  replace hb:=Hz hb
  replace hs:=Hz hs
  replace hc:=Hz hc
  have hi64:i≤64:=by have:=hi.out;omega
  by_cases hz:i=64∨m≠0
  ·have h45:45≤i:=by
    rcases hz with hz|hz
    ·omega
    ·have:=hp.out
     by_cases h:i=44
     ·subst h;simp at this;omega
     ·omega
   have hcell: ∃u,wr.cell? ⟨w.heap.size,i-1,none⟩=some u:=by
    rw [cell_blk hb.out]
    exact ⟨_,Array.getElem?_eq_getElem (by rw [hs.out];omega)⟩
   obtain ⟨u,hcell⟩:=hcell
   have hfr:wr.frozen? ⟨w.heap.size,i-1,none⟩=false:=frozen_blk hb.out _
   have step:=fu_step hi.out hp.out h44 hle hn.out hL hb.out hs.out hc.out hf h45 hz _ (congrArg (fun z:Nat=>(z:Int)) (digit_at ⟨m%10,by omega⟩))
   have i36:(m:Int)%10<36:=by omega
   replace step:=Hz step
   replace hL:=Hz hL
   by_cases h64:i=64
   ·have g1:((i:Int)==64)=true:=by simp;omega
    clear hz h64
    go_wp2
    go_roundw
    case rel=>exact step.out
    case measure=>simp [intOf];omega
   ·have g1:((i:Int)==64)=false:=by simp;omega
    have hm0:m≠0:=hz.resolve_left h64
    have g2:0<m:=by omega
    clear hz h64 hm0
    go_wp2
    go_roundw
    case rel=>exact step.out
    case measure=>simp [intOf];omega
  ·have h64:i≠64:=fun e=>hz (.inl e)
   have hm:m=0:=by
    by_cases h:m=0
    ·exact h
    ·exact absurd (.inr h) hz
   have g1:((i:Int)==64)=false:=by simp;omega
   have g2: ¬0<m:=by omega
   have hsl:=slice64 w.heap.size i (by omega) wr
   unfold Left at hL
   rw [if_neg h64,if_pos hm] at hL
   clear hz hm h64
   have hrd:Rd wr w.heap.size i tail:=fun j hj=>by rw [cell_blk hb.out];exact hc.out j hj
   have hcv:=toStr hrd (64-i)
   have hl:tail.length=64-i:=by have:=hi.out;omega
   rw [hl,hL] at hcv
   replace hl:=Hz hl
   replace hL:=Hz hL
   clear hrd
   have i44: ¬i=64:=fun e=>by simp [e] at g1
   go_wp2
   go_ret
   exact ⟨rfl,hf⟩
theorem mk_append (a b:List UInt8):(⟨a.toArray⟩:ByteArray)++⟨b.toArray⟩=⟨(a++b).toArray⟩:=by
 apply ByteArray.ext
 simp
theorem dec_length (n:Nat) (k:Nat) (h:n<10^k) (hk:1≤k):(dec n).length≤k:=by
 induction k generalizing n with
 |zero=>omega
 |succ k ih=>
  by_cases h10:n<10
  ·rw [dec_lt n h10];simp
  ·rw [dec_ge n h10]
   rw [Nat.pow_succ] at h
   rcases k with _|k
   ·simp at h;omega
   ·have:=ih (n/10) (by omega) (by omega)
    simp;omega
def itoa (n:Int):List UInt8:=if n<0 then 45::dec n.natAbs else dec n.natAbs
theorem formatInt_pos (n:Nat) (hn:n<9223372036854775808) (w:World):
  Calls Tryz.prog 128 #[.int .i64 (n:Int),.int .i64 10] w fun e w'=>e= .returned (.string ⟨(dec n).toArray⟩)∧Fr [] w w':=by
 have K:=Hz (formatUint n (by omega))
 have g:n≤9223372036854775807:=by omega
 clear hn
 go_enter Tryz.func128,Tryz.ntmps128
 go_wp2_with fail
 refine (K.out _).mono ?_
 rintro e w' ⟨rfl,hf⟩
 go_wp2
 go_ret
 exact ⟨rfl,hf⟩
theorem formatInt_neg (n:Nat) (h0:0<n) (hn:n≤9223372036854775808) (w:World):
  Calls Tryz.prog 128 #[.int .i64 (-(n:Int)),.int .i64 10] w fun e w'=>e= .returned (.string ⟨(45::dec n).toArray⟩)∧Fr [] w w':=by
 have K:=Hz (formatUint n (by omega))
 have hl:=dec_length n 19 (by omega) (by omega)
 have g1: -(n:Int)<0:=by omega
 have hw:IntKind.u64.wrap (-IntKind.u64.wrap (-(n:Int)))=(n:Int):=by
  simp only [IntKind.wrap,IntKind.bits,IntKind.signed];simp;omega
 clear hn
 go_enter Tryz.func128,Tryz.ntmps128
 go_wp2_with fail
 refine (K.out _).mono ?_
 rintro e w' ⟨rfl,hf⟩
 go_wp2
 go_ret
 exact ⟨rfl,hf⟩
theorem formatInt (n:Int) (h1: -9223372036854775808≤n) (h2:n<9223372036854775808) (w:World):
  Calls Tryz.prog 128 #[.int .i64 n,.int .i64 10] w fun e w'=>e= .returned (.string ⟨(itoa n).toArray⟩)∧Fr [] w w':=by
 by_cases h:n<0
 ·have e:n= -((n.natAbs:Nat):Int):=by omega
  have hi:itoa n=45::dec n.natAbs:=by unfold itoa;rw [if_pos h]
  rw [hi]
  generalize n.natAbs=k at *
  subst e
  exact formatInt_neg k (by omega) (by omega) w
 ·have e:n=((n.natAbs:Nat):Int):=by omega
  have hi:itoa n=dec n.natAbs:=by unfold itoa;rw [if_neg h]
  rw [hi]
  generalize n.natAbs=k at *
  subst e
  exact formatInt_pos k (by omega) w
theorem itoa_length (n:Int) (h1: -9223372036854775808≤n) (h2:n<9223372036854775808):(itoa n).length≤20:=by
 have:=dec_length n.natAbs 19 (by omega) (by omega)
 unfold itoa
 split
 ·simp;omega
 ·omega
theorem itoa_any (n:Int) (h1: -9223372036854775808≤n) (h2:n<9223372036854775808) (w:World):
  Calls Tryz.prog 116 #[.int .i64 n] w fun e w'=>e= .returned (.string ⟨(itoa n).toArray⟩)∧Fr [] w w':=by
 have K:=Hz (formatInt n h1 h2)
 clear h1 h2
 go_enter Tryz.func116,Tryz.ntmps116
 go_wp2_with fail
 refine (K.out _).mono ?_
 rintro e w' ⟨rfl,hf⟩
 go_wp2
 go_ret
 exact ⟨rfl,hf⟩
theorem typeName (m:Nat) (hm:m<8) (w:World):
  Calls Tryz.prog 134 #[.int .u8 ((m*32:Nat):Int)] w fun e w'=> ∃s:ByteArray,e= .returned (.string s)∧s.size≤20∧w'=w:=by
 have h8:m=0∨m=1∨m=2∨m=3∨m=4∨m=5∨m=6∨m=7:=by omega
 rcases h8 with rfl|rfl|rfl|rfl|rfl|rfl|rfl|rfl
 all_goals
  go_enter Tryz.func134,Tryz.ntmps134
  go_wp2
  go_ret
  refine ⟨_,rfl,?_,rfl⟩
  decide
end
end Go.Proofs.YteodinhkhhaafaaGreatDoor
