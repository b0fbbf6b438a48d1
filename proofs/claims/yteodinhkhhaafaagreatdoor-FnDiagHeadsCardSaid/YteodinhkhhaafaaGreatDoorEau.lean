/- Walks of the program, and plain facts. -/
import Derived.Test.YteodinhkhhaafaaGreatDoorEat
import Derived.Test.YteodinhkhhaafaaGreatDoorEam
set_option linter.unusedVariables false
set_option linter.unusedSimpArgs false
set_option maxRecDepth 100000
set_option maxHeartbeats 6400000
namespace Go.Proofs.YteodinhkhhaafaaGreatDoor
section
set_option exponentiation.threshold 3000
open Go.RowKit
def dg (n:Nat):List Nat:=(dec n).map (fun b=>b.toNat-48)
theorem dg_lt {n:Nat} (h:n<10):dg n=[n]:=by
 have:(48+n).toUInt8.toNat=48+n:=by simp;omega
 unfold dg;rw [dec_lt n h];simp only [List.map_cons,List.map_nil,this];simp
theorem dg_ge {n:Nat} (h: ¬n<10):dg n=dg (n/10)++[n%10]:=by
 have:(48+n%10).toUInt8.toNat=48+n%10:=by simp;omega
 unfold dg;rw [dec_ge n h];simp only [List.map_append,List.map_cons,List.map_nil,this];simp
theorem dg_len (n:Nat):(dg n).length=(dec n).length:=by unfold dg;simp
theorem dg_ne (n:Nat):dg n≠[]:=fun e=>dec_ne n (List.eq_nil_of_length_eq_zero (by rw [←dg_len,e];rfl))
theorem dg_spec: ∀(k n:Nat),n≤k→(∀x,x∈dg n→x<10)∧dv (dg n)=n∧(0<n→ ∀x l,dg n=x::l→x≠0):=by
 intro k
 induction k with
 |zero=>
  intro n hn;have:n=0:=by omega
  subst this;rw [dg_lt (by omega)]
  exact ⟨by simp,rfl,fun h=>by omega⟩
 |succ k ih=>
  intro n hn;by_cases h:n<10
  ·rw [dg_lt h];exact ⟨by simpa using h,by simp [dv],fun h0 x l e=>by injection e with e _;omega⟩
  ·obtain ⟨a,b,c⟩:=ih (n/10) (by omega)
   rw [dg_ge h];refine ⟨fun x hx=> ?_,by rw [dv_snoc,b];omega,fun h0 x l e=> ?_⟩
   ·rcases List.mem_append.1 hx with hx|hx
    ·exact a x hx
    ·rw [List.mem_singleton.1 hx];omega
   ·cases hd:dg (n/10) with
    |nil=>exact absurd hd (dg_ne _)
    |cons y m=>
     rw [hd] at e;injection e with e _
     exact e▸c (by omega) y m hd
theorem dec_dgt: ∀(k n:Nat),n≤k→ ∀b,b∈dec n→48≤b.toNat:=by
 intro k
 induction k with
 |zero=>
  intro n hn b hb;rw [dec_lt n (by omega),List.mem_singleton] at hb
  rw [hb];simp;omega
 |succ k ih=>
  intro n hn b hb;by_cases h:n<10
  ·rw [dec_lt n h,List.mem_singleton] at hb;rw [hb];simp;omega
  ·rw [dec_ge n h] at hb;rcases List.mem_append.1 hb with hb|hb
   ·exact ih (n/10) (by omega) b hb
   ·rw [List.mem_singleton.1 hb];simp;omega
theorem dec_at (n i:Nat) (h:i<(dec n).length):((dec n)[i]).toNat=48+dgt (dg n) i:=by
 have h1:=dec_dgt n n (Nat.le_refl _) _ (List.getElem_mem h);have h2:dgt (dg n) i=(dec n)[i].toNat-48:=by
  unfold dgt dg;rw [List.getD,List.getElem?_map,List.getElem?_eq_getElem h]
  rfl
 omega
def NewP (w:World) (n:Nat) (e:Ending) (w':World):Prop:=
 ∃q d dp,e= .returned (.pointer (some ⟨q,0,none⟩))∧DecP w' q d dp∧NormD d dp∧dV d dp=n*10^1100∧d.length≤20∧(d.length:Int)≤dp∧dp≤20∧w.heap.size≤q∧Fr [] w w'
theorem new_norm (n:Nat) (hn:n<18446744073709551616):NormD (normD (dg n) (dg n).length).1 (normD (dg n) (dg n).length).2∧dV (normD (dg n) (dg n).length).1 (normD (dg n) (dg n).length).2=n*10^1100∧(normD (dg n) (dg n).length).1.length≤20∧((normD (dg n) (dg n).length).1.length:Int)≤(normD (dg n) (dg n).length).2∧(normD (dg n) (dg n).length).2≤20:=by
 have hl:=dec_length n 20 (by omega) (by omega)
 rw [←dg_len] at hl;obtain ⟨h1,h2,h3⟩:=dg_spec n n (Nat.le_refl _);rcases Nat.eq_zero_or_pos n with rfl|h0
 ·rw [dg_lt (by omega)]
  have e:normD [0] (([0]:List Nat).length:Int)=([],0):=by decide
  rw [e];refine ⟨⟨by simp,fun _=>rfl,by simp,by simp⟩,?_,by simp,by simp,by simp⟩
  unfold dV;rw [dv_nil,Nat.zero_mul,Nat.zero_mul]
 ·obtain ⟨g1,g2,g3,g4⟩:=trim_norm (d:=dg n) (dp:=((dg n).length:Int)) h1 (h3 h0) (by omega)
  have g5:=g4 (dg_ne n);refine ⟨g1,?_,by omega,by rw [g5];omega,by rw [g5];omega⟩
  rw [g2];unfold dV;rw [h2,show (((dg n).length:Int)-((dg n).length:Int)+1100).toNat=1100 by omega]
theorem newD (w:World) (n:Nat) (hn:n<18446744073709551616):Calls Tryz.prog 209 #[.int .u64 (n:Int)] w (NewP w n):=by
 have hlen:=dec_length n 20 (by omega) (by omega)
 have hNN:=Hz (new_norm n hn);have hlt:=Hz (dg_spec n n (Nat.le_refl _)).1;have hat:=Hz (dec_at n);have hdl:=Hz (dg_len n);have KF:=Hz (formatUint n hn);clear hn;go_enter Tryz.func209,Tryz.ntmps209
 go_wp2_with fail
 refine (KF.out _).mono ?_
 rintro e w1 ⟨rfl,hf1⟩;have hb1:=hf1.blk (blk_new w (.cells #[.slice none 0 0,.int .i64 0] 330 (0,0))) (by simp)
 have hFa:Fr [] w w1:=((Fr.refl [] w).alloc _).trans hf1;obtain ⟨c,w2,hconv,hrd,hcap,hsz,hf2⟩:=toBytes w1 (dec n);have hb2:=hf2.blk hb1 (by simp)
 have hq1:=blk_lt' hb1;have hFb:=hFa.trans hf2;have hq2:=blk_lt' hb2;replace hrd:=Hz hrd;replace hb1:=Hz hb1;replace hb2:=Hz hb2;go_wp2
 go_loopg [5,10] (dec n).length (fun gk v5 v10 wr=> ∃(i:Nat) (ao:Option Addr) (m c1:Nat),v10= .int .i64 (i:Int)∧i+gk=(dec n).length∧Hid (wr.heap[w.heap.size]? =some (.cells #[.slice ao m c1,.int .i64 0] 330 (0,0)))∧Hid (Row wr w2.heap.size (.slice ao m c1) (bt ((dg n).take i)))∧Hid (Fr [w.heap.size] w2 wr))
 case atStart=>exact ⟨0,none,0,0,by go_num,by omega,hb2,Hz (Row.nil _ _),Hz (Fr.refl _ _)⟩
 case round=>
  obtain ⟨i,ao,m,c1,rfl,hig,hbk,hrow,hF⟩:=hrel;have c0:=cell_blk hbk.out 0;have c1':=cell_blk hbk.out 1;have f0:=frozen_blk hbk.out 0;have f1:=frozen_blk hbk.out 1;have hm:m=((dg n).take i).length:=by
   rcases hrow.out.2 with ⟨hv,h0⟩|⟨g,cap,cur,hv,_⟩
   ·injection hv with _ e _;rw [bt_length] at h0;omega
   ·injection hv with _ e _;rw [bt_length] at e;exact e
  simp only [List.getElem?_toArray,List.getElem?_cons_zero,List.getElem?_cons_succ] at c0 c1';have hsz2:=hF.out.size;by_cases hi:i<(dec n).length
  ·obtain ⟨g,rfl⟩: ∃g,gk=g+1:=⟨gk-1,by omega⟩
   have t1:decide ((i:Int)<((dec n).length:Int))=true:=by simp;omega
   have t2:(i:Int)<((dec n).length:Int):=by omega
   have hx0:=hF.out.cell (hrd.out i hi) (by simp;omega)
   rw [hat.out i hi,Nat.zero_add] at hx0;have hx10:dgt (dg n) i<10:=by
    have:=dgt_le hlt.out i;omega
   have htk:Hid (bt ((dg n).take i)++[UInt8.ofNat (dgt (dg n) i)]=bt ((dg n).take (i+1))):=Hz (by
    have h1:i<(dg n).length:=by have:=hdl.out;omega
    rw [List.take_add_one,List.getElem?_eq_getElem h1];have h2:dgt (dg n) i=(dg n)[i]:=by unfold dgt;rw [List.getD,List.getElem?_eq_getElem h1];rfl
    rw [h2]
    show _=bt (_++[_])
    rw [bt_snoc])
   generalize hx:dgt (dg n) i=x at *
   replace hx:=Hz hx;have s1:IntKind.u8.wrap (48+(x:Int)-48)=(x:Int):=by rw [IntWalk.u8_in _ (by omega)];omega
   have hof:Hid ((UInt8.ofNat x).toNat=x):=Hz (by simp;omega)
   have hl1:(bt ((dg n).take i)).length+1≤140737488355328:=by rw [bt_length];simp;omega
   replace hl1:=Hz hl1;clear hm;go_wp2_with (at_builtin;refine wpList_apRow rfl _ _ rfl (B:=w2.heap.size) _ (bt ((dg n).take i)) [UInt8.ofNat x] wr.heap.size 0 1 rfl rfl (rd_new (w:=wr) rfl (by simp only [enc,List.map_cons,List.map_nil];rw [hof.out])) (hrow.out.push rfl) (by simp;omega) hl1.out ?_)
   intro v' w' hr' hg;rw [htk.out] at hr';obtain ⟨ao',n',c',rfl⟩:=hr'.shape;have hb3:w'.heap[w.heap.size]? =some (.cells #[.slice ao m c1,.int .i64 0] 330 (0,0)):=(hg.block w.heap.size (by have:=blk_lt' hbk.out;simp;omega) (hrow.out.ne hq2)).trans (blk_alloc hbk.out _)
   have hF3:Fr [w.heap.size] w2 w':=Fr.grown (hF.out.alloc _) hg (fun k hk=> .inr (World.ownsRow.lt hrow.out k hk).1)
   have c03:=cell_blk hb3 0;have f03:=frozen_blk hb3 0;simp only [List.getElem?_toArray,List.getElem?_cons_zero] at c03;have hF4:Fr [w.heap.size] w2 (w'.setCell ⟨w.heap.size,0,none⟩ (.slice ao' n' c')):=hF3.setCell (.inl (by simp)) _
   have hr4:=hr'.fr ((Fr.refl [w.heap.size] w').setCell (p:=⟨w.heap.size,0,none⟩) (.inl (by simp)) (.slice ao' n' c')) (by simpa using hq2)
   have hb4:(w'.setCell ⟨w.heap.size,0,none⟩ (.slice ao' n' c')).heap[w.heap.size]? =some (.cells #[.slice ao' n' c',.int .i64 0] 330 (0,0)):=by rw [blk_setCell hb3 0 _];rfl
   replace hF4:=Hz hF4;replace hr4:=Hz hr4;replace hb4:=Hz hb4;replace hb3:=Hz hb3;go_wp2
   go_roundg g
   case measure=>omega
   case rel=>exact ⟨i+1,ao',n',c',by go_num,by omega,hb4,hr4,hF4⟩
  ·have t1:decide ((i:Int)<((dec n).length:Int))=false:=by simp;omega
   have t2: ¬(i:Int)<((dec n).length:Int):=by omega
   have hmm:m=(dg n).length:=by rw [hm,List.take_of_length_le (by have:=hdl.out;omega)]
   have htt:(dg n).take i=dg n:=List.take_of_length_le (by have:=hdl.out;omega)
   rw [htt] at hrow;clear hm;subst hmm;have hdl20:(dg n).length≤20:=by have:=hdl.out;omega
   have KT:=Hz (fun (W:World) (hD:DecP W w.heap.size (dg n) (dg n).length)=>trim hD hlt.out (by omega))
   have hb4:Hid ((wr.setCell ⟨w.heap.size,1,none⟩ (.int .i64 ((dg n).length:Int))).heap[w.heap.size]? =some (.cells #[.slice ao (dg n).length c1,.int .i64 ((dg n).length:Int)] 330 (0,0))):=Hz (by rw [blk_setCell hbk.out 1 _];rfl)
   have hDD:Hid (DecP (wr.setCell ⟨w.heap.size,1,none⟩ (.int .i64 ((dg n).length:Int))) w.heap.size (dg n) (dg n).length):=Hz (by
    refine ⟨_,hb4.out,(hrow.out.dsrc hq2).fr ((Fr.refl [w.heap.size] wr).setCell (p:=⟨w.heap.size,1,none⟩) (.inl (by simp)) _) (by simp)⟩)
   go_wp2_with fail
   refine (KT.out _ hDD.out).mono ?_
   rintro e w5 ⟨rfl,hD5,hf5⟩;go_wp2;go_ret
   obtain ⟨n1,n2,n3,n4,n5⟩:=hNN.out;exact ⟨_,_,_,rfl,hD5,n1,n2,n3,n4,n5,Nat.le_refl _,((hFb.then_ hF.out (by simp)).setCell (.inr (Nat.le_refl _)) _).then_ hf5 (by simp)⟩
end
section
set_option exponentiation.threshold 3000
open Go.RowKit
def fracD (n k:Nat):List Nat×Int:=if n=0 then ([],0) else normD (dg n) ((dg n).length-(k:Int))
def digs (m:Nat) (e:Int):List Nat×Int:=if 0≤e then fracD (m*2^e.toNat) 0 else fracD (m*5^(-e).toNat) (-e).toNat
theorem frac_spec (n k:Nat) (hk:k≤1100):NormD (fracD n k).1 (fracD n k).2∧dV (fracD n k).1 (fracD n k).2=n*10^(1100-k)∧ -1100≤(fracD n k).2-(fracD n k).1.length:=by
 unfold fracD;by_cases h0:n=0
 ·rw [if_pos h0,h0];refine ⟨⟨by simp,fun _=>rfl,by simp,by simp⟩,?_,by simp⟩
  unfold dV;rw [dv_nil,Nat.zero_mul,Nat.zero_mul]
 ·rw [if_neg h0];obtain ⟨h1,h2,h3⟩:=dg_spec n n (Nat.le_refl _);obtain ⟨g1,g2,g3,g4⟩:=trim_norm (d:=dg n) (dp:=((dg n).length:Int)-(k:Int)) h1 (h3 (by omega)) (by omega)
  have g5:=g4 (dg_ne n);refine ⟨g1,?_,by rw [g5];omega⟩
  rw [g2];unfold dV;rw [h2,show (((dg n).length:Int)-(k:Int)-((dg n).length:Int)+1100).toNat=1100-k by omega]
theorem digs_up {m k:Nat} {d:List Nat} {dp:Int} (h:NormD d dp) (la: -1100≤dp-d.length) (hv:dV d dp=m*10^1100*2^k):(d,dp)=digs m (k:Int):=by
 unfold digs;rw [if_pos (by omega),Int.toNat_natCast]
 obtain ⟨g1,g2,g3⟩:=frac_spec (m*2^k) 0 (by omega)
 obtain ⟨e1,e2⟩:=norm_inj h g1 la g3 (by rw [g2,hv,Nat.sub_zero,Nat.mul_right_comm])
 exact Prod.ext e1 e2
theorem digs_dn {m k:Nat} {d:List Nat} {dp:Int} (hk0:0<k) (hk:k≤1100) (h:NormD d dp) (la: -1100≤dp-d.length) (hv:dV d dp*2^k=m*10^1100):(d,dp)=digs m (-(k:Int)):=by
 unfold digs;rw [if_neg (by omega),show (- -(k:Int)).toNat=k by omega]
 obtain ⟨g1,g2,g3⟩:=frac_spec (m*5^k) k hk;have h10:10^1100=5^k*2^k*10^(1100-k):=by
  rw [←Nat.mul_pow,←Nat.pow_add,show k+(1100-k)=1100 by omega]
 have hv2:dV d dp=m*5^k*10^(1100-k):=by
  have hp:0<2^k:=Nat.pow_pos (by omega)
  apply Nat.eq_of_mul_eq_mul_right hp
  rw [hv,h10];generalize 5^k=a;generalize 2^k=b;generalize 10^(1100-k)=c;rw [Nat.mul_assoc,Nat.mul_assoc,Nat.mul_assoc,Nat.mul_comm b c]
 obtain ⟨e1,e2⟩:=norm_inj h g1 la g3 (by rw [g2,hv2])
 exact Prod.ext e1 e2
structure DigB (m:Nat) (e:Int) (r:List Nat×Int):Prop where
 norm:NormD r.1 r.2
 la: -1100≤r.2-r.1.length
 len:r.1.length≤2000
 hi:r.2≤1000
 lo: -2000≤r.2
theorem shiftD {w:World} {q m:Nat} {d:List Nat} {dp:Int} (hD:DecP w q d dp) (hN:NormD d dp) (hv:dV d dp=m*10^1100) (hl:d.length≤20) (hlo:(d.length:Int)≤dp) (hhi:dp≤20) (e:Int) (h1: -1090≤e) (h2:e≤1200):
  Calls Tryz.prog 210 #[.pointer (some ⟨q,0,none⟩),.int .i64 e] w fun en w'=> ∃u,en= .returned u∧DecP w' q (digs m e).1 (digs m e).2∧DigB m e (digs m e)∧Fr [q] w w':=by
 by_cases he:0≤e
 ·obtain ⟨k,rfl⟩: ∃k:Nat,e=(k:Int):=⟨e.toNat,by omega⟩
  refine (shift_up hD hN (by omega) (by omega) (by omega) (by omega)).mono ?_
  rintro en w1 ⟨d',dp',u,rfl,hD1,⟨c,hc,hU⟩,hF⟩;have hla: -1100≤dp'-d'.length:=by
   by_cases hd:d=[]
   ·rw [hU.nil hd,hU.norm.nil (hU.nil hd)];simp
   ·have:=hU.lo hd;omega
  have E:=digs_up (m:=m) (k:=k) hU.norm hla (by rw [hU.val,hv])
  rw [←E];refine ⟨u,rfl,hD1,⟨hU.norm,hla,?_,?_,?_⟩,hF⟩
  ·have:=hU.len;show d'.length≤2000;omega
  ·have:=hU.dhi;show dp'≤1000;omega
  ·show-2000≤dp'
   by_cases hd:d=[]
   ·rw [hU.norm.nil (hU.nil hd)];omega
   ·have:=hU.dlo hd;omega
 ·obtain ⟨k,rfl⟩: ∃k:Nat,e= -(k:Int):=⟨(-e).toNat,by omega⟩
  refine (shift_dn hD hN (by omega) (by omega) (by omega) (by omega) (by omega)).mono ?_
  rintro en w1 ⟨d',dp',u,rfl,hD1,⟨c,hc,hU⟩,hF⟩;have hla: -1100≤dp'-d'.length:=by
   by_cases hd:d=[]
   ·rw [hU.nil hd,hU.norm.nil (hU.nil hd)];simp
   ·have:=hU.lo hd;omega
  have E:=digs_dn (m:=m) (k:=k) (by omega) (by omega) hU.norm hla (by rw [←hU.val,hv])
  rw [←E];refine ⟨u,rfl,hD1,⟨hU.norm,hla,?_,?_,?_⟩,hF⟩
  ·have:=hU.len;show d'.length≤2000;omega
  ·show dp'≤1000
   by_cases hd:d=[]
   ·rw [hU.norm.nil (hU.nil hd)];omega
   ·have:=hU.dhi hd;omega
  ·show-2000≤dp'
   by_cases hd:d=[]
   ·rw [hU.norm.nil (hU.nil hd)];omega
   ·have:=hU.dlo hd;omega
end
end Go.Proofs.YteodinhkhhaafaaGreatDoor
