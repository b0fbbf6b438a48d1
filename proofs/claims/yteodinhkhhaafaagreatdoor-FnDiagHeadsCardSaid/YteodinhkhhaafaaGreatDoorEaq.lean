/- Walks of the program, and plain facts. -/
import Derived.Test.YteodinhkhhaafaaGreatDoorEap
set_option linter.unusedVariables false
set_option linter.unusedSimpArgs false
set_option maxRecDepth 100000
set_option maxHeartbeats 6400000
namespace Go.Proofs.YteodinhkhhaafaaGreatDoor
section
open Go.RowKit
theorem half_a {d:List Nat} {n i k:Nat} (hd: ∀x,x∈d→x<10) (hh: ∀x l,d=x::l→x≠0) (hne:d≠[]) (hn:n=pre d i) (h1:i=0∨2^(i-1)≤n) (hk:n<2^k):
  n*10+dgt d i=pre d (i+1)∧2^i≤n*10+dgt d i∧n*10+dgt d i<10*2^k∧i≤k:=by
 have hx:=dgt_le hd i;refine ⟨by rw [pre_succ,hn],?_,by omega,?_⟩
 ·rcases h1 with rfl|h1
  ·cases d with
   |nil=>exact absurd rfl hne
   |cons x l=>
    have:=hh x l rfl;have e:dgt (x::l) 0=x:=rfl;rw [e];simp;omega
  ·by_cases h0:i=0
   ·subst h0;cases d with
    |nil=>exact absurd rfl hne
    |cons x l=>
     have:=hh x l rfl;have e:dgt (x::l) 0=x:=rfl;rw [e];simp;omega
   ·have e:2^i=2^(i-1)*2:=by rw [←Nat.pow_succ];congr 1;omega
    omega
 ·rcases h1 with rfl|h1
  ·omega
  ·by_cases h0:i=0
   ·omega
   ·have:i-1<k:=(Nat.pow_lt_pow_iff_right (by omega)).1 (Nat.lt_of_le_of_lt h1 hk)
    omega
theorem dgt_out {d:List Nat} {i:Nat} (h:d.length≤i):dgt d i=0:=by
 unfold dgt;rw [List.getD_eq_getElem?_getD,List.getElem?_eq_none h];rfl
structure HalfI (d:List Nat) (k i0 n i:Nat) (out:List Nat):Prop where
 pr:pre d i=10*2^k*dv out+n
 lt:n<10*2^k
 len:out.length+i0=i
 dig: ∀x,x∈out→x<10
 emp:out=[]→2^k≤n
 hd: ∀x l,out=x::l→x≠0
 dvd:d.length≤i→2^(i-d.length)∣n
 le:i≤d.length+k+1
 fin:d.length+k+1≤i→n=0
theorem half_b {d:List Nat} {k i0 n i:Nat} {out:List Nat} (hd: ∀x,x∈d→x<10) (h:HalfI d k i0 n i out) (hgo:i<d.length∨0<n):
  n/2^k<10∧n%2^k*10+dgt d i<10*2^k∧n%2^k<2^k∧i<d.length+k+1∧HalfI d k i0 (n%2^k*10+dgt d i) (i+1) (out++[n/2^k]):=by
 have hp:0<2^k:=Nat.pow_pos (by omega)
 have hx:=dgt_le hd i;have hm:=Nat.mod_lt n hp;have hdm:=Nat.div_add_mod n (2^k);have h10:n/2^k<10:=Nat.div_lt_of_lt_mul (by have:=h.lt;rwa [Nat.mul_comm] at this)
 have hi:i<d.length+k+1:=by
  by_cases e:d.length+k+1≤i
  ·have:=h.fin e;omega
  ·omega
 have hz:d.length+k≤i→n%2^k=0:=fun e=>by
  have h1:=h.dvd (by omega)
  have h2:2^k∣n:=Nat.dvd_trans (Nat.pow_dvd_pow 2 (by omega)) h1
  exact Nat.mod_eq_zero_of_dvd h2
 refine ⟨h10,by omega,hm,hi,⟨?_,by omega,by rw [List.length_append,List.length_singleton];have:=h.len;omega,?_,by simp,?_,?_,by omega,?_⟩⟩
 ·rw [pre_succ,h.pr,dv_snoc];generalize 2^k=P at *
  generalize n/P=q at *
  generalize n%P=r at *
  rw [Nat.mul_add,Nat.add_mul,←Nat.mul_assoc (10*P),←hdm,Nat.add_mul,Nat.mul_comm P q,Nat.mul_right_comm q P 10,Nat.mul_comm (10*P) q,Nat.mul_comm 10 P,←Nat.mul_assoc q P 10,Nat.mul_right_comm q P 10];omega
 ·intro x hx;rcases List.mem_append.1 hx with h1|h1
  ·exact h.dig x h1
  ·simp at h1;omega
 ·intro x l e;cases ho:out with
  |nil=>
   rw [ho] at e;simp at e;have h1:=h.emp ho;have:=Nat.div_pos h1 hp;omega
  |cons y m=>
   rw [ho] at e;simp at e;exact e.1▸h.hd y m ho
 ·intro e;by_cases he:d.length≤i
  ·rw [dgt_out he,Nat.add_zero,show i+1-d.length=(i-d.length)+1 by omega,Nat.pow_succ]
   by_cases hk:d.length+k≤i
   ·rw [hz hk];simp
   ·have h1:2^(i-d.length)∣n%2^k:=(Nat.dvd_mod_iff (Nat.pow_dvd_pow 2 (by omega))).2 (h.dvd he)
    exact Nat.mul_dvd_mul h1 (by decide)
  ·rw [show i+1-d.length=0 by omega];simp
 ·intro e;rw [hz (by omega),dgt_out (by omega)]
theorem pow2_10: ∀m:Nat,2^m∣10^m
 |0=>Nat.dvd_refl _
 |m+1=>by rw [Nat.pow_succ,Nat.pow_succ];exact Nat.mul_dvd_mul (pow2_10 m) (by decide)
theorem mask_w59 (n:Nat) (h:n≤59):IntKind.u64.wrap (IntKind.u64.wrap (2^n)-1)=((2^n-1:Nat):Int):=by
 have hp:=Nat.pow_le_pow_right (n:=2) (by omega) h
 have h1:1≤2^n:=Nat.pow_pos (by omega)
 rw [pow_int,wrap64_lt _ (by omega),show ((2^n:Nat):Int)-1=((2^n-1:Nat):Int) by omega,wrap64_lt _ (by omega)]
theorem and_mask59 (A n:Nat) (hA:A<18446744073709551616) (h:n≤59):bits .and .u64 (A:Int) (IntKind.u64.wrap (IntKind.u64.wrap (2^n)-1))=((A%2^n:Nat):Int):=by
 have hp:=Nat.pow_le_pow_right (n:=2) (by omega) h
 rw [mask_w59 n h,u64_and_nat _ _ hA (by omega),Nat.and_two_pow_sub_one_eq_mod]
theorem bt_snoc (d:List Nat) (x:Nat):bt (d++[x])=bt d++[UInt8.ofNat x]:=by simp [bt]
theorem DSrc.at_ {w:World} {p:Nat} {v:Value} {d:List Nat} (h:DSrc w p v d) (hd: ∀x,x∈d→x<10) (hne:d≠[]): ∃b off c,v= .slice (some ⟨b,off,none⟩) d.length c∧b≠p∧ ∀i,i<d.length→w.cell? ⟨b,off+i,none⟩=some (.int .u8 (dgt d i:Int)):=by
 rcases h with ⟨h,_⟩|⟨b,off,c,hv,h1,h2,h3,h4⟩
 ·exact absurd h hne
 ·refine ⟨b,off,c,hv,h2,fun i hi=> ?_⟩
  have:=h4 i (by rw [bt_length];exact hi)
  rwa [bt_get hd i hi] at this
structure HalfP (d:List Nat) (dp:Int) (k:Nat) (d':List Nat) (dp':Int):Prop where
 norm:NormD d' dp'
 val:dV d dp=dV d' dp'*2^k
 lo:dp-d.length-k≤dp'-d'.length
 len:d'.length≤d.length+k+1
 dlo:dp-k-1≤dp'
 dhi:dp'≤dp
theorem half {w:World} {p:Nat} {d:List Nat} {dp:Int} {k:Nat} (h:DecP w p d dp) (hN:NormD d dp) (hne:d≠[]) (hk1:1≤k) (hk:k≤59) (hl:d.length≤100000) (hlo: -1099≤dp-d.length-k) (hhi:dp≤100000):
  Calls Tryz.prog 217 #[.pointer (some ⟨p,0,none⟩),.int .i64 (k:Int)] w fun e w'=> ∃d' dp' u,e= .returned u∧DecP w' p d' dp'∧HalfP d dp k d' dp'∧Fr [p] w w':=by
 have hp59:=Nat.pow_le_pow_right (n:=2) (by omega) hk
 have h59:2^59=576460752303423488:=rfl;rw [h59] at hp59;clear h59;replace hp59:=Hz hp59;obtain ⟨v,hb,hs⟩:=h;have hdl:=hb;obtain ⟨b,off,c,rfl,hbp,hcell⟩:=hs.at_ hN.lt hne;have c0:=cell_blk hb 0;have c1:=cell_blk hb 1;have f0:=frozen_blk hb 0;have f1:=frozen_blk hb 1;simp only [List.getElem?_toArray,List.getElem?_cons_zero,List.getElem?_cons_succ] at c0 c1;have hlp:0<d.length:=by cases d with|nil=>exact absurd rfl hne|cons x l=>simp
 have hdlt:=Hz hN.lt;have hdhd:=Hz hN.hd;replace hN:=Hz hN;replace hne:=Hz hne;replace hcell:=Hz hcell;replace hs:=Hz hs;go_enter Tryz.func217,Tryz.ntmps217
 go_wp2
 go_loopg [4,5] (k+2) (fun g v4 v5 wr=> ∃n i:Nat,v4= .int .u64 (n:Int)∧v5= .int .i64 (i:Int)∧i+g=k+2∧Hid (n=pre d i)∧Hid (i=0∨2^(i-1)≤n)∧Hid (n<10*2^k)∧Hid (i≤k+1)∧wr=w)
 case atStart=>exact ⟨0,0,by go_num,by go_num,by omega,Hz (pre_zero d).symm,Hz (.inl rfl),Hz (by have:0<2^k:=Nat.pow_pos (by omega);omega),Hz (by omega),rfl⟩
 case round=>
  obtain ⟨n,i,rfl,rfl,hig,hn,hi1,hn10,hik1,rfl⟩:=hrel;have hnn:n<5764607523034234880:=by have:=hn10.out;have:=hp59.out;omega
  have gsh:(n:Int)/2^k=((n/2^k:Nat):Int):=by rw [pow_int];omega
  by_cases hlt:n<2^k
  ·have e0:((n:Int)/2^k==0)=true:=by rw [gsh,Nat.div_eq_of_lt hlt];rfl
   clear gsh;obtain ⟨a1,a2,a3,a4⟩:=half_a hdlt.out hdhd.out hne.out hn.out hi1.out hlt;obtain ⟨g,rfl⟩: ∃g,gk=g+1:=⟨gk-1,by omega⟩
   replace a1:=Hz a1;replace a2:=Hz a2;replace a3:=Hz a3;have hn9:n<576460752303423488:=by have:=hp59.out;omega
   replace hlt:=Hz hlt;have hdg:=dgt_le hdlt.out i;by_cases hil:i<d.length
   ·have hx:=hcell.out i hil;have t1:decide ((d.length:Int)≤(i:Int))=false:=by simp;omega
    have t2:(i:Int)<(d.length:Int):=by omega
    go_wp2
    go_roundg g
    case measure=>omega
    case rel=>exact ⟨n*10+dgt d i,i+1,by simp,by go_num,by omega,a1,Hz (.inr a2.out),a3,Hz (by omega),rfl⟩
   ·have hi0:i≠0:=by omega
    have hn0:0<n:=by
     rcases hi1.out with h1|h1
     ·exact absurd h1 hi0
     ·have:0<2^(i-1):=Nat.pow_pos (by omega)
      omega
    have t1:decide ((d.length:Int)≤(i:Int))=true:=by simp;omega
    have t2: ¬(i:Int)<(d.length:Int):=by omega
    have e1:((n:Int)==0)=false:=by simp;omega
    have hz:dgt d i=0:=dgt_out (by omega)
    rw [hz,Nat.add_zero] at a1 a2 a3;clear hdg hz;go_wp2
    go_roundg g
    case measure=>omega
    case rel=>exact ⟨n*10,i+1,by simp,by go_num,by omega,a1,Hz (.inr a2.out),a3,Hz (by omega),rfl⟩
  ·have hge:2^k≤n:=by omega
   have hq:0<n/2^k:=Nat.div_pos hge (Nat.pow_pos (by omega))
   have e0:((n:Int)/2^k==0)=false:=by rw [gsh];simp;omega
   clear gsh hq hlt;have hi0:1≤i:=by
    rcases Nat.eq_zero_or_pos i with h0|h0
    ·have h1:=hn.out;rw [h0,pre_zero] at h1;have:0<2^k:=Nat.pow_pos (by omega)
     omega
    ·exact h0
   have hik:i≤k+1:=hik1.out;have hI:HalfI d k i n i []:=⟨by rw [dv_nil,Nat.mul_zero,Nat.zero_add];exact hn.out.symm,hn10.out,Nat.zero_add i,by simp,fun _=>hge,by simp,fun e=>by
    rw [hn.out,pre_end e];exact Nat.dvd_mul_left_of_dvd (pow2_10 _) _,by omega,fun e=>by omega⟩
   have g1: -2000000≤dp:=by omega
   have s1:IntKind.i64.wrap ((i:Int)-1)=(i:Int)-1:=IntWalk.i64_in _ (by omega)
   have s2:IntKind.i64.wrap (dp-((i:Int)-1))=dp-((i:Int)-1):=IntWalk.i64_in _ (by omega)
   have hlo':=Hz hlo;clear hlo;replace hge:=Hz hge;have hN':=hN.out;go_wp2;have hF1:Fr [p] wr (wr.setCell ⟨p,1,none⟩ (.int .i64 (dp-((i:Int)-1)))):=(Fr.refl _ _).setCell (by simp) _
   have hb1:(wr.setCell ⟨p,1,none⟩ (.int .i64 (dp-((i:Int)-1)))).heap[p]? =some (.cells #[.slice (some ⟨b,off,none⟩) d.length c,.int .i64 (dp-((i:Int)-1))] 330 (0,0)):=by
    rw [blk_setCell hb 1 _];rfl
   have hcell1:Hid (∀q,q<d.length→(wr.setCell ⟨p,1,none⟩ (.int .i64 (dp-((i:Int)-1)))).cell? ⟨b,off+q,none⟩=some (.int .u8 (dgt d q:Int))):=Hz (fun j hj=>hF1.cell (hcell.out j hj) (by simpa using hbp))
   have hpl:=blk_lt' hb1;generalize hw1:wr.setCell ⟨p,1,none⟩ (.int .i64 (dp-((i:Int)-1)))=w1 at *
   replace hw1:=Hz hw1;replace hb1:=Hz hb1;clear hb hdl c0 c1 f0 f1 hcell e0 hn hi1 hn10 hik1 hnn
   go_loopg [4,5,6] (d.length+k+1-i) (fun g v4 v5 v6 wr2=> ∃(m j:Nat) (out:List Nat),v4= .int .u64 (m:Int)∧v5= .int .i64 (j:Int)∧j+g=d.length+k+1∧Hid (HalfI d k i m j out)∧Row wr2 w1.heap.size v6 (bt out)∧Fr [] w1 wr2)
   case atStart=>exact ⟨n,i,[],rfl,rfl,by omega,Hz hI,Row.nil _ _,Fr.refl _ _⟩
   case round=>
    obtain ⟨m,j,out,rfl,rfl,hjg,hH,hrow,hF2⟩:=hrel;obtain ⟨ao,n0,c0,rfl⟩:=hrow.shape;have hb2:=hF2.blk hb1.out (by simp)
    have c0':=cell_blk hb2 0;have c1':=cell_blk hb2 1;have f0':=frozen_blk hb2 0;simp only [List.getElem?_toArray,List.getElem?_cons_zero,List.getElem?_cons_succ] at c0' c1';have hmlt:m<5764607523034234880:=by have:=hH.out.lt;have:=hp59.out;omega
    by_cases hgo:j<d.length∨0<m
    ·obtain ⟨h1,h2,h3,h4,h5⟩:=half_b hdlt.out hH.out hgo;obtain ⟨g,rfl⟩: ∃g,gk=g+1:=⟨gk-1,by omega⟩
     have hdg:=dgt_le hdlt.out j;have hm59:m%2^k<576460752303423488:=by have:=hp59.out;omega
     have gma:=and_mask59 m k (by omega) hk
     have q0:(0:Int)≤(m:Int)/2^k:=Int.ediv_nonneg (by omega) (by rw [pow_int];omega)
     have q1:(m:Int)/2^k<10:=by
      have:(m:Int)/2^k=((m/2^k:Nat):Int):=by rw [pow_int];omega
      omega
     have qw:IntKind.u8.wrap ((m:Int)/2^k)=(m:Int)/2^k:=by
      have: ∀x:Int,0≤x→x<10→IntKind.u8.wrap x=x:=fun x h1 h2=>by show x%256=x;omega
      exact this _ q0 q1
     have q2:((UInt8.ofNat (m/2^k)).toNat:Int)=(m:Int)/2^k:=by
      have:(UInt8.ofNat (m/2^k)).toNat=m/2^k:=by simp;omega
      rw [this,pow_int];omega
     have hol:out.length≤300000:=by have:=hH.out.len;omega
     have hBs:=hF2.size;generalize hz:m%2^k=z at *
     replace hz:=Hz hz;replace h5:=Hz h5;replace q2:=Hz q2;replace h2:=Hz h2;replace h3:=Hz h3;have hsn:=Hz (bt_snoc out (m/2^k));have hjl:j≤200000:=by omega
     by_cases hjd:j<d.length
     ·have hx:=hF2.cell (hcell1.out j hjd) (by simp)
      have t1:decide ((j:Int)<(d.length:Int))=true:=by simp;omega
      have t2:(j:Int)<(d.length:Int):=by omega
      clear hgo;go_wp2_with (at_builtin;refine wpList_apRow rfl _ _ rfl (B:=w1.heap.size) _ (bt out) [UInt8.ofNat (m/2^k)] wr.heap.size 0 1 rfl rfl (rd_new (w:=wr) rfl (by simp only [enc,List.map_cons,List.map_nil];rw [q2.out])) (hrow.push rfl) (by simp;omega) (by rw [bt_length];simp;omega) ?_)
      intro v' w' hr' hg;have hF3:Fr [] w1 w':=by
       refine Fr.grown ?_ hg (fun k hk=> .inr (World.ownsRow.lt hrow k hk).1)
       exact hF2.push rfl rfl rfl rfl
      rw [←hsn.out] at hr';have hb3:=hF3.blk hb1.out (by simp)
      have c03:=cell_blk hb3 0;simp only [List.getElem?_toArray,List.getElem?_cons_zero,List.getElem?_cons_succ] at c03;have hx3:=hF3.cell (hcell1.out j hjd) (by simp)
      go_wp2
      go_roundg g
      case measure=>omega
      case rel=>exact ⟨z*10+dgt d j,j+1,out++[m/2^k],by simp,by go_num,by omega,h5,hr',hF3⟩
     ·have t1:decide ((j:Int)<(d.length:Int))=false:=by simp;omega
      have t2: ¬(j:Int)<(d.length:Int):=by omega
      have hm0:0<m:=by omega
      have t3:decide ((0:Int)<(m:Int))=true:=by simp;omega
      have hz0:dgt d j=0:=dgt_out (by omega)
      rw [hz0,Nat.add_zero] at h5;clear hgo hz0 hdg;go_wp2_with (at_builtin;refine wpList_apRow rfl _ _ rfl (B:=w1.heap.size) _ (bt out) [UInt8.ofNat (m/2^k)] wr.heap.size 0 1 rfl rfl (rd_new (w:=wr) rfl (by simp only [enc,List.map_cons,List.map_nil];rw [q2.out])) (hrow.push rfl) (by simp;omega) (by rw [bt_length];simp;omega) ?_)
      intro v' w' hr' hg;have hF3:Fr [] w1 w':=by
       refine Fr.grown ?_ hg (fun k hk=> .inr (World.ownsRow.lt hrow k hk).1)
       exact hF2.push rfl rfl rfl rfl
      rw [←hsn.out] at hr';have hb3:=hF3.blk hb1.out (by simp)
      have c03:=cell_blk hb3 0;simp only [List.getElem?_toArray,List.getElem?_cons_zero,List.getElem?_cons_succ] at c03;go_wp2
      go_roundg g
      case measure=>omega
      case rel=>exact ⟨z*10,j+1,out++[m/2^k],by simp,by go_num,by omega,h5,hr',hF3⟩
    ·have hj: ¬j<d.length:=fun e=>hgo (.inl e)
     have hm0:m=0:=by omega
     subst hm0;have t1:decide ((j:Int)<(d.length:Int))=false:=by simp;omega
     have t2: ¬(0:Int)<((0:Nat):Int):=by simp
     have hone:out≠[]:=fun e=>by have:=hH.out.emp e;have:0<2^k:=Nat.pow_pos (by omega);omega
     have hlen:=hH.out.len;have hle:=hH.out.le;have hval:=half_end (d:=d) (out:=out) (dp:=dp) (i:=j) (i0:=i) (k:=k) (by omega) (by have:=hH.out.pr;omega) hlen hi0 (by have:=hlo'.out;omega) (by have:=hlo'.out;omega)
     have KT:=Hz (fun (W:World) (hD:DecP W p out (dp-((i:Int)-1)))=>trim hD hH.out.dig (by omega))
     have htn:=trim_norm (d:=out) (dp:=dp-((i:Int)-1)) hH.out.dig hH.out.hd (by have:=hlo'.out;omega)
     replace htn:=Hz htn;replace hval:=Hz hval;go_wp2_with fail
     have hF4:Fr [p] wr (wr.setCell ⟨p,0,none⟩ (.slice ao n0 c0)):=(Fr.refl _ _).setCell (by simp) _
     have hD:DecP (wr.setCell ⟨p,0,none⟩ (.slice ao n0 c0)) p out (dp-((i:Int)-1)):=by
      refine ⟨.slice ao n0 c0,by rw [blk_setCell hb2 0 _];rfl,?_⟩
      exact (hrow.dsrc hpl).fr hF4 (by simp)
     refine (KT.out _ hD).mono ?_
     rintro e w5 ⟨rfl,hD5,hf5⟩;go_wp2
     go_end0
     obtain ⟨n1,n2,n3,n4⟩:=htn.out;have e4:=n4 hone;have hv:=hval.out;rw [←n2] at hv;refine ⟨_,_,_,rfl,hD5,⟨n1,hv,?_,?_,?_,?_⟩,((hF1.then0 hF2).trans hF4).trans hf5⟩
     ·rw [e4];omega
     ·omega
     ·rw [e4];omega
     ·rw [e4];omega
end
section
set_option exponentiation.threshold 3000
open Go.RowKit
structure DoubI (d:List Nat) (k n:Nat) (out:List Nat):Prop where
 val:dv out.reverse+n*10^out.length=dv (d.drop (d.length-out.length))*2^k
 le:n≤2^k
 dig: ∀x,x∈out→x<10
 fin:d.length≤out.length→n*10^(out.length-d.length)≤2^k
 top:d.length≤out.length→n=0→ ∀x l,out=l++[x]→x≠0
 len:out.length≤d.length+19
theorem doub_0 (d:List Nat) (k:Nat):DoubI d k 0 []:=by
 refine ⟨by simp [dv],Nat.zero_le _,by simp,by simp,?_,by simp⟩
 intro h h0 x l e;have:=congrArg List.length e;simp at this
theorem doub_a {d:List Nat} {k n:Nat} {out:List Nat} (hd: ∀x,x∈d→x<10) (hh: ∀x l,d=x::l→x≠0) (h:DoubI d k n out) {j:Nat} (hj:j+1+out.length=d.length):
  n+dgt d j*2^k≤10*2^k∧DoubI d k ((n+dgt d j*2^k)/10) (out++[(n+dgt d j*2^k)%10]):=by
 have hjl:j<d.length:=by omega
 have hp:0<2^k:=Nat.pow_pos (by omega)
 have hx:dgt d j<10:=dgt_le hd j;have hm:=Nat.mul_le_mul_right (2^k) (show dgt d j≤9 by omega)
 have hle:=h.le;refine ⟨by omega,⟨?_,by omega,?_,?_,?_,by simp;omega⟩⟩
 ·have hv:=h.val;rw [show d.length-out.length=j+1 by omega] at hv
  have:=double_step (out:=out) hjl hv (by omega)
  rw [←dgt_lt hjl] at this;rw [this,List.length_append,List.length_singleton,show d.length-(out.length+1)=j by omega]
 ·intro x hx;rcases List.mem_append.1 hx with h1|h1
  ·exact h.dig x h1
  ·simp at h1;omega
 ·intro e;rw [List.length_append,List.length_singleton] at e ⊢;rw [show out.length+1-d.length=0 by omega]
  omega
 ·intro e h0 x l hxl;rw [List.length_append,List.length_singleton] at e;have hj0:j=0:=by omega
  have h1:=(List.append_inj' hxl (by simp)).2
  simp at h1;have hd0:dgt d 0≠0:=by
   cases hdd:d with
   |nil=>rw [hdd] at hjl;simp at hjl
   |cons y m=>exact hh y m hdd
  have:2^k≤dgt d 0*2^k:=Nat.le_mul_of_pos_left _ (by omega)
  rw [hj0] at h1 h0;omega
theorem doub_b {d:List Nat} {k n:Nat} {out:List Nat} (hk:k≤59) (h:DoubI d k n out) (hl:d.length≤out.length) (hn:0<n):
  out.length<d.length+19∧DoubI d k (n/10) (out++[n%10]):=by
 have hf:=h.fin hl;have hle:=h.le;have hlen:out.length<d.length+19:=by
  by_cases e:out.length<d.length+19
  ·exact e
  ·have h1:10^19≤10^(out.length-d.length):=Nat.pow_le_pow_right (by omega) (by omega)
   have h2:10^(out.length-d.length)≤n*10^(out.length-d.length):=Nat.le_mul_of_pos_left _ hn;have h3:=Nat.pow_le_pow_right (n:=2) (by omega) hk
   have h4:(2:Nat)^59<10^19:=by decide
   omega
 refine ⟨hlen,⟨?_,by omega,?_,?_,?_,by simp;omega⟩⟩
 ·have hv:=h.val;rw [show d.length-out.length=0 by omega] at hv
  have:=double_more hv;rw [this,List.length_append,List.length_singleton,show d.length-(out.length+1)=0 by omega]
 ·intro x hx;rcases List.mem_append.1 hx with h1|h1
  ·exact h.dig x h1
  ·simp at h1;omega
 ·intro e;rw [List.length_append,List.length_singleton,show out.length+1-d.length=(out.length-d.length)+1 by omega,Nat.pow_succ]
  generalize 10^(out.length-d.length)=T at *
  have h1:n/10*(T*10)=n/10*10*T:=by rw [Nat.mul_comm T 10,←Nat.mul_assoc]
  have h2:n/10*10*T≤n*T:=Nat.mul_le_mul_right _ (by omega)
  omega
 ·intro e h0 x l hxl;have h1:=(List.append_inj' hxl (by simp)).2
  simp at h1;omega
theorem Row.raw {w:World} {B:Nat} {v:Value} {bs:List UInt8} (h:Row w B v bs) (hne:bs≠[]): ∃g cap cs,v= .slice (some ⟨g,0,none⟩) bs.length cap∧B≤g∧w.heap[g]? =some (.cells cs 5 (0,0))∧bs.length≤cap∧cs.size=cap∧ ∀q,(h:q<bs.length)→cs[q]? =some (.int .u8 (bs[q].toNat:Int)):=by
 rcases h.2 with ⟨_,h0⟩|⟨g,cap,cur,rfl,hg,hh,hc,_,hs,ht⟩
 ·exact absurd (List.eq_nil_of_length_eq_zero h0) hne
 ·refine ⟨g,cap,cur,rfl,hg,hh,hc,by omega,fun q hq=> ?_⟩
  have h1:(cur.toList.take (bs.length*1))[q]? =(enc bs)[q]? :=by rw [ht]
  rw [Nat.mul_one,List.getElem?_take_of_lt hq,Array.getElem?_toList] at h1;rw [h1];simp [enc,hq]
theorem dgt_reverse {l:List Nat} {q:Nat} (h:q<l.length):dgt l.reverse q=dgt l (l.length-1-q):=by
 rw [dgt_lt (by simpa using h),dgt_lt (by omega),List.getElem_reverse]
def turnE (out:List Nat) (i q:Nat):Nat:=if q<i∨out.length-i≤q then dgt out (out.length-1-q) else dgt out q
theorem turnE_0 (out:List Nat) (q:Nat) (h:q<out.length):turnE out 0 q=dgt out q:=if_neg (by omega)
theorem turnE_end (out:List Nat) (i q:Nat) (h:q<out.length) (hi:out.length≤2*i+1):turnE out i q=dgt out (out.length-1-q):=by
 unfold turnE;by_cases c:q<i∨out.length-i≤q
 ·exact if_pos c
 ·rw [if_neg c]
  congr 1
  omega
theorem turnE_step (out:List Nat) (i q:Nat) (h:q<out.length) (hi:2*i+1<out.length):turnE out (i+1) q=if q=i then turnE out i (out.length-1-i) else if q=out.length-1-i then turnE out i i else turnE out i q:=by
 unfold turnE;by_cases c1:q=i
 ·subst c1;rw [if_pos rfl,if_pos (by omega),if_neg (by omega)]
 ·rw [if_neg c1];by_cases c2:q=out.length-1-i
  ·subst c2;rw [if_pos rfl,if_pos (by omega),if_neg (by omega)]
   congr 1
   omega
  ·rw [if_neg c2];by_cases c3:q<i∨out.length-i≤q
   ·rw [if_pos c3,if_pos (by omega)]
   ·rw [if_neg c3,if_neg (by omega)]
structure DoubP (d:List Nat) (dp:Int) (k:Nat) (d':List Nat) (dp':Int):Prop where
 norm:NormD d' dp'
 val:dV d' dp'=dV d dp*2^k
 lo:d≠[]→dp-d.length≤dp'-d'.length
 len:d'.length≤d.length+19
 dlo:d≠[]→dp≤dp'
 dhi:dp'≤dp+19
 nil:d=[]→d'=[]
theorem double {w:World} {p:Nat} {d:List Nat} {dp:Int} {k:Nat} (h:DecP w p d dp) (hN:NormD d dp) (hk:k≤59) (hl:d.length≤100000) (hlo: -1100≤dp-d.length) (hhi:dp≤100000):
  Calls Tryz.prog 216 #[.pointer (some ⟨p,0,none⟩),.int .i64 (k:Int)] w fun e w'=> ∃d' dp' u,e= .returned u∧DecP w' p d' dp'∧DoubP d dp k d' dp'∧Fr [p] w w':=by
 have hp59:=Nat.pow_le_pow_right (n:=2) (by omega) hk
 have h59:2^59=576460752303423488:=rfl;rw [h59] at hp59;clear h59;replace hp59:=Hz hp59;have hDec:=Hz h;obtain ⟨v,hb,hs⟩:=h;obtain ⟨ao,c,rfl⟩:=hs.shape;have c0:=cell_blk hb 0;have c1:=cell_blk hb 1;have f0:=frozen_blk hb 0;have f1:=frozen_blk hb 1;simp only [List.getElem?_toArray,List.getElem?_cons_zero,List.getElem?_cons_succ] at c0 c1;have hcell:Hid (∀i,i<d.length→ ∃b off,ao=some ⟨b,off,none⟩∧b≠p∧w.cell? ⟨b,off+i,none⟩=some (.int .u8 (dgt d i:Int))):=Hz (fun i hi=>by
  obtain ⟨b,off,c2,hv,hbp,hc⟩:=hs.at_ hN.lt (fun e=>by rw [e] at hi;simp at hi)
  injection hv with h1 h2 h3
  exact ⟨b,off,h1,hbp,hc i hi⟩)
 have hdlt:=Hz hN.lt;have hdhd:=Hz hN.hd;have hpl:=blk_lt' hb;replace hN:=Hz hN;replace hs:=Hz hs;replace hb:=Hz hb;go_enter Tryz.func216,Tryz.ntmps216
 go_wp2
 go_loopg [4,5,6] (d.length+19) (fun g v4 v5 v6 wr=> ∃(n:Nat) (out:List Nat),v4= .int .u64 (n:Int)∧v6= .int .i64 ((d.length:Int)-1-(out.length:Int))∧out.length+g=d.length+19∧Hid (DoubI d k n out)∧Row wr w.heap.size v5 (bt out)∧Fr [] w wr)
 case atStart=>exact ⟨0,[],by go_num,by simp,by simp,Hz (doub_0 d k),Row.nil _ _,Fr.refl _ _⟩
 case round=>
  obtain ⟨n,out,rfl,rfl,hg,hD,hrow,hF⟩:=hrel;have hb2:=hF.blk hb.out (by simp)
  have c0':=cell_blk hb2 0;have c1':=cell_blk hb2 1;have f0':=frozen_blk hb2 0;have f1':=frozen_blk hb2 1;simp only [List.getElem?_toArray,List.getElem?_cons_zero,List.getElem?_cons_succ] at c0' c1';obtain ⟨ao5,n5,c5,rfl⟩:=hrow.shape;have hnl:n≤576460752303423488:=by have:=hD.out.le;have:=hp59.out;omega
  by_cases hr:out.length<d.length
  ·obtain ⟨j,hj⟩: ∃j,j+1+out.length=d.length:=⟨d.length-1-out.length,by omega⟩
   obtain ⟨a1,a2⟩:=doub_a hdlt.out hdhd.out hD.out hj;obtain ⟨g,rfl⟩: ∃g,gk=g+1:=⟨gk-1,by omega⟩
   obtain ⟨b,off,rfl,hbp,hx⟩:=hcell.out j (by omega)
   have hx:=hF.cell hx (by simp)
   have hij:(d.length:Int)-1-(out.length:Int)=(j:Int):=by omega
   rw [hij];have hdg:dgt d j<10:=dgt_le hdlt.out j;have hXm:=Nat.mul_le_mul (show dgt d j≤9 by omega) hp59.out
   have gsl:IntKind.u64.wrap ((dgt d j:Int)*2^k)=((dgt d j*2^k:Nat):Int):=by
    rw [pow_int,←Int.natCast_mul];exact wrap64_lt _ (by omega)
   generalize dgt d j*2^k=X at *
   have hX:X≤5188146770730811392:=by omega
   have q2:((UInt8.ofNat ((n+X)%10)).toNat:Int)=((n:Int)+(X:Int))%10:=by
    have:(UInt8.ofNat ((n+X)%10)).toNat=(n+X)%10:=by simp;omega
    rw [this];omega
   have hsn:=Hz (bt_snoc out ((n+X)%10));have hol:out.length≤200000:=by omega
   have hBs:=hF.size;replace q2:=Hz q2;replace a2:=Hz a2;have hji:Hid ((d.length:Int)-1-((out++[(n+X)%10]).length:Int)=(j:Int)-1):=Hz (by simp;omega)
   replace hij:=Hz hij;clear hXm a1;go_wp2_with (at_builtin;refine wpList_apRow rfl _ _ rfl (B:=w.heap.size) _ (bt out) [UInt8.ofNat ((n+X)%10)] wr.heap.size 0 1 rfl rfl (rd_new (w:=wr) rfl (by simp only [enc,List.map_cons,List.map_nil];rw [q2.out])) (hrow.push rfl) (by simp;omega) (by rw [bt_length];simp;omega) ?_)
   intro v' w' hr' hgr;have hF3:Fr [] w w':=by
    refine Fr.grown ?_ hgr (fun k hk=> .inr (World.ownsRow.lt hrow k hk).1)
    exact hF.push rfl rfl rfl rfl
   rw [←hsn.out] at hr';go_wp2
   go_roundg g
   case measure=>omega
   case rel=>exact ⟨(n+X)/10,out++[(n+X)%10],by simp,by rw [hji.out],by simp;omega,a2,hr',hF3⟩
  ·obtain ⟨t,ht⟩: ∃t,t+d.length=out.length:=⟨out.length-d.length,by omega⟩
   have hij:(d.length:Int)-1-(out.length:Int)= -(t:Int)-1:=by omega
   rw [hij];have t1: ¬(0:Int)≤ -(t:Int)-1:=by omega
   have t2:decide ((0:Int)≤ -(t:Int)-1)=false:=by simp;omega
   by_cases hn0:0<n
   ·obtain ⟨a1,a2⟩:=doub_b hk hD.out (by omega) hn0
    obtain ⟨g,rfl⟩: ∃g,gk=g+1:=⟨gk-1,by omega⟩
    have t3:decide ((0:Int)<(n:Int))=true:=by simp;omega
    have q2:((UInt8.ofNat (n%10)).toNat:Int)=(n:Int)%10:=by
     have:(UInt8.ofNat (n%10)).toNat=n%10:=by simp;omega
     rw [this];omega
    have hsn:=Hz (bt_snoc out (n%10));have hol:out.length≤200000:=by omega
    have hBs:=hF.size;have htl:t≤200000:=by omega
    replace q2:=Hz q2;replace a2:=Hz a2;have hji:Hid ((d.length:Int)-1-((out++[n%10]).length:Int)= -(t:Int)-1-1):=Hz (by simp;omega)
    replace hij:=Hz hij;replace ht:=Hz ht;go_wp2_with (at_builtin;refine wpList_apRow rfl _ _ rfl (B:=w.heap.size) _ (bt out) [UInt8.ofNat (n%10)] wr.heap.size 0 1 rfl rfl (rd_new (w:=wr) rfl (by simp only [enc,List.map_cons,List.map_nil];rw [q2.out])) (hrow.push rfl) (by simp;omega) (by rw [bt_length];simp;omega) ?_)
    intro v' w' hr' hgr;have hF3:Fr [] w w':=by
     refine Fr.grown ?_ hgr (fun k hk=> .inr (World.ownsRow.lt hrow k hk).1)
     exact hF.push rfl rfl rfl rfl
    rw [←hsn.out] at hr';go_wp2
    go_roundg g
    case measure=>omega
    case rel=>exact ⟨n/10,out++[n%10],by simp,by rw [hji.out],by simp;omega,a2,hr',hF3⟩
   ·have hn00:n=0:=by omega
    subst hn00;have t3: ¬(0:Int)<((0:Nat):Int):=by simp
    have hlen:=hD.out.len;have g1: -2000000≤dp:=by omega
    obtain ⟨L,hL⟩: ∃L,L=out.length:=⟨_,rfl⟩;have s1:IntKind.i64.wrap ((L:Int)-(d.length:Int))=(L:Int)-(d.length:Int):=IntWalk.i64_in _ (by omega)
    have s2:IntKind.i64.wrap (dp+((L:Int)-(d.length:Int)))=dp+((L:Int)-(d.length:Int)):=IntWalk.i64_in _ (by omega)
    by_cases hL0:out=[]
    ·subst hL0;have hd0:d=[]:=by
      cases hdd:d with
      |nil=>rfl
      |cons x l=>exact absurd (by rw [hdd];simp) hr
     subst hd0;have hdp0:dp=0:=hN.out.nil rfl;subst hdp0;obtain ⟨ao6,c6,hv6⟩: ∃ao6 c6,(Value.slice ao5 n5 c5)= .slice ao6 0 c6:=by
      rcases hrow.2 with ⟨hv,_⟩|⟨g,cap,cur,hv,_⟩
      ·exact ⟨_,_,hv⟩
      ·exact ⟨_,_,hv⟩
     injection hv6 with h1 h2 h3
     subst h1 h2 h3;subst hL;obtain ⟨w4,hw4⟩: ∃w4,w4=(wr.setCell ⟨p,1,none⟩ (.int .i64 0)).drew:=⟨_,rfl⟩;have hF4:Fr [p] wr w4:=by rw [hw4];exact ((Fr.refl _ _).setCell (by simp) _).drew
     have hb4:w4.heap[p]? =some (.cells #[.slice ao 0 c,.int .i64 0] 330 (0,0)):=by
      rw [hw4];exact (blk_setCell hb2 1 _)
     replace hw4:=Hz hw4;have c04:=cell_blk hb4 0;have f04:=frozen_blk hb4 0;simp only [List.getElem?_toArray,List.getElem?_cons_zero,List.getElem?_cons_succ] at c04;have KT:=Hz (fun (W:World) (hDD:DecP W p [] 0)=>trim hDD (by simp) (by simp))
     simp only [List.length_nil] at c0' hb2;go_wp2
     go_region
     go_wp2
     go_loopg [7,8] 0 (fun gk v7 v8 wr2=>v7= .int .i64 0∧v8= .int .i64 (-1)∧wr2=w4)
     case atStart=>exact ⟨rfl,rfl,by rw [hw4.out]⟩
     case round=>
      obtain ⟨rfl,rfl,rfl⟩:=hrel;go_wp2_with fail
      have hF7:Fr [p] wr (wr.setCell ⟨p,0,none⟩ (.slice ao5 0 c5)):=(Fr.refl _ _).setCell (by simp) _
      have hb7:(wr.setCell ⟨p,0,none⟩ (.slice ao5 0 c5)).heap[p]? =some (.cells #[.slice ao5 0 c5,.int .i64 0] 330 (0,0)):=by
       rw [blk_setCell hb4 0 _];rfl
      have hDD:DecP (wr.setCell ⟨p,0,none⟩ (.slice ao5 0 c5)) p [] 0:=by
       exact ⟨_,hb7,((hrow.dsrc (d:=[]) hpl).fr hF4 (by simp)).fr hF7 (by simp)⟩
      refine (KT.out _ hDD).mono ?_
      rintro e w8 ⟨rfl,hD8,hf8⟩;go_wp2
      go_end0
      exact ⟨[],0,_,rfl,hD8,⟨hN.out,by simp [dV,dv],fun e=>absurd rfl e,by simp,fun e=>absurd rfl e,by omega,fun _=>rfl⟩,(((hF.mono (by simp)).trans hF4).trans hF7).trans hf8⟩
    ·obtain ⟨g,cap,cs,hv,hgB,hgb,hcap,hcs,hq⟩:=hrow.raw (fun e=>hL0 (by simpa [bt] using e))
     injection hv with h1 h2 h3
     subst h1 h2 h3;rw [bt_length,←hL] at hrow hcap;have hq':Hid (∀q,q<L→cs[q]? =some (.int .u8 (dgt out q:Int))):=Hz (fun q hq2=>by
      rw [hL] at hq2;have:=hq q (by rw [bt_length];exact hq2)
      rwa [bt_get hD.out.dig q hq2] at this)
     have hLp:0<L:=by rw [hL];cases hoo:out with|nil=>exact absurd hoo hL0|cons x l=>simp
     clear hq;rw [bt_length,←hL];replace hL:=Hz hL;replace ht:=Hz ht;replace hij:=Hz hij;replace hlen:=Hz hlen;go_wp2
     go_region
     go_wp2;obtain ⟨w4,hw4⟩: ∃w4,w4=(wr.setCell ⟨p,1,none⟩ (.int .i64 (dp+((L:Int)-(d.length:Int))))).drew:=⟨_,rfl⟩;have hF4:Fr [p] wr w4:=by rw [hw4];exact ((Fr.refl _ _).setCell (by simp) _).drew
     have hb4:w4.heap[p]? =some (.cells #[.slice ao d.length c,.int .i64 (dp+((L:Int)-(d.length:Int)))] 330 (0,0)):=by
      rw [hw4];exact (blk_setCell hb2 1 _)
     have hgp:g≠p:=by omega
     have hLb:L≤200000:=by have:=hL.out;have:=hlen.out;omega
     have hgb4:w4.heap[g]? =some (.cells cs 5 (0,0)):=hF4.blk hgb (by simpa using hgp)
     replace hw4:=Hz hw4;replace hgb4:=Hz hgb4;replace hb4:=Hz hb4;have hp4:=blk_lt' hb4.out;clear c0' c1' f0' f1' hb2 hrow hgb
     go_loopg [7,8] (L+1) (fun gk v7 v8 wr2=> ∃(i:Nat) (cs2:Array Value),v7= .int .i64 (i:Int)∧v8= .int .i64 ((L:Int)-1-(i:Int))∧2*i+gk=L+1∧wr2.heap[g]? =some (.cells cs2 5 (0,0))∧cs2.size=c5∧Hid (∀q,q<L→cs2[q]? =some (.int .u8 (turnE out i q:Int)))∧Fr [g] w4 wr2)
     case atStart=>exact ⟨0,cs,by go_num,by simp;unfold wrap64;omega,by omega,by rw [←hw4.out];exact hgb4.out,hcs,Hz (fun q hql=>by rw [turnE_0 out q (by rw [←hL.out];exact hql)];exact hq'.out q hql),by rw [←hw4.out];exact Fr.refl _ _⟩
     case round=>
      obtain ⟨i,cs2,rfl,rfl,hik,hgb5,hcs2,hq2,hF5⟩:=hrel;by_cases hij2:2*i+1<L
      ·have t5:(i:Int)<(L:Int)-1-(i:Int):=by omega
       obtain ⟨j,hj⟩: ∃j,i+j+1=L:=⟨L-1-i,by omega⟩
       have hji:(L:Int)-1-(i:Int)=(j:Int):=by omega
       rw [hji] at t5 ⊢;have x1:=cell_blk hgb5 i;rw [hq2.out i (by omega)] at x1
       have x2:=cell_blk hgb5 j;rw [hq2.out j (by omega)] at x2
       have f1:=frozen_blk hgb5 i;have f2:=frozen_blk hgb5 j;have b1:(i:Int)<(L:Int):=by omega
       have b2:(j:Int)<(L:Int):=by omega
       have n1: ¬i=j:=by omega
       have n2: ¬j=i:=by omega
       replace hji:=Hz hji;go_wp2
       go_region
       go_wp2
       go_roundg (gk-2)
       case measure=>omega
       case rel=>
        refine ⟨i+1,(cs2.setIfInBounds i (.int .u8 (turnE out i j:Int))).setIfInBounds j (.int .u8 (turnE out i i:Int)),by go_num,by congr 1;have:=hji.out;omega,by omega,?_,by simpa using hcs2,?_,?_⟩
        ·exact blk_setCell (blk_setCell hgb5 i _) j _
        ·refine Hz (fun q hql=> ?_)
         rw [turnE_step out i q (by rw [←hL.out];exact hql) (by rw [←hL.out];exact hij2),←hL.out,show L-1-i=j by omega]
         by_cases e1:q=i
         ·subst e1;rw [if_pos rfl,Array.getElem?_setIfInBounds_ne (by omega),Array.getElem?_setIfInBounds_self_of_lt (by omega)]
         ·rw [if_neg e1];by_cases e2:q=j
          ·subst e2;rw [if_pos rfl,Array.getElem?_setIfInBounds_self_of_lt (by simp;omega)]
          ·rw [if_neg e2,Array.getElem?_setIfInBounds_ne (by omega),Array.getElem?_setIfInBounds_ne (by omega)]
           exact hq2.out q hql
        ·exact hF5.trans ((((Fr.refl _ _).setCell (by simp) _).setCell (by simp) _).drew)
      ·have t5: ¬(i:Int)<(L:Int)-1-(i:Int):=by omega
       have hb6:=hF5.blk hb4.out (by simpa using fun e=>hgp e.symm)
       have c06:=cell_blk hb6 0;have f06:=frozen_blk hb6 0;simp only [List.getElem?_toArray,List.getElem?_cons_zero,List.getElem?_cons_succ] at c06;have hdig: ∀x,x∈out.reverse→x<10:=fun x hx=>hD.out.dig x (List.mem_reverse.1 hx)
       have KT:=Hz (fun (W:World) (hDD:DecP W p out.reverse (dp+((L:Int)-(d.length:Int))))=>trim hDD hdig (by rw [List.length_reverse,←hL.out];omega))
       go_wp2_with fail
       have hF7:Fr [p] wr (wr.setCell ⟨p,0,none⟩ (.slice (some ⟨g,0,none⟩) L c5)):=(Fr.refl _ _).setCell (by simp) _
       have hb7:(wr.setCell ⟨p,0,none⟩ (.slice (some ⟨g,0,none⟩) L c5)).heap[p]? =some (.cells #[.slice (some ⟨g,0,none⟩) L c5,.int .i64 (dp+((L:Int)-(d.length:Int)))] 330 (0,0)):=by
        rw [blk_setCell hb6 0 _];rfl
       have hgb7:=hF7.blk hgb5 (by simpa using hgp)
       have hDD:DecP (wr.setCell ⟨p,0,none⟩ (.slice (some ⟨g,0,none⟩) L c5)) p out.reverse (dp+((L:Int)-(d.length:Int))):=by
        refine ⟨_,hb7,.inr ⟨g,0,c5,by rw [List.length_reverse,←hL.out],by rw [List.length_reverse,←hL.out];exact hcap,hgp,blk_lt' hgb7,fun q hql=> ?_⟩⟩
        rw [bt_length,List.length_reverse] at hql;rw [Nat.zero_add,cell_blk hgb7,bt_get hdig q (by rw [List.length_reverse];exact hql),hq2.out q (by rw [hL.out];exact hql),turnE_end out i q hql (by rw [←hL.out];omega),dgt_reverse hql]
       refine (KT.out _ hDD).mono ?_
       rintro e w8 ⟨rfl,hD8,hf8⟩;go_wp2
       go_end0
       have hv:=hD.out.val;have htt:=ht.out;rw [Nat.zero_mul,Nat.add_zero,show d.length-out.length=0 by omega,List.drop_zero] at hv
       have hde:=double_end (d:=d) (out:=out.reverse) (dp:=dp) (k:=k) hv;rw [List.length_reverse,←hL.out] at hde;have hdne:out.reverse≠[]:=by simpa using hL0
       obtain ⟨n1,n2,n3,n4⟩:=trim_norm (d:=out.reverse) (dp:=dp+((L:Int)-(d.length:Int))) hdig (fun x l e=>by
        have e2:out=l.reverse++[x]:=by rw [←List.reverse_reverse out,e];simp
        exact hD.out.top (by omega) rfl x l.reverse e2) (by rw [List.length_reverse,←hL.out];omega)
       rw [List.length_reverse,←hL.out] at n3;have e4:=n4 hdne;have hLl:=hL.out;have hFF:Fr [p] w w8:=(((((hF.mono (by simp)).trans hF4).then_ hF5 (by simpa using .inr hgB)).trans hF7).trans hf8)
       refine ⟨_,_,_,rfl,hD8,⟨n1,n2.trans hde,fun _=> ?_,by have:=hlen.out;omega,fun _=> ?_,?_,fun e=> ?_⟩,hFF⟩
       ·rw [e4];omega
       ·rw [e4];omega
       ·rw [e4];have:=hlen.out;omega
       ·refine (dV_zero n1).1 ?_
        rw [n2,hde,e];simp [dV,dv]
end
end Go.Proofs.YteodinhkhhaafaaGreatDoor
