/- Walks of the program, and plain facts. -/
import Derived.Test.YteodinhkhhaafaaGreatDoorFac
set_option linter.unusedVariables false
set_option linter.unusedSimpArgs false
set_option maxRecDepth 100000
set_option maxHeartbeats 6400000
namespace Go.Proofs.YteodinhkhhaafaaGreatDoor
section
open Go.RowKit
def bt (d:List Nat):List UInt8:=d.map UInt8.ofNat
theorem bt_length (d:List Nat):(bt d).length=d.length:=by simp [bt]
theorem bt_get {d:List Nat} (hd: ∀x,x∈d→x<10) (j:Nat) (h:j<d.length):((bt d)[j]'(by rw [bt_length];exact h)).toNat=dgt d j:=by
 have:=hd d[j] (List.getElem_mem h);simp only [bt,List.getElem_map];rw [dgt_lt h];simp;omega
theorem bt_take (d:List Nat) (k:Nat):bt (d.take k)=(bt d).take k:=by simp [bt]
def DSrc (w:World) (p:Nat) (v:Value) (d:List Nat):Prop:=(d=[]∧v= .slice none 0 0)∨ ∃b off c,v= .slice (some ⟨b,off,none⟩) d.length c∧d.length≤c∧b≠p∧b<w.heap.size∧Rd w b off (bt d)
def DecP (w:World) (p:Nat) (d:List Nat) (dp:Int):Prop:= ∃v,w.heap[p]? =some (.cells #[v,.int .i64 dp] 330 (0,0))∧DSrc w p v d
theorem Row.dsrc {w:World} {B p:Nat} {v:Value} {d:List Nat} (h:Row w B v (bt d)) (hp:p<B):DSrc w p v d:=by
 rcases h.2 with ⟨hv,h0⟩|⟨g,cap,cur,rfl,hg,hh,hc,r⟩
 ·refine .inl ⟨List.eq_nil_of_length_eq_zero (by rw [bt_length] at h0;exact h0),hv⟩
 ·exact .inr ⟨g,0,cap,by rw [bt_length],by rw [bt_length] at hc;exact hc,by omega,blk_lt' hh,Rd.of_own h⟩
theorem DSrc.fr {w w':World} {p:Nat} {v:Value} {d:List Nat} {S:List Nat} (h:DSrc w p v d) (hf:Fr S w w') (hs: ∀k,k∈S→k=p∨w.heap.size≤k):DSrc w' p v d:=by
 rcases h with h|⟨b,off,c,hv,h1,h2,h3,h4⟩
 ·exact .inl h
 ·exact .inr ⟨b,off,c,hv,h1,h2,Nat.lt_of_lt_of_le h3 hf.size,h4.fr hf (fun hm=>by rcases hs b hm with e|e;exact h2 e;omega)⟩
theorem DecP.fr {w w':World} {p:Nat} {d:List Nat} {dp:Int} (h:DecP w p d dp) (hf:Fr [] w w'):DecP w' p d dp:=by
 obtain ⟨v,hb,hs⟩:=h;exact ⟨v,hf.blk hb (by simp),hs.fr hf (by simp)⟩
theorem DSrc.shape {w:World} {p:Nat} {v:Value} {d:List Nat} (h:DSrc w p v d): ∃ao c,v= .slice ao d.length c:=by
 rcases h with ⟨rfl,rfl⟩|⟨b,off,c,rfl,_⟩<;>exact ⟨_,_,rfl⟩
theorem trim {w:World} {p:Nat} {d:List Nat} {dp:Int} (h:DecP w p d dp) (hd: ∀x,x∈d→x<10) (hl:d.length≤1000000):
  Calls Tryz.prog 215 #[.pointer (some ⟨p,0,none⟩)] w fun e w'=>e= .returned (.pointer (some ⟨p,0,none⟩))∧DecP w' p (normD d dp).1 (normD d dp).2∧Fr [p] w w':=by
 replace hd:=Hz hd;go_enter Tryz.func215,Tryz.ntmps215
 go_wp2
 go_loopg [] d.length (fun k wr=>k≤d.length∧DecP wr p (d.take k) dp∧Hid (trimN d k=trimD d)∧Fr [p] w wr)
 case atStart=>exact ⟨Nat.le_refl _,by rw [List.take_of_length_le (Nat.le_refl _)];exact h,rfl,Fr.refl _ _⟩
 case round=>
  obtain ⟨hk,⟨v,hb,hs⟩,htr,hF⟩:=hrel;have c0:=cell_blk hb 0;have c1:=cell_blk hb 1;have f0:=frozen_blk hb 0;have f1:=frozen_blk hb 1;simp only [List.getElem?_toArray,List.getElem?_cons_zero,List.getElem?_cons_succ] at c0 c1;by_cases hk0:gk=0
  ·subst hk0;have: ∃ao c,v= .slice ao 0 c:=by
    obtain ⟨ao,c,rfl⟩:=hs.shape;exact ⟨ao,c,by simp⟩
   obtain ⟨ao,c,rfl⟩:=this;have t0:decide ((0:Int)<0)=false:=rfl;go_wp2
   go_quiet (fail)
   go_wp2;go_ret
   have hn:normD d dp=([],0):=by
    have e:trimD d=[]:=htr.out.symm;unfold normD;rw [e]
    rfl
   rw [hn];have hF2:Fr [p] w ((wr.drewN nq).setCell ⟨p,1,none⟩ (.int .i64 0)):=(hF.drewN nq).setCell (by simp) _
   refine ⟨rfl,⟨.slice ao 0 c,by rw [blk_setCell (show (wr.drewN nq).heap[p]? =_ from hb) 1 _];rfl,?_⟩,hF2⟩
   have:=hs.fr (w':=(wr.drewN nq).setCell ⟨p,1,none⟩ (.int .i64 0)) (S:=[p]) (((Fr.refl _ _).drewN nq).setCell (by simp) _) (by simp)
   simpa using this
  ·obtain ⟨k,rfl⟩: ∃k,gk=k+1:=⟨gk-1,by omega⟩
   have hlen:(d.take (k+1)).length=k+1:=by simp;omega
   rcases hs with ⟨h0,_⟩|⟨b,off,c,rfl,hc,hbp,hbl,hrd⟩
   ·rw [h0] at hlen;simp at hlen
   ·rw [hlen] at hc;have hx:=hrd k (by rw [bt_length,hlen];omega)
    rw [bt_get (fun x hx=>hd.out x (List.mem_of_mem_take hx)) k (by omega)] at hx
    have hdg:dgt (d.take (k+1)) k=dgt d k:=by rw [dgt_lt (by omega),dgt_lt (by omega),List.getElem_take]
    rw [hdg] at hx;rw [hlen] at c0 hb;have t0:decide ((0:Int)<((k+1:Nat):Int))=true:=by simp
    have t1:(0:Int)<(k:Int)+1:=by omega
    have hbp': ¬p=b:=fun e=>hbp e.symm
    clear hdg hlen;rw [trimN] at htr;by_cases hz:dgt d k=0
    ·rw [if_pos hz] at htr;have e0:((dgt d k:Int)==0)=true:=by simp [hz]
     clear hz;go_wp2
     go_quiet (fail)
     go_wp2
     go_region
     go_wp2
     go_roundg k
     case measure=>omega
     case rel=>
      have hF2:Fr [p] wr ((wr.drewN (nq+1)).setCell ⟨p,0,none⟩ (.slice (some ⟨b,off,none⟩) k c)):=((Fr.refl _ _).drewN _).setCell (by simp) _
      have hk2:(d.take k).length=k:=by simp;omega
      refine ⟨by omega,⟨.slice (some ⟨b,off,none⟩) k c,by rw [blk_setCell (show (wr.drewN (nq+1)).heap[p]? =_ from hb) 0 _];rfl,.inr ⟨b,off,c,by rw [hk2],by omega,hbp,Nat.lt_of_lt_of_le hbl hF2.size,?_⟩⟩,htr,hF.trans hF2⟩
      have h3:Rd wr b off (bt (d.take k)):=by
       have:=hrd.take k;rw [←bt_take,List.take_take,Nat.min_eq_left (by omega)] at this
       exact this
      exact h3.fr hF2 (by simpa using hbp)
    ·have e0:((dgt d k:Int)==0)=false:=by simp [hz]
     rw [if_neg hz] at htr;clear hz;go_wp2
     go_quiet (fail)
     go_wp2;go_ret
     have hk2:(d.take (k+1)).length=k+1:=by simp;omega
     have hn:normD d dp=(d.take (k+1),dp):=by
      unfold normD;rw [←htr.out,if_neg (fun e=>by rw [e] at hk2;simp at hk2)]
     rw [hn];have hF2:Fr [p] wr (wr.drewN nq):=(Fr.refl _ _).drewN _;exact ⟨rfl,⟨.slice (some ⟨b,off,none⟩) (k+1) c,hb,.inr ⟨b,off,c,by rw [hk2],by rw [hk2];exact hc,hbp,hbl,hrd.fr hF2 (by simpa using hbp)⟩⟩,hF.trans hF2⟩
end
section
open Go.RowKit
theorem half_a {d:List Nat} {n i k:Nat} (hd: ∀x,x∈d→x<10) (hh: ∀x l,d=x::l→x≠0) (hne:d≠[]) (hn:n=pre d i) (h1:i=0∨2^(i-1)≤n) (hk:n<2^k):
  n*10+dgt d i=pre d (i+1)∧2^i≤n*10+dgt d i∧n*10+dgt d i<10*2^k∧i≤k:=by
 have hx:=dgt_le hd i;refine ⟨by rw [pre_succ,hn],?_,by omega,?_⟩
 ·rcases h1 with rfl|h1
  ·cases d with
   |nil=>exact absurd rfl hne
   |cons x l=>
    have:=hh x l rfl;have e:dgt (x::l) 0=x:=rfl;rw [e];simp;omega
  ·by_cases h0:i=0
   ·subst h0;cases d with
    |nil=>exact absurd rfl hne
    |cons x l=>
     have:=hh x l rfl;have e:dgt (x::l) 0=x:=rfl;rw [e];simp;omega
   ·have e:2^i=2^(i-1)*2:=by rw [←Nat.pow_succ];congr 1;omega
    omega
 ·rcases h1 with rfl|h1
  ·omega
  ·by_cases h0:i=0
   ·omega
   ·have:i-1<k:=(Nat.pow_lt_pow_iff_right (by omega)).1 (Nat.lt_of_le_of_lt h1 hk)
    omega
theorem dgt_out {d:List Nat} {i:Nat} (h:d.length≤i):dgt d i=0:=by
 unfold dgt;rw [List.getD_eq_getElem?_getD,List.getElem?_eq_none h];rfl
structure HalfI (d:List Nat) (k i0 n i:Nat) (out:List Nat):Prop where
 pr:pre d i=10*2^k*dv out+n
 lt:n<10*2^k
 len:out.length+i0=i
 dig: ∀x,x∈out→x<10
 emp:out=[]→2^k≤n
 hd: ∀x l,out=x::l→x≠0
 dvd:d.length≤i→2^(i-d.length)∣n
 le:i≤d.length+k+1
 fin:d.length+k+1≤i→n=0
theorem half_b {d:List Nat} {k i0 n i:Nat} {out:List Nat} (hd: ∀x,x∈d→x<10) (h:HalfI d k i0 n i out) (hgo:i<d.length∨0<n):
  n/2^k<10∧n%2^k*10+dgt d i<10*2^k∧n%2^k<2^k∧i<d.length+k+1∧HalfI d k i0 (n%2^k*10+dgt d i) (i+1) (out++[n/2^k]):=by
 have hp:0<2^k:=Nat.pow_pos (by omega)
 have hx:=dgt_le hd i;have hm:=Nat.mod_lt n hp;have hdm:=Nat.div_add_mod n (2^k);have h10:n/2^k<10:=Nat.div_lt_of_lt_mul (by have:=h.lt;rwa [Nat.mul_comm] at this)
 have hi:i<d.length+k+1:=by
  by_cases e:d.length+k+1≤i
  ·have:=h.fin e;omega
  ·omega
 have hz:d.length+k≤i→n%2^k=0:=fun e=>by
  have h1:=h.dvd (by omega)
  have h2:2^k∣n:=Nat.dvd_trans (Nat.pow_dvd_pow 2 (by omega)) h1
  exact Nat.mod_eq_zero_of_dvd h2
 refine ⟨h10,by omega,hm,hi,⟨?_,by omega,by rw [List.length_append,List.length_singleton];have:=h.len;omega,?_,by simp,?_,?_,by omega,?_⟩⟩
 ·rw [pre_succ,h.pr,dv_snoc];generalize 2^k=P at *
  generalize n/P=q at *
  generalize n%P=r at *
  rw [Nat.mul_add,Nat.add_mul,←Nat.mul_assoc (10*P),←hdm,Nat.add_mul,Nat.mul_comm P q,Nat.mul_right_comm q P 10,Nat.mul_comm (10*P) q,Nat.mul_comm 10 P,←Nat.mul_assoc q P 10,Nat.mul_right_comm q P 10];omega
 ·intro x hx;rcases List.mem_append.1 hx with h1|h1
  ·exact h.dig x h1
  ·simp at h1;omega
 ·intro x l e;cases ho:out with
  |nil=>
   rw [ho] at e;simp at e;have h1:=h.emp ho;have:=Nat.div_pos h1 hp;omega
  |cons y m=>
   rw [ho] at e;simp at e;exact e.1▸h.hd y m ho
 ·intro e;by_cases he:d.length≤i
  ·rw [dgt_out he,Nat.add_zero,show i+1-d.length=(i-d.length)+1 by omega,Nat.pow_succ]
   by_cases hk:d.length+k≤i
   ·rw [hz hk];simp
   ·have h1:2^(i-d.length)∣n%2^k:=(Nat.dvd_mod_iff (Nat.pow_dvd_pow 2 (by omega))).2 (h.dvd he)
    exact Nat.mul_dvd_mul h1 (by decide)
  ·rw [show i+1-d.length=0 by omega];simp
 ·intro e;rw [hz (by omega),dgt_out (by omega)]
theorem pow2_10: ∀m:Nat,2^m∣10^m
 |0=>Nat.dvd_refl _
 |m+1=>by rw [Nat.pow_succ,Nat.pow_succ];exact Nat.mul_dvd_mul (pow2_10 m) (by decide)
theorem mask_w59 (n:Nat) (h:n≤59):IntKind.u64.wrap (IntKind.u64.wrap (2^n)-1)=((2^n-1:Nat):Int):=by
 have hp:=Nat.pow_le_pow_right (n:=2) (by omega) h
 have h1:1≤2^n:=Nat.pow_pos (by omega)
 rw [pow_int,wrap64_lt _ (by omega),show ((2^n:Nat):Int)-1=((2^n-1:Nat):Int) by omega,wrap64_lt _ (by omega)]
theorem and_mask59 (A n:Nat) (hA:A<18446744073709551616) (h:n≤59):bits .and .u64 (A:Int) (IntKind.u64.wrap (IntKind.u64.wrap (2^n)-1))=((A%2^n:Nat):Int):=by
 have hp:=Nat.pow_le_pow_right (n:=2) (by omega) h
 rw [mask_w59 n h,u64_and_nat _ _ hA (by omega),Nat.and_two_pow_sub_one_eq_mod]
theorem bt_snoc (d:List Nat) (x:Nat):bt (d++[x])=bt d++[UInt8.ofNat x]:=by simp [bt]
theorem DSrc.at_ {w:World} {p:Nat} {v:Value} {d:List Nat} (h:DSrc w p v d) (hd: ∀x,x∈d→x<10) (hne:d≠[]): ∃b off c,v= .slice (some ⟨b,off,none⟩) d.length c∧b≠p∧ ∀i,i<d.length→w.cell? ⟨b,off+i,none⟩=some (.int .u8 (dgt d i:Int)):=by
 rcases h with ⟨h,_⟩|⟨b,off,c,hv,h1,h2,h3,h4⟩
 ·exact absurd h hne
 ·refine ⟨b,off,c,hv,h2,fun i hi=> ?_⟩
  have:=h4 i (by rw [bt_length];exact hi)
  rwa [bt_get hd i hi] at this
structure HalfP (d:List Nat) (dp:Int) (k:Nat) (d':List Nat) (dp':Int):Prop where
 norm:NormD d' dp'
 val:dV d dp=dV d' dp'*2^k
 lo:dp-d.length-k≤dp'-d'.length
 len:d'.length≤d.length+k+1
 dlo:dp-k-1≤dp'
 dhi:dp'≤dp
theorem half {w:World} {p:Nat} {d:List Nat} {dp:Int} {k:Nat} (h:DecP w p d dp) (hN:NormD d dp) (hne:d≠[]) (hk1:1≤k) (hk:k≤59) (hl:d.length≤100000) (hlo: -1099≤dp-d.length-k) (hhi:dp≤100000):
  Calls Tryz.prog 217 #[.pointer (some ⟨p,0,none⟩),.int .i64 (k:Int)] w fun e w'=> ∃d' dp' u,e= .returned u∧DecP w' p d' dp'∧HalfP d dp k d' dp'∧Fr [p] w w':=by
 have hp59:=Nat.pow_le_pow_right (n:=2) (by omega) hk
 have h59:2^59=576460752303423488:=rfl;rw [h59] at hp59;clear h59;replace hp59:=Hz hp59;obtain ⟨v,hb,hs⟩:=h;have hdl:=hb;obtain ⟨b,off,c,rfl,hbp,hcell⟩:=hs.at_ hN.lt hne;have c0:=cell_blk hb 0;have c1:=cell_blk hb 1;have f0:=frozen_blk hb 0;have f1:=frozen_blk hb 1;simp only [List.getElem?_toArray,List.getElem?_cons_zero,List.getElem?_cons_succ] at c0 c1;have hlp:0<d.length:=by cases d with|nil=>exact absurd rfl hne|cons x l=>simp
 have hdlt:=Hz hN.lt;have hdhd:=Hz hN.hd;replace hN:=Hz hN;replace hne:=Hz hne;replace hcell:=Hz hcell;replace hs:=Hz hs;go_enter Tryz.func217,Tryz.ntmps217
 go_wp2
 go_loopg [4,5] (k+2) (fun g v4 v5 wr=> ∃n i:Nat,v4= .int .u64 (n:Int)∧v5= .int .i64 (i:Int)∧i+g=k+2∧Hid (n=pre d i)∧Hid (i=0∨2^(i-1)≤n)∧Hid (n<10*2^k)∧Hid (i≤k+1)∧wr=w)
 case atStart=>exact ⟨0,0,by go_num,by go_num,by omega,Hz (pre_zero d).symm,Hz (.inl rfl),Hz (by have:0<2^k:=Nat.pow_pos (by omega);omega),Hz (by omega),rfl⟩
 case round=>
  obtain ⟨n,i,rfl,rfl,hig,hn,hi1,hn10,hik1,rfl⟩:=hrel;have hnn:n<5764607523034234880:=by have:=hn10.out;have:=hp59.out;omega
  have gsh:(n:Int)/2^k=((n/2^k:Nat):Int):=by rw [pow_int];omega
  by_cases hlt:n<2^k
  ·have e0:((n:Int)/2^k==0)=true:=by rw [gsh,Nat.div_eq_of_lt hlt];rfl
   clear gsh;obtain ⟨a1,a2,a3,a4⟩:=half_a hdlt.out hdhd.out hne.out hn.out hi1.out hlt;obtain ⟨g,rfl⟩: ∃g,gk=g+1:=⟨gk-1,by omega⟩
   replace a1:=Hz a1;replace a2:=Hz a2;replace a3:=Hz a3;have hn9:n<576460752303423488:=by have:=hp59.out;omega
   replace hlt:=Hz hlt;have hdg:=dgt_le hdlt.out i;by_cases hil:i<d.length
   ·have hx:=hcell.out i hil;have t1:decide ((d.length:Int)≤(i:Int))=false:=by simp;omega
    have t2:(i:Int)<(d.length:Int):=by omega
    go_wp2
    go_roundg g
    case measure=>omega
    case rel=>exact ⟨n*10+dgt d i,i+1,by simp,by go_num,by omega,a1,Hz (.inr a2.out),a3,Hz (by omega),rfl⟩
   ·have hi0:i≠0:=by omega
    have hn0:0<n:=by
     rcases hi1.out with h1|h1
     ·exact absurd h1 hi0
     ·have:0<2^(i-1):=Nat.pow_pos (by omega)
      omega
    have t1:decide ((d.length:Int)≤(i:Int))=true:=by simp;omega
    have t2: ¬(i:Int)<(d.length:Int):=by omega
    have e1:((n:Int)==0)=false:=by simp;omega
    have hz:dgt d i=0:=dgt_out (by omega)
    rw [hz,Nat.add_zero] at a1 a2 a3;clear hdg hz;go_wp2
    go_roundg g
    case measure=>omega
    case rel=>exact ⟨n*10,i+1,by simp,by go_num,by omega,a1,Hz (.inr a2.out),a3,Hz (by omega),rfl⟩
  ·have hge:2^k≤n:=by omega
   have hq:0<n/2^k:=Nat.div_pos hge (Nat.pow_pos (by omega))
   have e0:((n:Int)/2^k==0)=false:=by rw [gsh];simp;omega
   clear gsh hq hlt;have hi0:1≤i:=by
    rcases Nat.eq_zero_or_pos i with h0|h0
    ·have h1:=hn.out;rw [h0,pre_zero] at h1;have:0<2^k:=Nat.pow_pos (by omega)
     omega
    ·exact h0
   have hik:i≤k+1:=hik1.out;have hI:HalfI d k i n i []:=⟨by rw [dv_nil,Nat.mul_zero,Nat.zero_add];exact hn.out.symm,hn10.out,Nat.zero_add i,by simp,fun _=>hge,by simp,fun e=>by
    rw [hn.out,pre_end e];exact Nat.dvd_mul_left_of_dvd (pow2_10 _) _,by omega,fun e=>by omega⟩
   have g1: -2000000≤dp:=by omega
   have s1:IntKind.i64.wrap ((i:Int)-1)=(i:Int)-1:=IntWalk.i64_in _ (by omega)
   have s2:IntKind.i64.wrap (dp-((i:Int)-1))=dp-((i:Int)-1):=IntWalk.i64_in _ (by omega)
   have hlo':=Hz hlo;clear hlo;replace hge:=Hz hge;have hN':=hN.out;go_wp2;have hF1:Fr [p] wr (wr.setCell ⟨p,1,none⟩ (.int .i64 (dp-((i:Int)-1)))):=(Fr.refl _ _).setCell (by simp) _
   have hb1:(wr.setCell ⟨p,1,none⟩ (.int .i64 (dp-((i:Int)-1)))).heap[p]? =some (.cells #[.slice (some ⟨b,off,none⟩) d.length c,.int .i64 (dp-((i:Int)-1))] 330 (0,0)):=by
    rw [blk_setCell hb 1 _];rfl
   have hcell1:Hid (∀q,q<d.length→(wr.setCell ⟨p,1,none⟩ (.int .i64 (dp-((i:Int)-1)))).cell? ⟨b,off+q,none⟩=some (.int .u8 (dgt d q:Int))):=Hz (fun j hj=>hF1.cell (hcell.out j hj) (by simpa using hbp))
   have hpl:=blk_lt' hb1;generalize hw1:wr.setCell ⟨p,1,none⟩ (.int .i64 (dp-((i:Int)-1)))=w1 at *
   replace hw1:=Hz hw1;replace hb1:=Hz hb1;clear hb hdl c0 c1 f0 f1 hcell e0 hn hi1 hn10 hik1 hnn
   go_loopg [4,5,6] (d.length+k+1-i) (fun g v4 v5 v6 wr2=> ∃(m j:Nat) (out:List Nat),v4= .int .u64 (m:Int)∧v5= .int .i64 (j:Int)∧j+g=d.length+k+1∧Hid (HalfI d k i m j out)∧Row wr2 w1.heap.size v6 (bt out)∧Fr [] w1 wr2)
   case atStart=>exact ⟨n,i,[],rfl,rfl,by omega,Hz hI,Row.nil _ _,Fr.refl _ _⟩
   case round=>
    obtain ⟨m,j,out,rfl,rfl,hjg,hH,hrow,hF2⟩:=hrel;obtain ⟨ao,n0,c0,rfl⟩:=hrow.shape;have hb2:=hF2.blk hb1.out (by simp)
    have c0':=cell_blk hb2 0;have c1':=cell_blk hb2 1;have f0':=frozen_blk hb2 0;simp only [List.getElem?_toArray,List.getElem?_cons_zero,List.getElem?_cons_succ] at c0' c1';have hmlt:m<5764607523034234880:=by have:=hH.out.lt;have:=hp59.out;omega
    by_cases hgo:j<d.length∨0<m
    ·obtain ⟨h1,h2,h3,h4,h5⟩:=half_b hdlt.out hH.out hgo;obtain ⟨g,rfl⟩: ∃g,gk=g+1:=⟨gk-1,by omega⟩
     have hdg:=dgt_le hdlt.out j;have hm59:m%2^k<576460752303423488:=by have:=hp59.out;omega
     have gma:=and_mask59 m k (by omega) hk
     have q0:(0:Int)≤(m:Int)/2^k:=Int.ediv_nonneg (by omega) (by rw [pow_int];omega)
     have q1:(m:Int)/2^k<10:=by
      have:(m:Int)/2^k=((m/2^k:Nat):Int):=by rw [pow_int];omega
      omega
     have qw:IntKind.u8.wrap ((m:Int)/2^k)=(m:Int)/2^k:=by
      have: ∀x:Int,0≤x→x<10→IntKind.u8.wrap x=x:=fun x h1 h2=>by show x%256=x;omega
      exact this _ q0 q1
     have q2:((UInt8.ofNat (m/2^k)).toNat:Int)=(m:Int)/2^k:=by
      have:(UInt8.ofNat (m/2^k)).toNat=m/2^k:=by simp;omega
      rw [this,pow_int];omega
     have hol:out.length≤300000:=by have:=hH.out.len;omega
     have hBs:=hF2.size;generalize hz:m%2^k=z at *
     replace hz:=Hz hz;replace h5:=Hz h5;replace q2:=Hz q2;replace h2:=Hz h2;replace h3:=Hz h3;have hsn:=Hz (bt_snoc out (m/2^k));have hjl:j≤200000:=by omega
     by_cases hjd:j<d.length
     ·have hx:=hF2.cell (hcell1.out j hjd) (by simp)
      have t1:decide ((j:Int)<(d.length:Int))=true:=by simp;omega
      have t2:(j:Int)<(d.length:Int):=by omega
      clear hgo;go_wp2_with (at_builtin;refine wpList_apRow rfl _ _ rfl (B:=w1.heap.size) _ (bt out) [UInt8.ofNat (m/2^k)] wr.heap.size 0 1 rfl rfl (rd_new (w:=wr) rfl (by simp only [enc,List.map_cons,List.map_nil];rw [q2.out])) (hrow.push rfl) (by simp;omega) (by rw [bt_length];simp;omega) ?_)
      intro v' w' hr' hg;have hF3:Fr [] w1 w':=by
       refine Fr.grown ?_ hg (fun k hk=> .inr (World.ownsRow.lt hrow k hk).1)
       exact hF2.push rfl rfl rfl rfl
      rw [←hsn.out] at hr';have hb3:=hF3.blk hb1.out (by simp)
      have c03:=cell_blk hb3 0;simp only [List.getElem?_toArray,List.getElem?_cons_zero,List.getElem?_cons_succ] at c03;have hx3:=hF3.cell (hcell1.out j hjd) (by simp)
      go_wp2
      go_roundg g
      case measure=>omega
      case rel=>exact ⟨z*10+dgt d j,j+1,out++[m/2^k],by simp,by go_num,by omega,h5,hr',hF3⟩
     ·have t1:decide ((j:Int)<(d.length:Int))=false:=by simp;omega
      have t2: ¬(j:Int)<(d.length:Int):=by omega
      have hm0:0<m:=by omega
      have t3:decide ((0:Int)<(m:Int))=true:=by simp;omega
      have hz0:dgt d j=0:=dgt_out (by omega)
      rw [hz0,Nat.add_zero] at h5;clear hgo hz0 hdg;go_wp2_with (at_builtin;refine wpList_apRow rfl _ _ rfl (B:=w1.heap.size) _ (bt out) [UInt8.ofNat (m/2^k)] wr.heap.size 0 1 rfl rfl (rd_new (w:=wr) rfl (by simp only [enc,List.map_cons,List.map_nil];rw [q2.out])) (hrow.push rfl) (by simp;omega) (by rw [bt_length];simp;omega) ?_)
      intro v' w' hr' hg;have hF3:Fr [] w1 w':=by
       refine Fr.grown ?_ hg (fun k hk=> .inr (World.ownsRow.lt hrow k hk).1)
       exact hF2.push rfl rfl rfl rfl
      rw [←hsn.out] at hr';have hb3:=hF3.blk hb1.out (by simp)
      have c03:=cell_blk hb3 0;simp only [List.getElem?_toArray,List.getElem?_cons_zero,List.getElem?_cons_succ] at c03;go_wp2
      go_roundg g
      case measure=>omega
      case rel=>exact ⟨z*10,j+1,out++[m/2^k],by simp,by go_num,by omega,h5,hr',hF3⟩
    ·have hj: ¬j<d.length:=fun e=>hgo (.inl e)
     have hm0:m=0:=by omega
     subst hm0;have t1:decide ((j:Int)<(d.length:Int))=false:=by simp;omega
     have t2: ¬(0:Int)<((0:Nat):Int):=by simp
     have hone:out≠[]:=fun e=>by have:=hH.out.emp e;have:0<2^k:=Nat.pow_pos (by omega);omega
     have hlen:=hH.out.len;have hle:=hH.out.le;have hval:=half_end (d:=d) (out:=out) (dp:=dp) (i:=j) (i0:=i) (k:=k) (by omega) (by have:=hH.out.pr;omega) hlen hi0 (by have:=hlo'.out;omega) (by have:=hlo'.out;omega)
     have KT:=Hz (fun (W:World) (hD:DecP W p out (dp-((i:Int)-1)))=>trim hD hH.out.dig (by omega))
     have htn:=trim_norm (d:=out) (dp:=dp-((i:Int)-1)) hH.out.dig hH.out.hd (by have:=hlo'.out;omega)
     replace htn:=Hz htn;replace hval:=Hz hval;go_wp2_with fail
     have hF4:Fr [p] wr (wr.setCell ⟨p,0,none⟩ (.slice ao n0 c0)):=(Fr.refl _ _).setCell (by simp) _
     have hD:DecP (wr.setCell ⟨p,0,none⟩ (.slice ao n0 c0)) p out (dp-((i:Int)-1)):=by
      refine ⟨.slice ao n0 c0,by rw [blk_setCell hb2 0 _];rfl,?_⟩
      exact (hrow.dsrc hpl).fr hF4 (by simp)
     refine (KT.out _ hD).mono ?_
     rintro e w5 ⟨rfl,hD5,hf5⟩;go_wp2
     go_end0
     obtain ⟨n1,n2,n3,n4⟩:=htn.out;have e4:=n4 hone;have hv:=hval.out;rw [←n2] at hv;refine ⟨_,_,_,rfl,hD5,⟨n1,hv,?_,?_,?_,?_⟩,((hF1.then0 hF2).trans hF4).trans hf5⟩
     ·rw [e4];omega
     ·omega
     ·rw [e4];omega
     ·rw [e4];omega
end
section
section
open Go.RowKit
def subn:Nat→Nat→Nat→Nat×Nat
 |0,c,E=>(c,E)
 |f+1,c,E=>if c<8388608 then subn f (c*2) (E-1) else (c,E)
def h2s (x:Nat):Nat:=
 let s:=(x&&&32768)*65536
 let e:=(x&&&31744)/1024
 let c:=(x&&&1023)*8192
 if e=31 then (if c=0 then (s|||2139095040)|||c else (s|||2143289344)|||c)
 else if e=0 then (if c=0 then s else (s|||(subn 11 c 113).2*8388608)|||((subn 11 c 113).1&&&8388607))
 else (s|||(e+112)*8388608)|||c
theorem or_u32 (a b:Nat) (ha:a<4294967296) (hb:b<4294967296):bits .or .u32 (a:Int) (b:Int)=((a|||b:Nat):Int):=u32_or_nat a b ha hb
theorem or_lt32 {a b:Nat} (ha:a<4294967296) (hb:b<4294967296):a|||b<4294967296:=Nat.or_lt_two_pow (n:=32) ha hb
theorem or2_u32 (a b c:Nat) (ha:a<4294967296) (hb:b<4294967296) (hc:c<4294967296):bits .or .u32 (bits .or .u32 (a:Int) (b:Int)) (c:Int)=((a|||b|||c:Nat):Int):=by
 rw [or_u32 a b ha hb,or_u32 _ c (or_lt32 ha hb) hc]
section
variable (x a b c:Nat) (w:World) (e1:bits .and .u16 (x:Int) 32768=(a:Int)) (e2:bits .and .u16 (x:Int) 31744=(b:Int)) (e3:bits .and .u16 (x:Int) 1023=(c:Int)) (la:a≤32768) (lb:b≤31744) (lc:c≤1023)
include e1 e2 e3 la lb lc
theorem half_inf (h1:((b:Int)/1024==31)=true) (h2:((c:Int)*8192==0)=true):
  Calls Tryz.prog 201 #[.int .u16 (x:Int)] w fun e w'=>e= .returned (.int .u32 ((a*65536|||2139095040|||c*8192:Nat):Int))∧w'=w:=by
 rw [←or2_u32 _ _ _ (by omega) (by omega) (by omega)]
 go_enter Tryz.func201,Tryz.ntmps201
 go_wp2;go_ret
 exact ⟨rfl,rfl⟩
theorem half_nan (h1:((b:Int)/1024==31)=true) (h2:((c:Int)*8192==0)=false):
  Calls Tryz.prog 201 #[.int .u16 (x:Int)] w fun e w'=>e= .returned (.int .u32 ((a*65536|||2143289344|||c*8192:Nat):Int))∧w'=w:=by
 rw [←or2_u32 _ _ _ (by omega) (by omega) (by omega)]
 go_enter Tryz.func201,Tryz.ntmps201
 go_wp2;go_ret
 exact ⟨rfl,rfl⟩
theorem half_zero (h1:((b:Int)/1024==31)=false) (h0:((b:Int)/1024==0)=true) (h2:((c:Int)*8192==0)=true):
  Calls Tryz.prog 201 #[.int .u16 (x:Int)] w fun e w'=>e= .returned (.int .u32 ((a*65536:Nat):Int))∧w'=w:=by
 go_enter Tryz.func201,Tryz.ntmps201
 go_wp2;go_ret
 exact ⟨rfl,rfl⟩
theorem half_norm (h1:((b:Int)/1024==31)=false) (h0:((b:Int)/1024==0)=false):
  Calls Tryz.prog 201 #[.int .u16 (x:Int)] w fun e w'=>e= .returned (.int .u32 ((a*65536|||(b/1024+112)*8388608|||c*8192:Nat):Int))∧w'=w:=by
 rw [←or2_u32 _ _ _ (by omega) (by omega) (by omega)]
 go_enter Tryz.func201,Tryz.ntmps201
 go_wp2;go_ret
 exact ⟨rfl,rfl⟩
omit e1 e2 e3 la lb lc in
theorem subn_lt: ∀(f c E:Nat),c<16777216→(subn f c E).1<16777216
 |0,c,E,h=>h
 |f+1,c,E,h=>by
  unfold subn
  split
  ·exact subn_lt f _ _ (by omega)
  ·exact h
theorem half_sub (h1:((b:Int)/1024==31)=false) (h0:((b:Int)/1024==0)=true) (h2:((c:Int)*8192==0)=false):
  Calls Tryz.prog 201 #[.int .u16 (x:Int)] w fun e w'=>e= .returned (.int .u32 ((a*65536|||(subn 11 (c*8192) 113).2*8388608|||((subn 11 (c*8192) 113).1&&&8388607):Nat):Int))∧w'=w:=by
 obtain ⟨p,hp⟩: ∃p,subn 11 (c*8192) 113=p:=⟨_,rfl⟩;rw [hp];replace hp:=Hz hp;go_enter Tryz.func201,Tryz.ntmps201
 go_wp2
 go_loop [4,5] (fun ve vc=> ∃f k E:Nat,8192≤k∧k<16777216∧8388608≤k*2^f∧103+f≤E+1∧E≤113∧Hid (subn f k E=p)∧ve= .int .u32 (IntKind.u32.wrap ((E:Int)-112))∧vc= .int .u32 (k:Int)) (fun _ vc=>16777216-(intOf vc).toNat)
 case atStart=>
  have hb:b/1024=0:=by simp at h0;omega
  refine ⟨11,c*8192,113,by simp at h2;omega,by omega,by simp at h2;omega,by omega,by omega,hp,?_,rfl⟩
  rw [show (b:Int)/1024=0 by omega]
  rfl
 case round=>
  obtain ⟨f,k,E,g1,g2,g3,g4,g5,hq,rfl,rfl⟩:=hrel;have key:bits .and .u32 (k:Int) 2139095040=((k/8388608*8388608:Nat):Int):=by
   rw [show (2139095040:Int)=((2139095040:Nat):Int) from rfl,u32_and_nat k 2139095040 (by omega) (by omega)]
   have e:k&&&2139095040=k/8388608*8388608:=by
    have h24:k&&&16777215=k:=by rw [show (16777215:Nat)=2^24-1 from rfl,Nat.and_two_pow_sub_one_eq_mod,Nat.mod_eq_of_lt (by omega)]
    rw [←h24,Nat.and_assoc,show (16777215&&&2139095040:Nat)=2^23 from rfl,h24,nat_bit]
    omega
   rw [e]
  by_cases hk:k<8388608
  ·have ht:(bits .and .u32 (k:Int) 2139095040==0)=true:=by rw [key];simp;omega
   replace key:=Hz key;go_wp2
   go_round
   case rel=>
    obtain ⟨f,rfl⟩: ∃f',f=f'+1:=by
     rcases f with _|f
     ·simp at g3;omega
     ·exact ⟨f,rfl⟩
    refine ⟨f,k*2,E-1,by omega,by omega,by rw [Nat.pow_succ] at g3;rw [Nat.mul_assoc,Nat.mul_comm 2];exact g3,by omega,by omega,?_,?_,by go_num⟩
    ·have:=hq.out;unfold subn at this;rw [if_pos hk] at this;exact this
    ·rw [IntKind.wrap_u32]
     congr 1
     omega
   case measure=>simp [intOf];omega
  ·have ht:(bits .and .u32 (k:Int) 2139095040==0)=false:=by rw [key];simp;omega
   replace key:=Hz key;have hs:subn f k E=(k,E):=by
    rcases f with _|f
    ·rfl
    ·unfold subn;rw [if_neg hk]
   rw [hs] at hq;have hq:=hq.out;subst hq;have m1:bits .and .u32 (k:Int) 8388607=((k&&&8388607:Nat):Int):=u32_and_nat k 8388607 (by omega) (by omega)
   have l1:k&&&8388607≤8388607:=Nat.and_le_right;have fin:bits .or .u32 (bits .or .u32 ((a:Int)*65536) ((E:Int)%4294967296*8388608)) (bits .and .u32 (k:Int) 8388607)=((a*65536|||E*8388608|||k&&&8388607:Nat):Int):=by
    rw [m1,←or2_u32 _ _ _ (by omega) (by omega) (by omega),show (E:Int)%4294967296*8388608=((E*8388608:Nat):Int) by omega]
    rfl
   replace fin:=Hz fin;clear m1 l1;go_wp2;go_ret
   exact ⟨by rw [←fin.out];rfl,rfl⟩
end
theorem half_any (x:Nat) (hx:x<65536) (w:World):
  Calls Tryz.prog 201 #[.int .u16 (x:Int)] w fun e w'=>e= .returned (.int .u32 (h2s x:Int))∧w'=w:=by
 have e1:bits .and .u16 (x:Int) 32768=((x&&&32768:Nat):Int):=u16_and_nat x 32768 hx (by decide)
 have e2:bits .and .u16 (x:Int) 31744=((x&&&31744:Nat):Int):=u16_and_nat x 31744 hx (by decide)
 have e3:bits .and .u16 (x:Int) 1023=((x&&&1023:Nat):Int):=u16_and_nat x 1023 hx (by decide)
 have la:x&&&32768≤32768:=Nat.and_le_right;have lb:x&&&31744≤31744:=Nat.and_le_right;have lc:x&&&1023≤1023:=Nat.and_le_right;unfold h2s;dsimp only;by_cases h1:(x&&&31744)/1024=31
 ·rw [if_pos h1];by_cases h2:(x&&&1023)*8192=0
  ·rw [if_pos h2];exact half_inf x _ _ _ w e1 e2 e3 la lb lc (by simp;omega) (by simp;omega)
  ·rw [if_neg h2];exact half_nan x _ _ _ w e1 e2 e3 la lb lc (by simp;omega) (by simp;omega)
 ·rw [if_neg h1];by_cases h0:(x&&&31744)/1024=0
  ·rw [if_pos h0];by_cases h2:(x&&&1023)*8192=0
   ·rw [if_pos h2];exact half_zero x _ _ _ w e1 e2 e3 la lb lc (by simp;omega) (by simp;omega) (by simp;omega)
   ·rw [if_neg h2];exact half_sub x _ _ _ w e1 e2 e3 la lb lc (by simp;omega) (by simp;omega) (by simp;omega)
  ·rw [if_neg h0];exact half_norm x _ _ _ w e1 e2 e3 la lb lc (by simp;omega) (by simp;omega)
end
section
open Go.RowKit
theorem ext183 (n:Nat) (w:World):(callFunc 183 #[.int .u32 (n:Int)]).run Tryz.prog w= .ok (.value (.float .f32 n)) w:=
 (run_callFunc_extern Tryz.func183 (by kernel_rfl) (by kernel_rfl) (by kernel_rfl) (show Extern.find Tryz.f183=some Extern.MathFloatBits.float32frombits by kernel_rfl) _ w).trans rfl
theorem ext184 (n:Nat) (w:World):(callFunc 184 #[.int .u64 (n:Int)]).run Tryz.prog w= .ok (.value (.float .f64 n)) w:=
 (run_callFunc_extern Tryz.func184 (by kernel_rfl) (by kernel_rfl) (by kernel_rfl) (show Extern.find Tryz.f184=some Extern.MathFloatBits.float64frombits by kernel_rfl) _ w).trans rfl
theorem ext202 (n:Nat) (w:World):(callFunc 202 #[.float .f64 n]).run Tryz.prog w= .ok (.value (.int .u64 (n:Int))) w:=
 (run_callFunc_extern Tryz.func202 (by kernel_rfl) (by kernel_rfl) (by kernel_rfl) (show Extern.find Tryz.f202=some Extern.MathFloatBits.float64bits by kernel_rfl) _ w).trans rfl
theorem float32_any (x:Nat) (hx:x<65536) (w:World):
  Calls Tryz.prog 182 #[.int .u16 (x:Int)] w fun e w'=>e= .returned (.float .f32 (h2s x))∧w'=w:=by
 have K:=Hz (half_any x hx);clear hx;generalize h2s x=y at K;have he:=ext183 y;go_enter Tryz.func182,Tryz.ntmps182
 go_wp2_with (go_at_call 201;refine (K.out _).mono ?_;rintro e w' ⟨rfl,rfl⟩)
 go_wp2;go_ret
 exact ⟨rfl,rfl⟩
def DecM (w:World) (dm nest elems pairs:Nat):Prop:=
 w.heap[dm]? =some (.cells #[.int .i64 0,.int .i64 (nest:Int),.int .i64 (elems:Int),.int .i64 (pairs:Int),.int .i64 0,.int .i64 0,.int .i64 0,.int .i64 0,.int .i64 0,.int .i64 0,.int .i64 0,.pointer none,.int .i64 0,.int .i64 0,.int .i64 0] 239 (0,0))
theorem DecM.fr {S:List Nat} {w w':World} {dm n e p:Nat} (h:DecM w dm n e p) (hf:Fr S w w') (hn:dm∉S):DecM w' dm n e p:=hf.blk h hn
theorem DecM.cell {w:World} {dm n e p:Nat} (h:DecM w dm n e p) (i:Nat):w.cell? ⟨dm,i,none⟩=(#[.int .i64 0,.int .i64 (n:Int),.int .i64 (e:Int),.int .i64 (p:Int),.int .i64 0,.int .i64 0,.int .i64 0,.int .i64 0,.int .i64 0,.int .i64 0,.int .i64 0,.pointer none,.int .i64 0,.int .i64 0,.int .i64 0]:Array Value)[i]? :=cell_blk h i
theorem acceptableFloat {w:World} {d db o c dm n el pa:Nat} {xs:List UInt8} {v:Value} (h:DecV w d db o c dm xs v) (hm:DecM w dm n el pa) (b:Nat):
  Calls Tryz.prog 192 #[.pointer (some ⟨d,0,none⟩),.float .f64 b] w fun e w'=>e= .returned .nilIface∧w'=w:=by
 have h2:w.cell? ⟨d,2,none⟩=some (.pointer (some ⟨dm,0,none⟩)):=cell_blk h.blk 2;have h12:w.cell? ⟨dm,12,none⟩=some (.int .i64 0):=hm.cell 12;have h13:w.cell? ⟨dm,13,none⟩=some (.int .i64 0):=hm.cell 13;go_enter Tryz.func192,Tryz.ntmps192
 go_wp2;go_ret
 exact ⟨rfl,rfl⟩
theorem convert_f32 (b:Nat):(∃f:World→Nat,∀w,(convert 291 287 (.float .f32 b)).run Tryz.prog w= .ok (.float .f64 (f w)) w)∨(∃f:World→Nat,∀w,(convert 291 287 (.float .f32 b)).run Tryz.prog w= .ok (.float .f64 (f w)) w.drew):=by
 have hc: ∀w,(convert 291 287 (.float .f32 b)).run Tryz.prog w=(Conv.floatToFloat .f32 b .f64).run Tryz.prog w:=fun w=>by
  simp [convert,run_underlying Tryz.underlying291,run_underlying Tryz.underlying287]
 simp only [hc];unfold Conv.floatToFloat;simp only [reduceCtorEq,if_false]
 split
 ·simp only [Sem.run_bind,run_choose_drew];by_cases hq:(Question.nanConv .f64 b).forced=true
  ·exact .inl ⟨fun w=>0,fun w=>by rw [if_pos hq];rfl⟩
  ·exact .inr ⟨fun w=>(Question.nanConv .f64 b).cut (w.tape w.drawn (Question.nanConv .f64 b)),fun w=>by rw [if_neg hq];rfl⟩
 ·exact .inl ⟨_,fun w=>rfl⟩
 ·skip
  split
  ·simp only [Sem.run_bind,run_choose_drew];by_cases hq:(Question.floatToFloat b).forced=true
   ·exact .inl ⟨fun w=>0,fun w=>by rw [if_pos hq];rfl⟩
   ·exact .inr ⟨fun w=>(Question.floatToFloat b).cut (w.tape w.drawn (Question.floatToFloat b)),fun w=>by rw [if_neg hq];rfl⟩
  ·exact .inl ⟨fun _=>_,fun w=>rfl⟩
end
end
end Go.Proofs.YteodinhkhhaafaaGreatDoor
