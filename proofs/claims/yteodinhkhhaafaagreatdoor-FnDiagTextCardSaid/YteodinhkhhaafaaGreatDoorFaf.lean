/- Walks of the program, and plain facts. -/
import Derived.Test.YteodinhkhhaafaaGreatDoorFae
set_option linter.unusedVariables false
set_option linter.unusedSimpArgs false
set_option maxRecDepth 100000
set_option maxHeartbeats 6400000
namespace Go.Proofs.YteodinhkhhaafaaGreatDoor
section
set_option exponentiation.threshold 3000
open Go.RowKit
structure DoubI (d:List Nat) (k n:Nat) (out:List Nat):Prop where
 val:dv out.reverse+n*10^out.length=dv (d.drop (d.length-out.length))*2^k
 le:n≤2^k
 dig: ∀x,x∈out→x<10
 fin:d.length≤out.length→n*10^(out.length-d.length)≤2^k
 top:d.length≤out.length→n=0→ ∀x l,out=l++[x]→x≠0
 len:out.length≤d.length+19
theorem doub_0 (d:List Nat) (k:Nat):DoubI d k 0 []:=by
 refine ⟨by simp [dv],Nat.zero_le _,by simp,by simp,?_,by simp⟩
 intro h h0 x l e;have:=congrArg List.length e;simp at this
theorem doub_a {d:List Nat} {k n:Nat} {out:List Nat} (hd: ∀x,x∈d→x<10) (hh: ∀x l,d=x::l→x≠0) (h:DoubI d k n out) {j:Nat} (hj:j+1+out.length=d.length):
  n+dgt d j*2^k≤10*2^k∧DoubI d k ((n+dgt d j*2^k)/10) (out++[(n+dgt d j*2^k)%10]):=by
 have hjl:j<d.length:=by omega
 have hp:0<2^k:=Nat.pow_pos (by omega)
 have hx:dgt d j<10:=dgt_le hd j;have hm:=Nat.mul_le_mul_right (2^k) (show dgt d j≤9 by omega)
 have hle:=h.le;refine ⟨by omega,⟨?_,by omega,?_,?_,?_,by simp;omega⟩⟩
 ·have hv:=h.val;rw [show d.length-out.length=j+1 by omega] at hv
  have:=double_step (out:=out) hjl hv (by omega)
  rw [←dgt_lt hjl] at this;rw [this,List.length_append,List.length_singleton,show d.length-(out.length+1)=j by omega]
 ·intro x hx;rcases List.mem_append.1 hx with h1|h1
  ·exact h.dig x h1
  ·simp at h1;omega
 ·intro e;rw [List.length_append,List.length_singleton] at e ⊢;rw [show out.length+1-d.length=0 by omega]
  omega
 ·intro e h0 x l hxl;rw [List.length_append,List.length_singleton] at e;have hj0:j=0:=by omega
  have h1:=(List.append_inj' hxl (by simp)).2
  simp at h1;have hd0:dgt d 0≠0:=by
   cases hdd:d with
   |nil=>rw [hdd] at hjl;simp at hjl
   |cons y m=>exact hh y m hdd
  have:2^k≤dgt d 0*2^k:=Nat.le_mul_of_pos_left _ (by omega)
  rw [hj0] at h1 h0;omega
theorem doub_b {d:List Nat} {k n:Nat} {out:List Nat} (hk:k≤59) (h:DoubI d k n out) (hl:d.length≤out.length) (hn:0<n):
  out.length<d.length+19∧DoubI d k (n/10) (out++[n%10]):=by
 have hf:=h.fin hl;have hle:=h.le;have hlen:out.length<d.length+19:=by
  by_cases e:out.length<d.length+19
  ·exact e
  ·have h1:10^19≤10^(out.length-d.length):=Nat.pow_le_pow_right (by omega) (by omega)
   have h2:10^(out.length-d.length)≤n*10^(out.length-d.length):=Nat.le_mul_of_pos_left _ hn;have h3:=Nat.pow_le_pow_right (n:=2) (by omega) hk
   have h4:(2:Nat)^59<10^19:=by decide
   omega
 refine ⟨hlen,⟨?_,by omega,?_,?_,?_,by simp;omega⟩⟩
 ·have hv:=h.val;rw [show d.length-out.length=0 by omega] at hv
  have:=double_more hv;rw [this,List.length_append,List.length_singleton,show d.length-(out.length+1)=0 by omega]
 ·intro x hx;rcases List.mem_append.1 hx with h1|h1
  ·exact h.dig x h1
  ·simp at h1;omega
 ·intro e;rw [List.length_append,List.length_singleton,show out.length+1-d.length=(out.length-d.length)+1 by omega,Nat.pow_succ]
  generalize 10^(out.length-d.length)=T at *
  have h1:n/10*(T*10)=n/10*10*T:=by rw [Nat.mul_comm T 10,←Nat.mul_assoc]
  have h2:n/10*10*T≤n*T:=Nat.mul_le_mul_right _ (by omega)
  omega
 ·intro e h0 x l hxl;have h1:=(List.append_inj' hxl (by simp)).2
  simp at h1;omega
theorem Row.raw {w:World} {B:Nat} {v:Value} {bs:List UInt8} (h:Row w B v bs) (hne:bs≠[]): ∃g cap cs,v= .slice (some ⟨g,0,none⟩) bs.length cap∧B≤g∧w.heap[g]? =some (.cells cs 5 (0,0))∧bs.length≤cap∧cs.size=cap∧ ∀q,(h:q<bs.length)→cs[q]? =some (.int .u8 (bs[q].toNat:Int)):=by
 rcases h.2 with ⟨_,h0⟩|⟨g,cap,cur,rfl,hg,hh,hc,_,hs,ht⟩
 ·exact absurd (List.eq_nil_of_length_eq_zero h0) hne
 ·refine ⟨g,cap,cur,rfl,hg,hh,hc,by omega,fun q hq=> ?_⟩
  have h1:(cur.toList.take (bs.length*1))[q]? =(enc bs)[q]? :=by rw [ht]
  rw [Nat.mul_one,List.getElem?_take_of_lt hq,Array.getElem?_toList] at h1;rw [h1];simp [enc,hq]
theorem dgt_reverse {l:List Nat} {q:Nat} (h:q<l.length):dgt l.reverse q=dgt l (l.length-1-q):=by
 rw [dgt_lt (by simpa using h),dgt_lt (by omega),List.getElem_reverse]
def turnE (out:List Nat) (i q:Nat):Nat:=if q<i∨out.length-i≤q then dgt out (out.length-1-q) else dgt out q
theorem turnE_0 (out:List Nat) (q:Nat) (h:q<out.length):turnE out 0 q=dgt out q:=if_neg (by omega)
theorem turnE_end (out:List Nat) (i q:Nat) (h:q<out.length) (hi:out.length≤2*i+1):turnE out i q=dgt out (out.length-1-q):=by
 unfold turnE;by_cases c:q<i∨out.length-i≤q
 ·exact if_pos c
 ·rw [if_neg c]
  congr 1
  omega
theorem turnE_step (out:List Nat) (i q:Nat) (h:q<out.length) (hi:2*i+1<out.length):turnE out (i+1) q=if q=i then turnE out i (out.length-1-i) else if q=out.length-1-i then turnE out i i else turnE out i q:=by
 unfold turnE;by_cases c1:q=i
 ·subst c1;rw [if_pos rfl,if_pos (by omega),if_neg (by omega)]
 ·rw [if_neg c1];by_cases c2:q=out.length-1-i
  ·subst c2;rw [if_pos rfl,if_pos (by omega),if_neg (by omega)]
   congr 1
   omega
  ·rw [if_neg c2];by_cases c3:q<i∨out.length-i≤q
   ·rw [if_pos c3,if_pos (by omega)]
   ·rw [if_neg c3,if_neg (by omega)]
structure DoubP (d:List Nat) (dp:Int) (k:Nat) (d':List Nat) (dp':Int):Prop where
 norm:NormD d' dp'
 val:dV d' dp'=dV d dp*2^k
 lo:d≠[]→dp-d.length≤dp'-d'.length
 len:d'.length≤d.length+19
 dlo:d≠[]→dp≤dp'
 dhi:dp'≤dp+19
 nil:d=[]→d'=[]
theorem double {w:World} {p:Nat} {d:List Nat} {dp:Int} {k:Nat} (h:DecP w p d dp) (hN:NormD d dp) (hk:k≤59) (hl:d.length≤100000) (hlo: -1100≤dp-d.length) (hhi:dp≤100000):
  Calls Tryz.prog 216 #[.pointer (some ⟨p,0,none⟩),.int .i64 (k:Int)] w fun e w'=> ∃d' dp' u,e= .returned u∧DecP w' p d' dp'∧DoubP d dp k d' dp'∧Fr [p] w w':=by
 have hp59:=Nat.pow_le_pow_right (n:=2) (by omega) hk
 have h59:2^59=576460752303423488:=rfl;rw [h59] at hp59;clear h59;replace hp59:=Hz hp59;have hDec:=Hz h;obtain ⟨v,hb,hs⟩:=h;obtain ⟨ao,c,rfl⟩:=hs.shape;have c0:=cell_blk hb 0;have c1:=cell_blk hb 1;have f0:=frozen_blk hb 0;have f1:=frozen_blk hb 1;simp only [List.getElem?_toArray,List.getElem?_cons_zero,List.getElem?_cons_succ] at c0 c1;have hcell:Hid (∀i,i<d.length→ ∃b off,ao=some ⟨b,off,none⟩∧b≠p∧w.cell? ⟨b,off+i,none⟩=some (.int .u8 (dgt d i:Int))):=Hz (fun i hi=>by
  obtain ⟨b,off,c2,hv,hbp,hc⟩:=hs.at_ hN.lt (fun e=>by rw [e] at hi;simp at hi)
  injection hv with h1 h2 h3
  exact ⟨b,off,h1,hbp,hc i hi⟩)
 have hdlt:=Hz hN.lt;have hdhd:=Hz hN.hd;have hpl:=blk_lt' hb;replace hN:=Hz hN;replace hs:=Hz hs;replace hb:=Hz hb;go_enter Tryz.func216,Tryz.ntmps216
 go_wp2
 go_loopg [4,5,6] (d.length+19) (fun g v4 v5 v6 wr=> ∃(n:Nat) (out:List Nat),v4= .int .u64 (n:Int)∧v6= .int .i64 ((d.length:Int)-1-(out.length:Int))∧out.length+g=d.length+19∧Hid (DoubI d k n out)∧Row wr w.heap.size v5 (bt out)∧Fr [] w wr)
 case atStart=>exact ⟨0,[],by go_num,by simp,by simp,Hz (doub_0 d k),Row.nil _ _,Fr.refl _ _⟩
 case round=>
  obtain ⟨n,out,rfl,rfl,hg,hD,hrow,hF⟩:=hrel;have hb2:=hF.blk hb.out (by simp)
  have c0':=cell_blk hb2 0;have c1':=cell_blk hb2 1;have f0':=frozen_blk hb2 0;have f1':=frozen_blk hb2 1;simp only [List.getElem?_toArray,List.getElem?_cons_zero,List.getElem?_cons_succ] at c0' c1';obtain ⟨ao5,n5,c5,rfl⟩:=hrow.shape;have hnl:n≤576460752303423488:=by have:=hD.out.le;have:=hp59.out;omega
  by_cases hr:out.length<d.length
  ·obtain ⟨j,hj⟩: ∃j,j+1+out.length=d.length:=⟨d.length-1-out.length,by omega⟩
   obtain ⟨a1,a2⟩:=doub_a hdlt.out hdhd.out hD.out hj;obtain ⟨g,rfl⟩: ∃g,gk=g+1:=⟨gk-1,by omega⟩
   obtain ⟨b,off,rfl,hbp,hx⟩:=hcell.out j (by omega)
   have hx:=hF.cell hx (by simp)
   have hij:(d.length:Int)-1-(out.length:Int)=(j:Int):=by omega
   rw [hij];have hdg:dgt d j<10:=dgt_le hdlt.out j;have hXm:=Nat.mul_le_mul (show dgt d j≤9 by omega) hp59.out
   have gsl:IntKind.u64.wrap ((dgt d j:Int)*2^k)=((dgt d j*2^k:Nat):Int):=by
    rw [pow_int,←Int.natCast_mul];exact wrap64_lt _ (by omega)
   generalize dgt d j*2^k=X at *
   have hX:X≤5188146770730811392:=by omega
   have q2:((UInt8.ofNat ((n+X)%10)).toNat:Int)=((n:Int)+(X:Int))%10:=by
    have:(UInt8.ofNat ((n+X)%10)).toNat=(n+X)%10:=by simp;omega
    rw [this];omega
   have hsn:=Hz (bt_snoc out ((n+X)%10));have hol:out.length≤200000:=by omega
   have hBs:=hF.size;replace q2:=Hz q2;replace a2:=Hz a2;have hji:Hid ((d.length:Int)-1-((out++[(n+X)%10]).length:Int)=(j:Int)-1):=Hz (by simp;omega)
   replace hij:=Hz hij;clear hXm a1;go_wp2_with (at_builtin;refine wpList_apRow rfl _ _ rfl (B:=w.heap.size) _ (bt out) [UInt8.ofNat ((n+X)%10)] wr.heap.size 0 1 rfl rfl (rd_new (w:=wr) rfl (by simp only [enc,List.map_cons,List.map_nil];rw [q2.out])) (hrow.push rfl) (by simp;omega) (by rw [bt_length];simp;omega) ?_)
   intro v' w' hr' hgr;have hF3:Fr [] w w':=by
    refine Fr.grown ?_ hgr (fun k hk=> .inr (World.ownsRow.lt hrow k hk).1)
    exact hF.push rfl rfl rfl rfl
   rw [←hsn.out] at hr';go_wp2
   go_roundg g
   case measure=>omega
   case rel=>exact ⟨(n+X)/10,out++[(n+X)%10],by simp,by rw [hji.out],by simp;omega,a2,hr',hF3⟩
  ·obtain ⟨t,ht⟩: ∃t,t+d.length=out.length:=⟨out.length-d.length,by omega⟩
   have hij:(d.length:Int)-1-(out.length:Int)= -(t:Int)-1:=by omega
   rw [hij];have t1: ¬(0:Int)≤ -(t:Int)-1:=by omega
   have t2:decide ((0:Int)≤ -(t:Int)-1)=false:=by simp;omega
   by_cases hn0:0<n
   ·obtain ⟨a1,a2⟩:=doub_b hk hD.out (by omega) hn0
    obtain ⟨g,rfl⟩: ∃g,gk=g+1:=⟨gk-1,by omega⟩
    have t3:decide ((0:Int)<(n:Int))=true:=by simp;omega
    have q2:((UInt8.ofNat (n%10)).toNat:Int)=(n:Int)%10:=by
     have:(UInt8.ofNat (n%10)).toNat=n%10:=by simp;omega
     rw [this];omega
    have hsn:=Hz (bt_snoc out (n%10));have hol:out.length≤200000:=by omega
    have hBs:=hF.size;have htl:t≤200000:=by omega
    replace q2:=Hz q2;replace a2:=Hz a2;have hji:Hid ((d.length:Int)-1-((out++[n%10]).length:Int)= -(t:Int)-1-1):=Hz (by simp;omega)
    replace hij:=Hz hij;replace ht:=Hz ht;go_wp2_with (at_builtin;refine wpList_apRow rfl _ _ rfl (B:=w.heap.size) _ (bt out) [UInt8.ofNat (n%10)] wr.heap.size 0 1 rfl rfl (rd_new (w:=wr) rfl (by simp only [enc,List.map_cons,List.map_nil];rw [q2.out])) (hrow.push rfl) (by simp;omega) (by rw [bt_length];simp;omega) ?_)
    intro v' w' hr' hgr;have hF3:Fr [] w w':=by
     refine Fr.grown ?_ hgr (fun k hk=> .inr (World.ownsRow.lt hrow k hk).1)
     exact hF.push rfl rfl rfl rfl
    rw [←hsn.out] at hr';go_wp2
    go_roundg g
    case measure=>omega
    case rel=>exact ⟨n/10,out++[n%10],by simp,by rw [hji.out],by simp;omega,a2,hr',hF3⟩
   ·have hn00:n=0:=by omega
    subst hn00;have t3: ¬(0:Int)<((0:Nat):Int):=by simp
    have hlen:=hD.out.len;have g1: -2000000≤dp:=by omega
    obtain ⟨L,hL⟩: ∃L,L=out.length:=⟨_,rfl⟩;have s1:IntKind.i64.wrap ((L:Int)-(d.length:Int))=(L:Int)-(d.length:Int):=IntWalk.i64_in _ (by omega)
    have s2:IntKind.i64.wrap (dp+((L:Int)-(d.length:Int)))=dp+((L:Int)-(d.length:Int)):=IntWalk.i64_in _ (by omega)
    by_cases hL0:out=[]
    ·subst hL0;have hd0:d=[]:=by
      cases hdd:d with
      |nil=>rfl
      |cons x l=>exact absurd (by rw [hdd];simp) hr
     subst hd0;have hdp0:dp=0:=hN.out.nil rfl;subst hdp0;obtain ⟨ao6,c6,hv6⟩: ∃ao6 c6,(Value.slice ao5 n5 c5)= .slice ao6 0 c6:=by
      rcases hrow.2 with ⟨hv,_⟩|⟨g,cap,cur,hv,_⟩
      ·exact ⟨_,_,hv⟩
      ·exact ⟨_,_,hv⟩
     injection hv6 with h1 h2 h3
     subst h1 h2 h3;subst hL;obtain ⟨w4,hw4⟩: ∃w4,w4=(wr.setCell ⟨p,1,none⟩ (.int .i64 0)).drew:=⟨_,rfl⟩;have hF4:Fr [p] wr w4:=by rw [hw4];exact ((Fr.refl _ _).setCell (by simp) _).drew
     have hb4:w4.heap[p]? =some (.cells #[.slice ao 0 c,.int .i64 0] 330 (0,0)):=by
      rw [hw4];exact (blk_setCell hb2 1 _)
     replace hw4:=Hz hw4;have c04:=cell_blk hb4 0;have f04:=frozen_blk hb4 0;simp only [List.getElem?_toArray,List.getElem?_cons_zero,List.getElem?_cons_succ] at c04;have KT:=Hz (fun (W:World) (hDD:DecP W p [] 0)=>trim hDD (by simp) (by simp))
     simp only [List.length_nil] at c0' hb2;go_wp2
     go_region
     go_wp2
     go_loopg [7,8] 0 (fun gk v7 v8 wr2=>v7= .int .i64 0∧v8= .int .i64 (-1)∧wr2=w4)
     case atStart=>exact ⟨rfl,rfl,by rw [hw4.out]⟩
     case round=>
      obtain ⟨rfl,rfl,rfl⟩:=hrel;go_wp2_with fail
      have hF7:Fr [p] wr (wr.setCell ⟨p,0,none⟩ (.slice ao5 0 c5)):=(Fr.refl _ _).setCell (by simp) _
      have hb7:(wr.setCell ⟨p,0,none⟩ (.slice ao5 0 c5)).heap[p]? =some (.cells #[.slice ao5 0 c5,.int .i64 0] 330 (0,0)):=by
       rw [blk_setCell hb4 0 _];rfl
      have hDD:DecP (wr.setCell ⟨p,0,none⟩ (.slice ao5 0 c5)) p [] 0:=by
       exact ⟨_,hb7,((hrow.dsrc (d:=[]) hpl).fr hF4 (by simp)).fr hF7 (by simp)⟩
      refine (KT.out _ hDD).mono ?_
      rintro e w8 ⟨rfl,hD8,hf8⟩;go_wp2
      go_end0
      exact ⟨[],0,_,rfl,hD8,⟨hN.out,by simp [dV,dv],fun e=>absurd rfl e,by simp,fun e=>absurd rfl e,by omega,fun _=>rfl⟩,(((hF.mono (by simp)).trans hF4).trans hF7).trans hf8⟩
    ·obtain ⟨g,cap,cs,hv,hgB,hgb,hcap,hcs,hq⟩:=hrow.raw (fun e=>hL0 (by simpa [bt] using e))
     injection hv with h1 h2 h3
     subst h1 h2 h3;rw [bt_length,←hL] at hrow hcap;have hq':Hid (∀q,q<L→cs[q]? =some (.int .u8 (dgt out q:Int))):=Hz (fun q hq2=>by
      rw [hL] at hq2;have:=hq q (by rw [bt_length];exact hq2)
      rwa [bt_get hD.out.dig q hq2] at this)
     have hLp:0<L:=by rw [hL];cases hoo:out with|nil=>exact absurd hoo hL0|cons x l=>simp
     clear hq;rw [bt_length,←hL];replace hL:=Hz hL;replace ht:=Hz ht;replace hij:=Hz hij;replace hlen:=Hz hlen;go_wp2
     go_region
     go_wp2;obtain ⟨w4,hw4⟩: ∃w4,w4=(wr.setCell ⟨p,1,none⟩ (.int .i64 (dp+((L:Int)-(d.length:Int))))).drew:=⟨_,rfl⟩;have hF4:Fr [p] wr w4:=by rw [hw4];exact ((Fr.refl _ _).setCell (by simp) _).drew
     have hb4:w4.heap[p]? =some (.cells #[.slice ao d.length c,.int .i64 (dp+((L:Int)-(d.length:Int)))] 330 (0,0)):=by
      rw [hw4];exact (blk_setCell hb2 1 _)
     have hgp:g≠p:=by omega
     have hLb:L≤200000:=by have:=hL.out;have:=hlen.out;omega
     have hgb4:w4.heap[g]? =some (.cells cs 5 (0,0)):=hF4.blk hgb (by simpa using hgp)
     replace hw4:=Hz hw4;replace hgb4:=Hz hgb4;replace hb4:=Hz hb4;have hp4:=blk_lt' hb4.out;clear c0' c1' f0' f1' hb2 hrow hgb
     go_loopg [7,8] (L+1) (fun gk v7 v8 wr2=> ∃(i:Nat) (cs2:Array Value),v7= .int .i64 (i:Int)∧v8= .int .i64 ((L:Int)-1-(i:Int))∧2*i+gk=L+1∧wr2.heap[g]? =some (.cells cs2 5 (0,0))∧cs2.size=c5∧Hid (∀q,q<L→cs2[q]? =some (.int .u8 (turnE out i q:Int)))∧Fr [g] w4 wr2)
     case atStart=>exact ⟨0,cs,by go_num,by simp;unfold wrap64;omega,by omega,by rw [←hw4.out];exact hgb4.out,hcs,Hz (fun q hql=>by rw [turnE_0 out q (by rw [←hL.out];exact hql)];exact hq'.out q hql),by rw [←hw4.out];exact Fr.refl _ _⟩
     case round=>
      obtain ⟨i,cs2,rfl,rfl,hik,hgb5,hcs2,hq2,hF5⟩:=hrel;by_cases hij2:2*i+1<L
      ·have t5:(i:Int)<(L:Int)-1-(i:Int):=by omega
       obtain ⟨j,hj⟩: ∃j,i+j+1=L:=⟨L-1-i,by omega⟩
       have hji:(L:Int)-1-(i:Int)=(j:Int):=by omega
       rw [hji] at t5 ⊢;have x1:=cell_blk hgb5 i;rw [hq2.out i (by omega)] at x1
       have x2:=cell_blk hgb5 j;rw [hq2.out j (by omega)] at x2
       have f1:=frozen_blk hgb5 i;have f2:=frozen_blk hgb5 j;have b1:(i:Int)<(L:Int):=by omega
       have b2:(j:Int)<(L:Int):=by omega
       have n1: ¬i=j:=by omega
       have n2: ¬j=i:=by omega
       replace hji:=Hz hji;go_wp2
       go_region
       go_wp2
       go_roundg (gk-2)
       case measure=>omega
       case rel=>
        refine ⟨i+1,(cs2.setIfInBounds i (.int .u8 (turnE out i j:Int))).setIfInBounds j (.int .u8 (turnE out i i:Int)),by go_num,by congr 1;have:=hji.out;omega,by omega,?_,by simpa using hcs2,?_,?_⟩
        ·exact blk_setCell (blk_setCell hgb5 i _) j _
        ·refine Hz (fun q hql=> ?_)
         rw [turnE_step out i q (by rw [←hL.out];exact hql) (by rw [←hL.out];exact hij2),←hL.out,show L-1-i=j by omega]
         by_cases e1:q=i
         ·subst e1;rw [if_pos rfl,Array.getElem?_setIfInBounds_ne (by omega),Array.getElem?_setIfInBounds_self_of_lt (by omega)]
         ·rw [if_neg e1];by_cases e2:q=j
          ·subst e2;rw [if_pos rfl,Array.getElem?_setIfInBounds_self_of_lt (by simp;omega)]
          ·rw [if_neg e2,Array.getElem?_setIfInBounds_ne (by omega),Array.getElem?_setIfInBounds_ne (by omega)]
           exact hq2.out q hql
        ·exact hF5.trans ((((Fr.refl _ _).setCell (by simp) _).setCell (by simp) _).drew)
      ·have t5: ¬(i:Int)<(L:Int)-1-(i:Int):=by omega
       have hb6:=hF5.blk hb4.out (by simpa using fun e=>hgp e.symm)
       have c06:=cell_blk hb6 0;have f06:=frozen_blk hb6 0;simp only [List.getElem?_toArray,List.getElem?_cons_zero,List.getElem?_cons_succ] at c06;have hdig: ∀x,x∈out.reverse→x<10:=fun x hx=>hD.out.dig x (List.mem_reverse.1 hx)
       have KT:=Hz (fun (W:World) (hDD:DecP W p out.reverse (dp+((L:Int)-(d.length:Int))))=>trim hDD hdig (by rw [List.length_reverse,←hL.out];omega))
       go_wp2_with fail
       have hF7:Fr [p] wr (wr.setCell ⟨p,0,none⟩ (.slice (some ⟨g,0,none⟩) L c5)):=(Fr.refl _ _).setCell (by simp) _
       have hb7:(wr.setCell ⟨p,0,none⟩ (.slice (some ⟨g,0,none⟩) L c5)).heap[p]? =some (.cells #[.slice (some ⟨g,0,none⟩) L c5,.int .i64 (dp+((L:Int)-(d.length:Int)))] 330 (0,0)):=by
        rw [blk_setCell hb6 0 _];rfl
       have hgb7:=hF7.blk hgb5 (by simpa using hgp)
       have hDD:DecP (wr.setCell ⟨p,0,none⟩ (.slice (some ⟨g,0,none⟩) L c5)) p out.reverse (dp+((L:Int)-(d.length:Int))):=by
        refine ⟨_,hb7,.inr ⟨g,0,c5,by rw [List.length_reverse,←hL.out],by rw [List.length_reverse,←hL.out];exact hcap,hgp,blk_lt' hgb7,fun q hql=> ?_⟩⟩
        rw [bt_length,List.length_reverse] at hql;rw [Nat.zero_add,cell_blk hgb7,bt_get hdig q (by rw [List.length_reverse];exact hql),hq2.out q (by rw [hL.out];exact hql),turnE_end out i q hql (by rw [←hL.out];omega),dgt_reverse hql]
       refine (KT.out _ hDD).mono ?_
       rintro e w8 ⟨rfl,hD8,hf8⟩;go_wp2
       go_end0
       have hv:=hD.out.val;have htt:=ht.out;rw [Nat.zero_mul,Nat.add_zero,show d.length-out.length=0 by omega,List.drop_zero] at hv
       have hde:=double_end (d:=d) (out:=out.reverse) (dp:=dp) (k:=k) hv;rw [List.length_reverse,←hL.out] at hde;have hdne:out.reverse≠[]:=by simpa using hL0
       obtain ⟨n1,n2,n3,n4⟩:=trim_norm (d:=out.reverse) (dp:=dp+((L:Int)-(d.length:Int))) hdig (fun x l e=>by
        have e2:out=l.reverse++[x]:=by rw [←List.reverse_reverse out,e];simp
        exact hD.out.top (by omega) rfl x l.reverse e2) (by rw [List.length_reverse,←hL.out];omega)
       rw [List.length_reverse,←hL.out] at n3;have e4:=n4 hdne;have hLl:=hL.out;have hFF:Fr [p] w w8:=(((((hF.mono (by simp)).trans hF4).then_ hF5 (by simpa using .inr hgB)).trans hF7).trans hf8)
       refine ⟨_,_,_,rfl,hD8,⟨n1,n2.trans hde,fun _=> ?_,by have:=hlen.out;omega,fun _=> ?_,?_,fun e=> ?_⟩,hFF⟩
       ·rw [e4];omega
       ·rw [e4];omega
       ·rw [e4];have:=hlen.out;omega
       ·refine (dV_zero n1).1 ?_
        rw [n2,hde,e];simp [dV,dv]
end
section
set_option exponentiation.threshold 3000
open Go.RowKit
theorem half_nil {w:World} {p:Nat} {k:Nat} (h:DecP w p [] 0) (hk:k≤59):
  Calls Tryz.prog 217 #[.pointer (some ⟨p,0,none⟩),.int .i64 (k:Int)] w fun e w'=> ∃u,e= .returned u∧DecP w' p [] 0∧Fr [p] w w':=by
 obtain ⟨v,hb,hs⟩:=h;obtain ⟨ao,c,rfl⟩:=hs.shape;have c0:=cell_blk hb 0;have c1:=cell_blk hb 1;have f0:=frozen_blk hb 0;have f1:=frozen_blk hb 1;simp only [List.getElem?_toArray,List.getElem?_cons_zero,List.getElem?_cons_succ,List.length_nil] at c0 c1;have e0:((0:Int)/2^k==0)=true:=by simp
 replace hb:=Hz hb;go_enter Tryz.func217,Tryz.ntmps217
 go_wp2
 go_loopg [4,5] 0 (fun g v4 v5 wr=>v4= .int .u64 0∧v5= .int .i64 0∧wr=w)
 case atStart=>exact ⟨rfl,rfl,rfl⟩
 case round=>
  obtain ⟨rfl,rfl,rfl⟩:=hrel;go_wp2;refine bodyPost_ret (results_none rfl _ _ _) rfl ?_
  refine ⟨_,rfl,⟨.slice none 0 0,?_,.inl ⟨rfl,rfl⟩⟩,((Fr.refl _ _).setCell (by simp) _).setCell (by simp) _⟩
  rw [blk_setCell (blk_setCell hb.out 0 _) 1 _];rfl
structure UpP (d:List Nat) (dp:Int) (k c:Nat) (d':List Nat) (dp':Int):Prop where
 norm:NormD d' dp'
 val:dV d' dp'=dV d dp*2^k
 lo:d≠[]→dp-d.length≤dp'-d'.length
 len:d'.length≤d.length+19*c
 dlo:d≠[]→dp≤dp'
 dhi:dp'≤dp+19*c
 nil:d=[]→d'=[]
theorem UpP.refl {d:List Nat} {dp:Int} (h:NormD d dp):UpP d dp 0 0 d dp:=⟨h,by simp,fun _=>Int.le_refl _,by omega,fun _=>Int.le_refl _,by omega,fun e=>e⟩
theorem UpP.step {d d1 d2:List Nat} {dp dp1 dp2:Int} {k c m:Nat} (hN:NormD d dp) (h:UpP d dp k c d1 dp1) (g:DoubP d1 dp1 m d2 dp2):UpP d dp (k+m) (c+1) d2 dp2:=by
 have key:d≠[]→d1≠[]:=fun hne e=>by
  have h1:=h.val;rw [e,show dV [] dp1=0 by simp [dV,dv]] at h1
  rcases Nat.mul_eq_zero.1 h1.symm with h2|h2
  ·exact hne ((dV_zero hN).1 h2)
  ·have:0<2^k:=Nat.pow_pos (by omega)
   omega
 exact ⟨g.norm,by rw [g.val,h.val,Nat.pow_add,Nat.mul_assoc],fun e=>by have:=h.lo e;have:=g.lo (key e);omega,by have:=h.len;have:=g.len;omega,fun e=>by have:=h.dlo e;have:=g.dlo (key e);omega,by have:=h.dhi;have:=g.dhi;omega,fun e=>g.nil (h.nil e)⟩
theorem UpP.bds {d d1:List Nat} {dp dp1:Int} {k c:Nat} (h:UpP d dp k c d1 dp1) (hlo: -1100≤dp-d.length): -1100≤dp1-d1.length:=by
 by_cases hd:d=[]
 ·have e:=h.nil hd;have:=h.norm.nil e;rw [e,this];simp
 ·have:=h.lo hd;omega
theorem shift_up {w:World} {p:Nat} {d:List Nat} {dp:Int} {k:Nat} (h:DecP w p d dp) (hN:NormD d dp) (hk:k≤1200) (hl:d.length≤10000) (hlo: -1100≤dp-d.length) (hhi:dp≤10000):
  Calls Tryz.prog 210 #[.pointer (some ⟨p,0,none⟩),.int .i64 (k:Int)] w fun e w'=> ∃d' dp' u,e= .returned u∧DecP w' p d' dp'∧(∃c,c≤25∧UpP d dp k c d' dp')∧Fr [p] w w':=by
 replace hN:=Hz hN;replace h:=Hz h;go_enter Tryz.func210,Tryz.ntmps210
 go_wp2
 go_loopg [1] k (fun gk v1 wr=>v1= .int .i64 (gk:Int)∧ ∃c d1 dp1,gk+59*c=k∧Hid (UpP d dp (59*c) c d1 dp1)∧Hid (DecP wr p d1 dp1)∧Fr [p] w wr)
 case atStart=>exact ⟨rfl,0,d,dp,by omega,Hz (UpP.refl hN.out),h,Fr.refl _ _⟩
 case round=>
  obtain ⟨rfl,c,d1,dp1,hc,hU,hD,hF⟩:=hrel;have u1:=hU.out.len;have u2:=hU.out.dhi;have u3:=hU.out.bds hlo;by_cases hg:59<gk
  ·have t1:(59:Int)<(gk:Int):=by omega
   have K:=Hz (double (k:=59) hD.out hU.out.norm (by omega) (by omega) u3 (by omega))
   go_wp2_with fail
   refine K.out.mono ?_
   rintro e w2 ⟨d2,dp2,u,rfl,hD2,hP2,hF2⟩;go_wp2
   go_roundg (gk-59)
   case measure=>omega
   case rel=>exact ⟨by congr 1;omega,c+1,d2,dp2,by omega,Hz (by have:=UpP.step hN.out hU.out hP2;rwa [show 59*c+59=59*(c+1) by omega] at this),Hz hD2,hF.trans hF2⟩
  ·have t1: ¬(59:Int)<(gk:Int):=by omega
   have t2: ¬(gk:Int)< -59:=by omega
   obtain ⟨r,rfl⟩: ∃r,r=gk:=⟨_,rfl⟩;go_wp2
   go_loopg [1] 0 (fun _ v1 wr2=>v1= .int .i64 (r:Int)∧wr2=wr)
   case atStart=>exact ⟨rfl,rfl⟩
   case round=>
    obtain ⟨rfl,rfl⟩:=hrel;by_cases hr0:r=0
    ·subst hr0;have t3: ¬(0:Int)<((0:Nat):Int):=by simp
     have hcc:59*c=k:=by omega
     go_wp2
     go_end0
     exact ⟨⟨_,rfl⟩,d1,dp1,hD.out,⟨c,by omega,by rw [←hcc];exact hU.out⟩,hF⟩
    ·have t3:(0:Int)<(r:Int):=by omega
     have K:=Hz (double (k:=r) hD.out hU.out.norm (by omega) (by omega) u3 (by omega))
     go_wp2_with fail
     refine K.out.mono ?_
     rintro e w2 ⟨d2,dp2,u,rfl,hD2,hP2,hF2⟩;go_wp2
     go_end0
     have hcc:59*c+r=k:=by omega
     exact ⟨d2,dp2,_,rfl,hD2,⟨c+1,by omega,by rw [←hcc];exact UpP.step hN.out hU.out hP2⟩,hF.trans hF2⟩
structure DnP (d:List Nat) (dp:Int) (k c:Nat) (d':List Nat) (dp':Int):Prop where
 norm:NormD d' dp'
 val:dV d dp=dV d' dp'*2^k
 lo:d≠[]→dp-d.length-k≤dp'-d'.length
 len:d'.length≤d.length+k+c
 dlo:d≠[]→dp-k-c≤dp'
 dhi:d≠[]→dp'≤dp
 nil:d=[]→d'=[]
theorem DnP.refl {d:List Nat} {dp:Int} (h:NormD d dp):DnP d dp 0 0 d dp:=⟨h,by simp,fun _=>by omega,by omega,fun _=>by omega,fun _=>Int.le_refl _,fun e=>e⟩
theorem DnP.ne {d d1:List Nat} {dp dp1:Int} {k c:Nat} (hN:NormD d dp) (h:DnP d dp k c d1 dp1) (hne:d≠[]):d1≠[]:=fun e=>by
 have h1:=h.val;rw [e,show dV [] dp1=0 by simp [dV,dv],Nat.zero_mul] at h1
 exact hne ((dV_zero hN).1 h1)
theorem DnP.step {d d1 d2:List Nat} {dp dp1 dp2:Int} {k c m:Nat} (hN:NormD d dp) (hne:d≠[]) (h:DnP d dp k c d1 dp1) (g:HalfP d1 dp1 m d2 dp2):DnP d dp (k+m) (c+1) d2 dp2:=
 ⟨g.norm,by rw [h.val,g.val,Nat.pow_add,Nat.mul_assoc,Nat.mul_comm (2^m)],fun e=>by have:=h.lo e;have:=g.lo;omega,by have:=h.len;have:=g.len;omega,fun e=>by have:=h.dlo e;have:=g.dlo;omega,fun e=>by have:=h.dhi e;have:=g.dhi;omega,fun e=>absurd e hne⟩
theorem DnP.stepNil {dp:Int} {k c m:Nat} {d1:List Nat} {dp1:Int} (h:DnP [] dp k c d1 dp1):DnP [] dp (k+m) (c+1) [] 0:=
 ⟨⟨by simp,fun _=>rfl,by simp,by simp⟩,by simp [dV,dv],fun e=>absurd rfl e,by simp,fun e=>absurd rfl e,fun e=>absurd rfl e,fun _=>rfl⟩
theorem shift_dn {w:World} {p:Nat} {d:List Nat} {dp:Int} {k:Nat} (h:DecP w p d dp) (hN:NormD d dp) (hk0:0<k) (hk:k≤1090) (hl:d.length≤10000) (hlo: -1099≤dp-d.length-k) (hhi:dp≤10000):
  Calls Tryz.prog 210 #[.pointer (some ⟨p,0,none⟩),.int .i64 (-(k:Int))] w fun e w'=> ∃d' dp' u,e= .returned u∧DecP w' p d' dp'∧(∃c,c≤25∧DnP d dp k c d' dp')∧Fr [p] w w':=by
 replace hN:=Hz hN;replace h:=Hz h;have HC: ∀(w1:World) (m c k1:Nat) (d1:List Nat) (dp1:Int),1≤m→m≤59→k1+m≤k→c≤24→DnP d dp k1 c d1 dp1→DecP w1 p d1 dp1→Calls Tryz.prog 217 #[.pointer (some ⟨p,0,none⟩),.int .i64 (m:Int)] w1 fun e w'=> ∃d2 dp2 u,e= .returned u∧DecP w' p d2 dp2∧DnP d dp (k1+m) (c+1) d2 dp2∧Fr [p] w1 w':=by
  intro w1 m c k1 d1 dp1 hm1 hm hkm hc hU hD;by_cases hd:d=[]
  ·have e:=hU.nil hd;have e2:=hU.norm.nil e;subst e e2;subst hd;refine (half_nil hD hm).mono ?_
   rintro e w2 ⟨u,rfl,hD2,hF2⟩;exact ⟨[],0,u,rfl,hD2,DnP.stepNil hU,hF2⟩
  ·have u1:=hU.len;have u2:=hU.dhi hd;have u3:=hU.lo hd;refine (half hD hU.norm (DnP.ne hN.out hU hd) hm1 hm (by omega) (by omega) (by omega)).mono ?_
   rintro e w2 ⟨d2,dp2,u,rfl,hD2,hP2,hF2⟩;exact ⟨d2,dp2,u,rfl,hD2,DnP.step hN.out hd hU hP2,hF2⟩
 replace HC:=Hz HC;have t0: ¬(59:Int)< -(k:Int):=by omega
 go_enter Tryz.func210,Tryz.ntmps210
 go_wp2
 go_loopg [1] 0 (fun gk v1 wr=>v1= .int .i64 (-(k:Int))∧wr=w)
 case atStart=>exact ⟨rfl,rfl⟩
 case round=>
  obtain ⟨rfl,rfl⟩:=hrel;go_wp2
  go_loopg [1] k (fun gk v1 wr2=>v1= .int .i64 (-(gk:Int))∧ ∃c d1 dp1,gk+59*c=k∧Hid (DnP d dp (59*c) c d1 dp1)∧Hid (DecP wr2 p d1 dp1)∧0<gk∧Fr [p] wr wr2)
  case atStart=>exact ⟨rfl,0,d,dp,by omega,Hz (DnP.refl hN.out),h,hk0,Fr.refl _ _⟩
  case round=>
   obtain ⟨rfl,c,d1,dp1,hc,hU,hD,hg0,hF⟩:=hrel;by_cases hg:59<gk
   ·have t1: -(gk:Int)< -59:=by omega
    have K:=Hz (HC.out _ 59 c (59*c) d1 dp1 (by omega) (by omega) (by omega) (by omega) hU.out hD.out)
    go_wp2_with fail
    refine K.out.mono ?_
    rintro e w2 ⟨d2,dp2,u,rfl,hD2,hP2,hF2⟩;go_wp2
    go_roundg (gk-59)
    case measure=>omega
    case rel=>exact ⟨by congr 1;omega,c+1,d2,dp2,by omega,Hz (by rwa [show 59*c+59=59*(c+1) by omega] at hP2),Hz hD2,by omega,hF.trans hF2⟩
   ·have t1: ¬ -(gk:Int)< -59:=by omega
    have t3: ¬(0:Int)< -(gk:Int):=by omega
    have t4: -(gk:Int)<0:=by omega
    have K:=Hz (HC.out _ gk c (59*c) d1 dp1 (by omega) (by omega) (by omega) (by omega) hU.out hD.out)
    have s1: - -(gk:Int)=(gk:Int):=by omega
    go_wp2_with fail
    refine K.out.mono ?_
    rintro e w2 ⟨d2,dp2,u,rfl,hD2,hP2,hF2⟩;go_wp2
    go_end0
    have hcc:59*c+gk=k:=by omega
    exact ⟨d2,dp2,_,rfl,hD2,⟨c+1,by omega,by rw [←hcc];exact hP2⟩,hF.trans hF2⟩
end
section
set_option exponentiation.threshold 3000
open Go.RowKit
theorem DecP.cells {w:World} {p:Nat} {d:List Nat} {dp:Int} (h:DecP w p d dp) (hd: ∀x,x∈d→x<10): ∃ao c,w.cell? ⟨p,0,none⟩=some (.slice ao d.length c)∧w.cell? ⟨p,1,none⟩=some (.int .i64 dp)∧d.length≤c+0*p∧(∀i,i<d.length→ ∃b off,ao=some ⟨b,off,none⟩∧w.cell? ⟨b,off+i,none⟩=some (.int .u8 (dgt d i:Int))):=by
 obtain ⟨v,hb,hs⟩:=h;have c0:=cell_blk hb 0;have c1:=cell_blk hb 1;simp only [List.getElem?_toArray,List.getElem?_cons_zero,List.getElem?_cons_succ] at c0 c1;rcases hs with ⟨rfl,rfl⟩|⟨b,off,c,rfl,h1,h2,h3,h4⟩
 ·exact ⟨none,0,c0,c1,by simp,fun i hi=>by simp at hi⟩
 ·refine ⟨_,c,c0,c1,by omega,fun i hi=>⟨b,off,rfl,?_⟩⟩
  have:=h4 i (by rw [bt_length];exact hi)
  rwa [bt_get hd i hi] at this
theorem dgi_nat (d:List Nat) (i:Nat):dgi d (i:Int)=dgt d i:=by
 unfold dgi;rw [if_neg (by omega)]
 simp
theorem digit {w:World} {p:Nat} {d:List Nat} {dp:Int} (h:DecP w p d dp) (hd: ∀x,x∈d→x<10) (i:Int):
  Calls Tryz.prog 222 #[.pointer (some ⟨p,0,none⟩),.int .i64 i] w fun e w'=>e= .returned (.int .u8 (dgi d i:Int))∧w'=w:=by
 obtain ⟨ao,c,c0,c1,hc,hx⟩:=h.cells hd;by_cases h0:0≤i
 ·obtain ⟨j,rfl⟩: ∃j:Nat,i=(j:Int):=⟨i.toNat,by omega⟩
  rw [dgi_nat];have t0:decide ((0:Int)≤(j:Int))=true:=by simp
  by_cases h1:j<d.length
  ·obtain ⟨b,off,rfl,hx1⟩:=hx j h1;have t1:decide ((j:Int)<(d.length:Int))=true:=by simp;omega
   have t2:(j:Int)<(d.length:Int):=by omega
   go_enter Tryz.func222,Tryz.ntmps222
   go_wp2;go_ret
   exact ⟨rfl,rfl⟩
  ·rw [dgt_out (by omega)]
   have t1:decide ((j:Int)<(d.length:Int))=false:=by simp;omega
   go_enter Tryz.func222,Tryz.ntmps222
   go_wp2;go_ret
   exact ⟨rfl,rfl⟩
 ·have e:dgi d i=0:=if_pos (by omega)
  rw [e];have t0:decide ((0:Int)≤i)=false:=by simp;omega
  go_enter Tryz.func222,Tryz.ntmps222
  go_wp2;go_ret
  exact ⟨rfl,rfl⟩
def CmpV (x y:Nat) (c:Int):Prop:=(c<0∧x<y)∨(c=0∧x=y)∨(0<c∧y<x)
def CmpP (x y:Nat) (w:World) (e:Ending) (w':World):Prop:= ∃c,e= .returned (.int .i64 c)∧CmpV x y c∧ ∃m,w'=w.drewN m
theorem cmpD {w:World} {p q:Nat} {a b:List Nat} {x y:Int} (ha:DecP w p a x) (hb:DecP w q b y) (na:NormD a x) (nb:NormD b y) (la: -1100≤x-a.length) (lb: -1100≤y-b.length) (xa:x≤100000) (xb:y≤100000) (al:a.length≤100000) (bl:b.length≤100000):
  Calls Tryz.prog 220 #[.pointer (some ⟨p,0,none⟩),.pointer (some ⟨q,0,none⟩)] w (CmpP (dV a x) (dV b y) w):=by
 obtain ⟨ao,c,a0,a1,_,_⟩:=ha.cells na.lt;obtain ⟨bo,c',b0,b1,_,_⟩:=hb.cells nb.lt;have KA:=Hz (fun (n i:Nat)=>(by have:=digit (ha.fr ((Fr.refl [] w).drewN n)) na.lt (i:Int);rwa [dgi_nat] at this:Calls Tryz.prog 222 #[.pointer (some ⟨p,0,none⟩),.int .i64 (i:Int)] (w.drewN n) fun e w'=>e= .returned (.int .u8 (dgt a i:Int))∧w'=w.drewN n))
 have KB:=Hz (fun (n i:Nat)=>(by have:=digit (hb.fr ((Fr.refl [] w).drewN n)) nb.lt (i:Int);rwa [dgi_nat] at this:Calls Tryz.prog 222 #[.pointer (some ⟨q,0,none⟩),.int .i64 (i:Int)] (w.drewN n) fun e w'=>e= .returned (.int .u8 (dgt b i:Int))∧w'=w.drewN n))
 by_cases ha0:a=[]
 ·have t0:((a.length:Int)==0)=true:=by rw [ha0];rfl
  have hV:CmpV (dV a x) (dV b y) (-(b.length:Int)):=by
   have e1:=(dV_zero na).2 ha0;rw [e1];by_cases hb0:b=[]
   ·exact .inr (.inl ⟨by rw [hb0];rfl,((dV_zero nb).2 hb0).symm⟩)
   ·have h1:dV b y≠0:=fun e=>hb0 ((dV_zero nb).1 e)
    have h2:b.length≠0:=fun e=>hb0 (List.eq_nil_of_length_eq_zero e)
    exact .inl ⟨by omega,by omega⟩
  replace hV:=Hz hV;have s1:IntKind.i64.wrap ((a.length:Int)-(b.length:Int))= -(b.length:Int):=by
   rw [ha0];exact (IntWalk.i64_in _ (by simp;omega)).trans (by simp)
  clear ha0;go_enter Tryz.func220,Tryz.ntmps220
  go_wp2
  go_quiet (fail)
  go_wp2;go_ret
  exact ⟨_,rfl,hV.out,_,rfl⟩
 ·have hal:0<a.length:=by cases haa:a with|nil=>exact absurd haa ha0|cons u l=>simp
  have t0:((a.length:Int)==0)=false:=by simp;omega
  by_cases hb0:b=[]
  ·have t1:((b.length:Int)==0)=true:=by rw [hb0];rfl
   have hV:CmpV (dV a x) (dV b y) (a.length:Int):=by
    have e1:=(dV_zero nb).2 hb0;rw [e1];have h1:dV a x≠0:=fun e=>ha0 ((dV_zero na).1 e)
    exact .inr (.inr ⟨by omega,by omega⟩)
   replace hV:=Hz hV;have s1:IntKind.i64.wrap ((a.length:Int)-(b.length:Int))=(a.length:Int):=by
    rw [hb0];exact (IntWalk.i64_in _ (by simp;omega)).trans (by simp)
   clear ha0 hb0;go_enter Tryz.func220,Tryz.ntmps220
   go_wp2
   go_quiet (fail)
   go_wp2;go_ret
   exact ⟨_,rfl,hV.out,_,rfl⟩
  ·have hbl:0<b.length:=by cases hbb:b with|nil=>exact absurd hbb hb0|cons u l=>simp
   have t1:((b.length:Int)==0)=false:=by simp;omega
   by_cases hxy:x=y
   ·subst hxy;have t2:(x !=x)=false:=by simp
    have hna:=Hz na.lt;have hnb:=Hz nb.lt;clear ha0 hb0;go_enter Tryz.func220,Tryz.ntmps220
    go_wp2
    go_quiet (fail)
    obtain ⟨wq,hwq⟩: ∃wq,wq=w.drewN nq:=⟨_,rfl⟩;have a0':wq.cell? ⟨p,0,none⟩=some (.slice ao a.length c):=by rw [hwq];exact a0
    have b0':wq.cell? ⟨q,0,none⟩=some (.slice bo b.length c'):=by rw [hwq];exact b0
    rw [←hwq];replace hwq:=Hz hwq;go_wp2
    go_loopg [5] (a.length+b.length) (fun gk v5 wr=> ∃i:Nat,v5= .int .i64 (i:Int)∧i+gk=a.length+b.length∧Hid (∀j,j<i→dgt a j=dgt b j)∧wr=wq)
    case atStart=>exact ⟨0,by go_num,by omega,Hz (fun j hj=>by omega),rfl⟩
    case round=>
     obtain ⟨i,rfl,hig,heq,rfl⟩:=hrel;by_cases hgo:i<a.length∨i<b.length
     ·obtain ⟨g,rfl⟩: ∃g,gk=g+1:=⟨gk-1,by omega⟩
      have KA':=KA.out nq i;have KB':=KB.out nq i;rw [←hwq.out] at KA' KB';replace KA':=Hz KA';replace KB':=Hz KB';have da:=dgt_le hna.out i;have db:=dgt_le hnb.out i;have key: ∀b1:Bool,decide ((i:Int)<(a.length:Int))=b1→(b1=true∨(i:Int)<(b.length:Int))→dgt a i=dgt b i→((dgt a i:Int) !=(dgt b i:Int))=false:=fun _ _ _ e=>by rw [e];simp
      by_cases he:dgt a i=dgt b i
      ·have t6:((dgt a i:Int) !=(dgt b i:Int))=false:=by rw [he];simp
       have heq2:Hid (∀j,j<i+1→dgt a j=dgt b j):=Hz (fun j hj=>by
        by_cases e:j=i
        ·rw [e];exact he
        ·exact heq.out j (by omega))
       clear he key;by_cases hia:i<a.length
       ·have t4:decide ((i:Int)<(a.length:Int))=true:=by simp;omega
        have hil:i≤200000:=by omega
        clear hgo;go_wp2_with fail
        refine KA'.out.mono ?_
        rintro e wA ⟨rfl,rfl⟩;go_wp2_with fail
        refine KB'.out.mono ?_
        rintro e wB ⟨rfl,rfl⟩;go_wp2
        go_roundg g
        case measure=>omega
        case rel=>exact ⟨i+1,by go_num,by omega,heq2,rfl⟩
       ·have t4:decide ((i:Int)<(a.length:Int))=false:=by simp;omega
        have t5:(i:Int)<(b.length:Int):=by omega
        have hil:i≤200000:=by omega
        clear hgo;go_wp2_with fail
        refine KA'.out.mono ?_
        rintro e wA ⟨rfl,rfl⟩;go_wp2_with fail
        refine KB'.out.mono ?_
        rintro e wB ⟨rfl,rfl⟩;go_wp2
        go_roundg g
        case measure=>omega
        case rel=>exact ⟨i+1,by go_num,by omega,heq2,rfl⟩
      ·have t6:((dgt a i:Int) !=(dgt b i:Int))=true:=by simp;omega
       have hV:CmpV (dV a x) (dV b x) ((dgt a i:Int)-(dgt b i:Int)):=by
        by_cases hlt:dgt a i<dgt b i
        ·have hib:i<b.length:=by
          by_cases e:i<b.length
          ·exact e
          ·rw [dgt_out (show b.length≤i by omega)] at hlt;omega
         exact .inl ⟨by omega,lt_digit hna.out la lb i hib heq.out hlt⟩
        ·have hia:i<a.length:=by
          by_cases e:i<a.length
          ·exact e
          ·rw [dgt_out (show a.length≤i by omega)] at he hlt;omega
         exact .inr (.inr ⟨by omega,lt_digit hnb.out lb la i hia (fun j hj=>(heq.out j hj).symm) (by omega)⟩)
       replace hV:=Hz hV;have s1:IntKind.i64.wrap ((dgt a i:Int)-(dgt b i:Int))=(dgt a i:Int)-(dgt b i:Int):=IntWalk.i64_in _ (by omega)
       clear he key;by_cases hia:i<a.length
       ·have t4:decide ((i:Int)<(a.length:Int))=true:=by simp;omega
        clear hgo;go_wp2_with fail
        refine KA'.out.mono ?_
        rintro e wA ⟨rfl,rfl⟩;go_wp2_with fail
        refine KB'.out.mono ?_
        rintro e wB ⟨rfl,rfl⟩;go_wp2_with fail
        refine KA'.out.mono ?_
        rintro e wA ⟨rfl,rfl⟩;go_wp2_with fail
        refine KB'.out.mono ?_
        rintro e wB ⟨rfl,rfl⟩;go_wp2;go_ret
        exact ⟨_,rfl,hV.out,_,hwq.out⟩
       ·have t4:decide ((i:Int)<(a.length:Int))=false:=by simp;omega
        have t5:(i:Int)<(b.length:Int):=by omega
        clear hgo;go_wp2_with fail
        refine KA'.out.mono ?_
        rintro e wA ⟨rfl,rfl⟩;go_wp2_with fail
        refine KB'.out.mono ?_
        rintro e wB ⟨rfl,rfl⟩;go_wp2_with fail
        refine KA'.out.mono ?_
        rintro e wA ⟨rfl,rfl⟩;go_wp2_with fail
        refine KB'.out.mono ?_
        rintro e wB ⟨rfl,rfl⟩;go_wp2;go_ret
        exact ⟨_,rfl,hV.out,_,hwq.out⟩
     ·have t4:decide ((i:Int)<(a.length:Int))=false:=by simp;omega
      have t5: ¬(i:Int)<(b.length:Int):=by omega
      have hV:CmpV (dV a x) (dV b x) 0:= .inr (.inl ⟨rfl,eq_digits la lb (fun j hj=>heq.out j (by omega))⟩)
      replace hV:=Hz hV;go_wp2;go_ret
      exact ⟨_,rfl,hV.out,_,hwq.out⟩
   ·have t2:(x !=y)=true:=by simpa using hxy
    have hV:CmpV (dV a x) (dV b y) (x-y):=by
     by_cases h:x<y
     ·exact .inl ⟨by omega,lt_dp na nb hb0 la lb h⟩
     ·exact .inr (.inr ⟨by omega,lt_dp nb na ha0 lb la (by omega)⟩)
    replace hV:=Hz hV;have s1:IntKind.i64.wrap (x-y)=x-y:=IntWalk.i64_in _ (by omega)
    clear ha0 hb0 hxy;go_enter Tryz.func220,Tryz.ntmps220
    go_wp2
    go_quiet (fail)
    go_wp2
    go_quiet (fail)
    go_wp2;go_ret
    exact ⟨_,rfl,hV.out,_,World.drewN_drewN _ _ _⟩
end
end Go.Proofs.YteodinhkhhaafaaGreatDoor
