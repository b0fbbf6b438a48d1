/- Walks of the program, and plain facts. -/
import Derived.Test.YteodinhkhhaafaaGreatDoorEaq
set_option linter.unusedVariables false
set_option linter.unusedSimpArgs false
set_option maxRecDepth 100000
set_option maxHeartbeats 6400000
namespace Go.Proofs.YteodinhkhhaafaaGreatDoor
section
set_option exponentiation.threshold 3000
open Go.RowKit
theorem half_nil {w:World} {p:Nat} {k:Nat} (h:DecP w p [] 0) (hk:k≤59):
  Calls Tryz.prog 217 #[.pointer (some ⟨p,0,none⟩),.int .i64 (k:Int)] w fun e w'=> ∃u,e= .returned u∧DecP w' p [] 0∧Fr [p] w w':=by
 obtain ⟨v,hb,hs⟩:=h;obtain ⟨ao,c,rfl⟩:=hs.shape;have c0:=cell_blk hb 0;have c1:=cell_blk hb 1;have f0:=frozen_blk hb 0;have f1:=frozen_blk hb 1;simp only [List.getElem?_toArray,List.getElem?_cons_zero,List.getElem?_cons_succ,List.length_nil] at c0 c1;have e0:((0:Int)/2^k==0)=true:=by simp
 replace hb:=Hz hb;go_enter Tryz.func217,Tryz.ntmps217
 go_wp2
 go_loopg [4,5] 0 (fun g v4 v5 wr=>v4= .int .u64 0∧v5= .int .i64 0∧wr=w)
 case atStart=>exact ⟨rfl,rfl,rfl⟩
 case round=>
  obtain ⟨rfl,rfl,rfl⟩:=hrel;go_wp2;refine bodyPost_ret (results_none rfl _ _ _) rfl ?_
  refine ⟨_,rfl,⟨.slice none 0 0,?_,.inl ⟨rfl,rfl⟩⟩,((Fr.refl _ _).setCell (by simp) _).setCell (by simp) _⟩
  rw [blk_setCell (blk_setCell hb.out 0 _) 1 _];rfl
structure UpP (d:List Nat) (dp:Int) (k c:Nat) (d':List Nat) (dp':Int):Prop where
 norm:NormD d' dp'
 val:dV d' dp'=dV d dp*2^k
 lo:d≠[]→dp-d.length≤dp'-d'.length
 len:d'.length≤d.length+19*c
 dlo:d≠[]→dp≤dp'
 dhi:dp'≤dp+19*c
 nil:d=[]→d'=[]
theorem UpP.refl {d:List Nat} {dp:Int} (h:NormD d dp):UpP d dp 0 0 d dp:=⟨h,by simp,fun _=>Int.le_refl _,by omega,fun _=>Int.le_refl _,by omega,fun e=>e⟩
theorem UpP.step {d d1 d2:List Nat} {dp dp1 dp2:Int} {k c m:Nat} (hN:NormD d dp) (h:UpP d dp k c d1 dp1) (g:DoubP d1 dp1 m d2 dp2):UpP d dp (k+m) (c+1) d2 dp2:=by
 have key:d≠[]→d1≠[]:=fun hne e=>by
  have h1:=h.val;rw [e,show dV [] dp1=0 by simp [dV,dv]] at h1
  rcases Nat.mul_eq_zero.1 h1.symm with h2|h2
  ·exact hne ((dV_zero hN).1 h2)
  ·have:0<2^k:=Nat.pow_pos (by omega)
   omega
 exact ⟨g.norm,by rw [g.val,h.val,Nat.pow_add,Nat.mul_assoc],fun e=>by have:=h.lo e;have:=g.lo (key e);omega,by have:=h.len;have:=g.len;omega,fun e=>by have:=h.dlo e;have:=g.dlo (key e);omega,by have:=h.dhi;have:=g.dhi;omega,fun e=>g.nil (h.nil e)⟩
theorem UpP.bds {d d1:List Nat} {dp dp1:Int} {k c:Nat} (h:UpP d dp k c d1 dp1) (hlo: -1100≤dp-d.length): -1100≤dp1-d1.length:=by
 by_cases hd:d=[]
 ·have e:=h.nil hd;have:=h.norm.nil e;rw [e,this];simp
 ·have:=h.lo hd;omega
theorem shift_up {w:World} {p:Nat} {d:List Nat} {dp:Int} {k:Nat} (h:DecP w p d dp) (hN:NormD d dp) (hk:k≤1200) (hl:d.length≤10000) (hlo: -1100≤dp-d.length) (hhi:dp≤10000):
  Calls Tryz.prog 210 #[.pointer (some ⟨p,0,none⟩),.int .i64 (k:Int)] w fun e w'=> ∃d' dp' u,e= .returned u∧DecP w' p d' dp'∧(∃c,c≤25∧UpP d dp k c d' dp')∧Fr [p] w w':=by
 replace hN:=Hz hN;replace h:=Hz h;go_enter Tryz.func210,Tryz.ntmps210
 go_wp2
 go_loopg [1] k (fun gk v1 wr=>v1= .int .i64 (gk:Int)∧ ∃c d1 dp1,gk+59*c=k∧Hid (UpP d dp (59*c) c d1 dp1)∧Hid (DecP wr p d1 dp1)∧Fr [p] w wr)
 case atStart=>exact ⟨rfl,0,d,dp,by omega,Hz (UpP.refl hN.out),h,Fr.refl _ _⟩
 case round=>
  obtain ⟨rfl,c,d1,dp1,hc,hU,hD,hF⟩:=hrel;have u1:=hU.out.len;have u2:=hU.out.dhi;have u3:=hU.out.bds hlo;by_cases hg:59<gk
  ·have t1:(59:Int)<(gk:Int):=by omega
   have K:=Hz (double (k:=59) hD.out hU.out.norm (by omega) (by omega) u3 (by omega))
   go_wp2_with fail
   refine K.out.mono ?_
   rintro e w2 ⟨d2,dp2,u,rfl,hD2,hP2,hF2⟩;go_wp2
   go_roundg (gk-59)
   case measure=>omega
   case rel=>exact ⟨by congr 1;omega,c+1,d2,dp2,by omega,Hz (by have:=UpP.step hN.out hU.out hP2;rwa [show 59*c+59=59*(c+1) by omega] at this),Hz hD2,hF.trans hF2⟩
  ·have t1: ¬(59:Int)<(gk:Int):=by omega
   have t2: ¬(gk:Int)< -59:=by omega
   obtain ⟨r,rfl⟩: ∃r,r=gk:=⟨_,rfl⟩;go_wp2
   go_loopg [1] 0 (fun _ v1 wr2=>v1= .int .i64 (r:Int)∧wr2=wr)
   case atStart=>exact ⟨rfl,rfl⟩
   case round=>
    obtain ⟨rfl,rfl⟩:=hrel;by_cases hr0:r=0
    ·subst hr0;have t3: ¬(0:Int)<((0:Nat):Int):=by simp
     have hcc:59*c=k:=by omega
     go_wp2
     go_end0
     exact ⟨⟨_,rfl⟩,d1,dp1,hD.out,⟨c,by omega,by rw [←hcc];exact hU.out⟩,hF⟩
    ·have t3:(0:Int)<(r:Int):=by omega
     have K:=Hz (double (k:=r) hD.out hU.out.norm (by omega) (by omega) u3 (by omega))
     go_wp2_with fail
     refine K.out.mono ?_
     rintro e w2 ⟨d2,dp2,u,rfl,hD2,hP2,hF2⟩;go_wp2
     go_end0
     have hcc:59*c+r=k:=by omega
     exact ⟨d2,dp2,_,rfl,hD2,⟨c+1,by omega,by rw [←hcc];exact UpP.step hN.out hU.out hP2⟩,hF.trans hF2⟩
structure DnP (d:List Nat) (dp:Int) (k c:Nat) (d':List Nat) (dp':Int):Prop where
 norm:NormD d' dp'
 val:dV d dp=dV d' dp'*2^k
 lo:d≠[]→dp-d.length-k≤dp'-d'.length
 len:d'.length≤d.length+k+c
 dlo:d≠[]→dp-k-c≤dp'
 dhi:d≠[]→dp'≤dp
 nil:d=[]→d'=[]
theorem DnP.refl {d:List Nat} {dp:Int} (h:NormD d dp):DnP d dp 0 0 d dp:=⟨h,by simp,fun _=>by omega,by omega,fun _=>by omega,fun _=>Int.le_refl _,fun e=>e⟩
theorem DnP.ne {d d1:List Nat} {dp dp1:Int} {k c:Nat} (hN:NormD d dp) (h:DnP d dp k c d1 dp1) (hne:d≠[]):d1≠[]:=fun e=>by
 have h1:=h.val;rw [e,show dV [] dp1=0 by simp [dV,dv],Nat.zero_mul] at h1
 exact hne ((dV_zero hN).1 h1)
theorem DnP.step {d d1 d2:List Nat} {dp dp1 dp2:Int} {k c m:Nat} (hN:NormD d dp) (hne:d≠[]) (h:DnP d dp k c d1 dp1) (g:HalfP d1 dp1 m d2 dp2):DnP d dp (k+m) (c+1) d2 dp2:=
 ⟨g.norm,by rw [h.val,g.val,Nat.pow_add,Nat.mul_assoc,Nat.mul_comm (2^m)],fun e=>by have:=h.lo e;have:=g.lo;omega,by have:=h.len;have:=g.len;omega,fun e=>by have:=h.dlo e;have:=g.dlo;omega,fun e=>by have:=h.dhi e;have:=g.dhi;omega,fun e=>absurd e hne⟩
theorem DnP.stepNil {dp:Int} {k c m:Nat} {d1:List Nat} {dp1:Int} (h:DnP [] dp k c d1 dp1):DnP [] dp (k+m) (c+1) [] 0:=
 ⟨⟨by simp,fun _=>rfl,by simp,by simp⟩,by simp [dV,dv],fun e=>absurd rfl e,by simp,fun e=>absurd rfl e,fun e=>absurd rfl e,fun _=>rfl⟩
theorem shift_dn {w:World} {p:Nat} {d:List Nat} {dp:Int} {k:Nat} (h:DecP w p d dp) (hN:NormD d dp) (hk0:0<k) (hk:k≤1090) (hl:d.length≤10000) (hlo: -1099≤dp-d.length-k) (hhi:dp≤10000):
  Calls Tryz.prog 210 #[.pointer (some ⟨p,0,none⟩),.int .i64 (-(k:Int))] w fun e w'=> ∃d' dp' u,e= .returned u∧DecP w' p d' dp'∧(∃c,c≤25∧DnP d dp k c d' dp')∧Fr [p] w w':=by
 replace hN:=Hz hN;replace h:=Hz h;have HC: ∀(w1:World) (m c k1:Nat) (d1:List Nat) (dp1:Int),1≤m→m≤59→k1+m≤k→c≤24→DnP d dp k1 c d1 dp1→DecP w1 p d1 dp1→Calls Tryz.prog 217 #[.pointer (some ⟨p,0,none⟩),.int .i64 (m:Int)] w1 fun e w'=> ∃d2 dp2 u,e= .returned u∧DecP w' p d2 dp2∧DnP d dp (k1+m) (c+1) d2 dp2∧Fr [p] w1 w':=by
  intro w1 m c k1 d1 dp1 hm1 hm hkm hc hU hD;by_cases hd:d=[]
  ·have e:=hU.nil hd;have e2:=hU.norm.nil e;subst e e2;subst hd;refine (half_nil hD hm).mono ?_
   rintro e w2 ⟨u,rfl,hD2,hF2⟩;exact ⟨[],0,u,rfl,hD2,DnP.stepNil hU,hF2⟩
  ·have u1:=hU.len;have u2:=hU.dhi hd;have u3:=hU.lo hd;refine (half hD hU.norm (DnP.ne hN.out hU hd) hm1 hm (by omega) (by omega) (by omega)).mono ?_
   rintro e w2 ⟨d2,dp2,u,rfl,hD2,hP2,hF2⟩;exact ⟨d2,dp2,u,rfl,hD2,DnP.step hN.out hd hU hP2,hF2⟩
 replace HC:=Hz HC;have t0: ¬(59:Int)< -(k:Int):=by omega
 go_enter Tryz.func210,Tryz.ntmps210
 go_wp2
 go_loopg [1] 0 (fun gk v1 wr=>v1= .int .i64 (-(k:Int))∧wr=w)
 case atStart=>exact ⟨rfl,rfl⟩
 case round=>
  obtain ⟨rfl,rfl⟩:=hrel;go_wp2
  go_loopg [1] k (fun gk v1 wr2=>v1= .int .i64 (-(gk:Int))∧ ∃c d1 dp1,gk+59*c=k∧Hid (DnP d dp (59*c) c d1 dp1)∧Hid (DecP wr2 p d1 dp1)∧0<gk∧Fr [p] wr wr2)
  case atStart=>exact ⟨rfl,0,d,dp,by omega,Hz (DnP.refl hN.out),h,hk0,Fr.refl _ _⟩
  case round=>
   obtain ⟨rfl,c,d1,dp1,hc,hU,hD,hg0,hF⟩:=hrel;by_cases hg:59<gk
   ·have t1: -(gk:Int)< -59:=by omega
    have K:=Hz (HC.out _ 59 c (59*c) d1 dp1 (by omega) (by omega) (by omega) (by omega) hU.out hD.out)
    go_wp2_with fail
    refine K.out.mono ?_
    rintro e w2 ⟨d2,dp2,u,rfl,hD2,hP2,hF2⟩;go_wp2
    go_roundg (gk-59)
    case measure=>omega
    case rel=>exact ⟨by congr 1;omega,c+1,d2,dp2,by omega,Hz (by rwa [show 59*c+59=59*(c+1) by omega] at hP2),Hz hD2,by omega,hF.trans hF2⟩
   ·have t1: ¬ -(gk:Int)< -59:=by omega
    have t3: ¬(0:Int)< -(gk:Int):=by omega
    have t4: -(gk:Int)<0:=by omega
    have K:=Hz (HC.out _ gk c (59*c) d1 dp1 (by omega) (by omega) (by omega) (by omega) hU.out hD.out)
    have s1: - -(gk:Int)=(gk:Int):=by omega
    go_wp2_with fail
    refine K.out.mono ?_
    rintro e w2 ⟨d2,dp2,u,rfl,hD2,hP2,hF2⟩;go_wp2
    go_end0
    have hcc:59*c+gk=k:=by omega
    exact ⟨d2,dp2,_,rfl,hD2,⟨c+1,by omega,by rw [←hcc];exact hP2⟩,hF.trans hF2⟩
end
section
set_option exponentiation.threshold 3000
open Go.RowKit
theorem DecP.cells {w:World} {p:Nat} {d:List Nat} {dp:Int} (h:DecP w p d dp) (hd: ∀x,x∈d→x<10): ∃ao c,w.cell? ⟨p,0,none⟩=some (.slice ao d.length c)∧w.cell? ⟨p,1,none⟩=some (.int .i64 dp)∧d.length≤c+0*p∧(∀i,i<d.length→ ∃b off,ao=some ⟨b,off,none⟩∧w.cell? ⟨b,off+i,none⟩=some (.int .u8 (dgt d i:Int))):=by
 obtain ⟨v,hb,hs⟩:=h;have c0:=cell_blk hb 0;have c1:=cell_blk hb 1;simp only [List.getElem?_toArray,List.getElem?_cons_zero,List.getElem?_cons_succ] at c0 c1;rcases hs with ⟨rfl,rfl⟩|⟨b,off,c,rfl,h1,h2,h3,h4⟩
 ·exact ⟨none,0,c0,c1,by simp,fun i hi=>by simp at hi⟩
 ·refine ⟨_,c,c0,c1,by omega,fun i hi=>⟨b,off,rfl,?_⟩⟩
  have:=h4 i (by rw [bt_length];exact hi)
  rwa [bt_get hd i hi] at this
theorem dgi_nat (d:List Nat) (i:Nat):dgi d (i:Int)=dgt d i:=by
 unfold dgi;rw [if_neg (by omega)]
 simp
theorem digit {w:World} {p:Nat} {d:List Nat} {dp:Int} (h:DecP w p d dp) (hd: ∀x,x∈d→x<10) (i:Int):
  Calls Tryz.prog 222 #[.pointer (some ⟨p,0,none⟩),.int .i64 i] w fun e w'=>e= .returned (.int .u8 (dgi d i:Int))∧w'=w:=by
 obtain ⟨ao,c,c0,c1,hc,hx⟩:=h.cells hd;by_cases h0:0≤i
 ·obtain ⟨j,rfl⟩: ∃j:Nat,i=(j:Int):=⟨i.toNat,by omega⟩
  rw [dgi_nat];have t0:decide ((0:Int)≤(j:Int))=true:=by simp
  by_cases h1:j<d.length
  ·obtain ⟨b,off,rfl,hx1⟩:=hx j h1;have t1:decide ((j:Int)<(d.length:Int))=true:=by simp;omega
   have t2:(j:Int)<(d.length:Int):=by omega
   go_enter Tryz.func222,Tryz.ntmps222
   go_wp2;go_ret
   exact ⟨rfl,rfl⟩
  ·rw [dgt_out (by omega)]
   have t1:decide ((j:Int)<(d.length:Int))=false:=by simp;omega
   go_enter Tryz.func222,Tryz.ntmps222
   go_wp2;go_ret
   exact ⟨rfl,rfl⟩
 ·have e:dgi d i=0:=if_pos (by omega)
  rw [e];have t0:decide ((0:Int)≤i)=false:=by simp;omega
  go_enter Tryz.func222,Tryz.ntmps222
  go_wp2;go_ret
  exact ⟨rfl,rfl⟩
def CmpV (x y:Nat) (c:Int):Prop:=(c<0∧x<y)∨(c=0∧x=y)∨(0<c∧y<x)
def CmpP (x y:Nat) (w:World) (e:Ending) (w':World):Prop:= ∃c,e= .returned (.int .i64 c)∧CmpV x y c∧ ∃m,w'=w.drewN m
theorem cmpD {w:World} {p q:Nat} {a b:List Nat} {x y:Int} (ha:DecP w p a x) (hb:DecP w q b y) (na:NormD a x) (nb:NormD b y) (la: -1100≤x-a.length) (lb: -1100≤y-b.length) (xa:x≤100000) (xb:y≤100000) (al:a.length≤100000) (bl:b.length≤100000):
  Calls Tryz.prog 220 #[.pointer (some ⟨p,0,none⟩),.pointer (some ⟨q,0,none⟩)] w (CmpP (dV a x) (dV b y) w):=by
 obtain ⟨ao,c,a0,a1,_,_⟩:=ha.cells na.lt;obtain ⟨bo,c',b0,b1,_,_⟩:=hb.cells nb.lt;have KA:=Hz (fun (n i:Nat)=>(by have:=digit (ha.fr ((Fr.refl [] w).drewN n)) na.lt (i:Int);rwa [dgi_nat] at this:Calls Tryz.prog 222 #[.pointer (some ⟨p,0,none⟩),.int .i64 (i:Int)] (w.drewN n) fun e w'=>e= .returned (.int .u8 (dgt a i:Int))∧w'=w.drewN n))
 have KB:=Hz (fun (n i:Nat)=>(by have:=digit (hb.fr ((Fr.refl [] w).drewN n)) nb.lt (i:Int);rwa [dgi_nat] at this:Calls Tryz.prog 222 #[.pointer (some ⟨q,0,none⟩),.int .i64 (i:Int)] (w.drewN n) fun e w'=>e= .returned (.int .u8 (dgt b i:Int))∧w'=w.drewN n))
 by_cases ha0:a=[]
 ·have t0:((a.length:Int)==0)=true:=by rw [ha0];rfl
  have hV:CmpV (dV a x) (dV b y) (-(b.length:Int)):=by
   have e1:=(dV_zero na).2 ha0;rw [e1];by_cases hb0:b=[]
   ·exact .inr (.inl ⟨by rw [hb0];rfl,((dV_zero nb).2 hb0).symm⟩)
   ·have h1:dV b y≠0:=fun e=>hb0 ((dV_zero nb).1 e)
    have h2:b.length≠0:=fun e=>hb0 (List.eq_nil_of_length_eq_zero e)
    exact .inl ⟨by omega,by omega⟩
  replace hV:=Hz hV;have s1:IntKind.i64.wrap ((a.length:Int)-(b.length:Int))= -(b.length:Int):=by
   rw [ha0];exact (IntWalk.i64_in _ (by simp;omega)).trans (by simp)
  clear ha0;go_enter Tryz.func220,Tryz.ntmps220
  go_wp2
  go_quiet (fail)
  go_wp2;go_ret
  exact ⟨_,rfl,hV.out,_,rfl⟩
 ·have hal:0<a.length:=by cases haa:a with|nil=>exact absurd haa ha0|cons u l=>simp
  have t0:((a.length:Int)==0)=false:=by simp;omega
  by_cases hb0:b=[]
  ·have t1:((b.length:Int)==0)=true:=by rw [hb0];rfl
   have hV:CmpV (dV a x) (dV b y) (a.length:Int):=by
    have e1:=(dV_zero nb).2 hb0;rw [e1];have h1:dV a x≠0:=fun e=>ha0 ((dV_zero na).1 e)
    exact .inr (.inr ⟨by omega,by omega⟩)
   replace hV:=Hz hV;have s1:IntKind.i64.wrap ((a.length:Int)-(b.length:Int))=(a.length:Int):=by
    rw [hb0];exact (IntWalk.i64_in _ (by simp;omega)).trans (by simp)
   clear ha0 hb0;go_enter Tryz.func220,Tryz.ntmps220
   go_wp2
   go_quiet (fail)
   go_wp2;go_ret
   exact ⟨_,rfl,hV.out,_,rfl⟩
  ·have hbl:0<b.length:=by cases hbb:b with|nil=>exact absurd hbb hb0|cons u l=>simp
   have t1:((b.length:Int)==0)=false:=by simp;omega
   by_cases hxy:x=y
   ·subst hxy;have t2:(x !=x)=false:=by simp
    have hna:=Hz na.lt;have hnb:=Hz nb.lt;clear ha0 hb0;go_enter Tryz.func220,Tryz.ntmps220
    go_wp2
    go_quiet (fail)
    obtain ⟨wq,hwq⟩: ∃wq,wq=w.drewN nq:=⟨_,rfl⟩;have a0':wq.cell? ⟨p,0,none⟩=some (.slice ao a.length c):=by rw [hwq];exact a0
    have b0':wq.cell? ⟨q,0,none⟩=some (.slice bo b.length c'):=by rw [hwq];exact b0
    rw [←hwq];replace hwq:=Hz hwq;go_wp2
    go_loopg [5] (a.length+b.length) (fun gk v5 wr=> ∃i:Nat,v5= .int .i64 (i:Int)∧i+gk=a.length+b.length∧Hid (∀j,j<i→dgt a j=dgt b j)∧wr=wq)
    case atStart=>exact ⟨0,by go_num,by omega,Hz (fun j hj=>by omega),rfl⟩
    case round=>
     obtain ⟨i,rfl,hig,heq,rfl⟩:=hrel;by_cases hgo:i<a.length∨i<b.length
     ·obtain ⟨g,rfl⟩: ∃g,gk=g+1:=⟨gk-1,by omega⟩
      have KA':=KA.out nq i;have KB':=KB.out nq i;rw [←hwq.out] at KA' KB';replace KA':=Hz KA';replace KB':=Hz KB';have da:=dgt_le hna.out i;have db:=dgt_le hnb.out i;have key: ∀b1:Bool,decide ((i:Int)<(a.length:Int))=b1→(b1=true∨(i:Int)<(b.length:Int))→dgt a i=dgt b i→((dgt a i:Int) !=(dgt b i:Int))=false:=fun _ _ _ e=>by rw [e];simp
      by_cases he:dgt a i=dgt b i
      ·have t6:((dgt a i:Int) !=(dgt b i:Int))=false:=by rw [he];simp
       have heq2:Hid (∀j,j<i+1→dgt a j=dgt b j):=Hz (fun j hj=>by
        by_cases e:j=i
        ·rw [e];exact he
        ·exact heq.out j (by omega))
       clear he key;by_cases hia:i<a.length
       ·have t4:decide ((i:Int)<(a.length:Int))=true:=by simp;omega
        have hil:i≤200000:=by omega
        clear hgo;go_wp2_with fail
        refine KA'.out.mono ?_
        rintro e wA ⟨rfl,rfl⟩;go_wp2_with fail
        refine KB'.out.mono ?_
        rintro e wB ⟨rfl,rfl⟩;go_wp2
        go_roundg g
        case measure=>omega
        case rel=>exact ⟨i+1,by go_num,by omega,heq2,rfl⟩
       ·have t4:decide ((i:Int)<(a.length:Int))=false:=by simp;omega
        have t5:(i:Int)<(b.length:Int):=by omega
        have hil:i≤200000:=by omega
        clear hgo;go_wp2_with fail
        refine KA'.out.mono ?_
        rintro e wA ⟨rfl,rfl⟩;go_wp2_with fail
        refine KB'.out.mono ?_
        rintro e wB ⟨rfl,rfl⟩;go_wp2
        go_roundg g
        case measure=>omega
        case rel=>exact ⟨i+1,by go_num,by omega,heq2,rfl⟩
      ·have t6:((dgt a i:Int) !=(dgt b i:Int))=true:=by simp;omega
       have hV:CmpV (dV a x) (dV b x) ((dgt a i:Int)-(dgt b i:Int)):=by
        by_cases hlt:dgt a i<dgt b i
        ·have hib:i<b.length:=by
          by_cases e:i<b.length
          ·exact e
          ·rw [dgt_out (show b.length≤i by omega)] at hlt;omega
         exact .inl ⟨by omega,lt_digit hna.out la lb i hib heq.out hlt⟩
        ·have hia:i<a.length:=by
          by_cases e:i<a.length
          ·exact e
          ·rw [dgt_out (show a.length≤i by omega)] at he hlt;omega
         exact .inr (.inr ⟨by omega,lt_digit hnb.out lb la i hia (fun j hj=>(heq.out j hj).symm) (by omega)⟩)
       replace hV:=Hz hV;have s1:IntKind.i64.wrap ((dgt a i:Int)-(dgt b i:Int))=(dgt a i:Int)-(dgt b i:Int):=IntWalk.i64_in _ (by omega)
       clear he key;by_cases hia:i<a.length
       ·have t4:decide ((i:Int)<(a.length:Int))=true:=by simp;omega
        clear hgo;go_wp2_with fail
        refine KA'.out.mono ?_
        rintro e wA ⟨rfl,rfl⟩;go_wp2_with fail
        refine KB'.out.mono ?_
        rintro e wB ⟨rfl,rfl⟩;go_wp2_with fail
        refine KA'.out.mono ?_
        rintro e wA ⟨rfl,rfl⟩;go_wp2_with fail
        refine KB'.out.mono ?_
        rintro e wB ⟨rfl,rfl⟩;go_wp2;go_ret
        exact ⟨_,rfl,hV.out,_,hwq.out⟩
       ·have t4:decide ((i:Int)<(a.length:Int))=false:=by simp;omega
        have t5:(i:Int)<(b.length:Int):=by omega
        clear hgo;go_wp2_with fail
        refine KA'.out.mono ?_
        rintro e wA ⟨rfl,rfl⟩;go_wp2_with fail
        refine KB'.out.mono ?_
        rintro e wB ⟨rfl,rfl⟩;go_wp2_with fail
        refine KA'.out.mono ?_
        rintro e wA ⟨rfl,rfl⟩;go_wp2_with fail
        refine KB'.out.mono ?_
        rintro e wB ⟨rfl,rfl⟩;go_wp2;go_ret
        exact ⟨_,rfl,hV.out,_,hwq.out⟩
     ·have t4:decide ((i:Int)<(a.length:Int))=false:=by simp;omega
      have t5: ¬(i:Int)<(b.length:Int):=by omega
      have hV:CmpV (dV a x) (dV b x) 0:= .inr (.inl ⟨rfl,eq_digits la lb (fun j hj=>heq.out j (by omega))⟩)
      replace hV:=Hz hV;go_wp2;go_ret
      exact ⟨_,rfl,hV.out,_,hwq.out⟩
   ·have t2:(x !=y)=true:=by simpa using hxy
    have hV:CmpV (dV a x) (dV b y) (x-y):=by
     by_cases h:x<y
     ·exact .inl ⟨by omega,lt_dp na nb hb0 la lb h⟩
     ·exact .inr (.inr ⟨by omega,lt_dp nb na ha0 lb la (by omega)⟩)
    replace hV:=Hz hV;have s1:IntKind.i64.wrap (x-y)=x-y:=IntWalk.i64_in _ (by omega)
    clear ha0 hb0 hxy;go_enter Tryz.func220,Tryz.ntmps220
    go_wp2
    go_quiet (fail)
    go_wp2
    go_quiet (fail)
    go_wp2;go_ret
    exact ⟨_,rfl,hV.out,_,World.drewN_drewN _ _ _⟩
end
section
set_option exponentiation.threshold 3000
open Go.RowKit
theorem dgi_lt {d:List Nat} (hd: ∀x,x∈d→x<10) (i:Int):dgi d i<10:=by
 by_cases h:0≤i
 ·obtain ⟨j,rfl⟩: ∃j:Nat,i=(j:Int):=⟨i.toNat,by omega⟩
  rw [dgi_nat];have:=dgt_le hd j;omega
 ·have:dgi d i=0:=if_pos (by omega)
  omega
theorem ch_nat {n:Nat} (h:n<10):((ch n).toNat:Int)=48+(n:Int):=by
 have:(ch n).toNat=48+n:=by unfold ch;simp;omega
 omega
theorem row_len {w:World} {B:Nat} {ao:Option Addr} {n c:Nat} {bs:List UInt8} (h:Row w B (.slice ao n c) bs):n=bs.length:=by
 rcases h.2 with ⟨hv,h0⟩|⟨g,cap,cur,hv,_⟩
 ·injection hv with _ e _;omega
 ·injection hv
theorem row_str {w:World} {B:Nat} {ao:Option Addr} {n c:Nat} {bs:List UInt8} (h:Row w B (.slice ao n c) bs):(convert 59 9 (.slice ao n c)).run Tryz.prog w= .ok (.string ⟨bs.toArray⟩) w:=by
 rcases h.2 with ⟨hv,h0⟩|⟨g,cap,cur,hv,_⟩
 ·have hbs:bs=[]:=List.eq_nil_of_length_eq_zero h0;subst hbs;rw [hv];exact Lib.run_convert_nil_bytes w 59 9 5 0 Tryz.underlying59 Tryz.underlying5 Tryz.underlying9
 ·rw [hv] at h ⊢;exact toStr (Rd.of_own h) cap
theorem range_snoc (f:Nat→UInt8) (i:Nat):(List.range (i+1)).map f=(List.range i).map f++[f i]:=by rw [List.range_succ];simp
theorem textD {w:World} {p:Nat} {d:List Nat} {dp:Int} (h:DecP w p d dp) (hd: ∀x,x∈d→x<10) (h1:dp≤100000) (h2: -100000≤dp) (prec:Nat) (hp:prec≤100000):
  Calls Tryz.prog 214 #[.pointer (some ⟨p,0,none⟩),.int .i64 (prec:Int)] w fun e w'=>e= .returned (.string ⟨(texT d dp prec).toArray⟩)∧Fr [] w w':=by
 have KD:=Hz (fun (W:World) (F:Fr [] w W) (i:Int)=>digit (h.fr F) hd i)
 have KC:=Hz (fun (W:World) (F:Fr [] w W)=>(by obtain ⟨ao,c,_,c1,_,_⟩:=(h.fr F).cells hd;exact c1:W.cell? ⟨p,1,none⟩=some (.int .i64 dp)))
 have hlt:=Hz (dgi_lt hd);obtain ⟨N,hN⟩: ∃N:Nat,N=dp.toNat:=⟨_,rfl⟩;replace h:=Hz h;replace hd:=Hz hd;go_enter Tryz.func214,Tryz.ntmps214
 go_wp2
 go_loopg [5,6] N (fun gk v5 v6 wr=> ∃i:Nat,v6= .int .i64 (i:Int)∧i+gk=N∧Hid (Row wr w.heap.size v5 ((List.range i).map fun i=>ch (dgt d i)))∧Hid (Fr [] w wr))
 case atStart=>exact ⟨0,by go_num,by omega,Hz (Row.nil _ _),Hz (Fr.refl _ _)⟩
 case round=>
  obtain ⟨i,rfl,hig,hrow,hF⟩:=hrel;obtain ⟨ao,m,c,rfl⟩:=hrow.out.shape;have c1:=KC.out wr hF.out;by_cases hi:(i:Int)<dp
  ·obtain ⟨g,rfl⟩: ∃g,gk=g+1:=⟨gk-1,by omega⟩
   have hx:=hlt.out (i:Int);rw [dgi_nat] at hx;go_wp2_with fail
   refine (KD.out wr hF.out (i:Int)).mono ?_
   rintro e w1 ⟨rfl,rfl⟩;rw [dgi_nat];have hsn:=range_snoc (fun i=>ch (dgt d i)) i
   generalize hxx:dgt d i=x at *
   replace hsn:=Hz hsn;replace hxx:=Hz hxx;have hi':i≤100000:=by omega
   have s1:IntKind.u8.wrap (48+(x:Int))=48+(x:Int):=IntWalk.u8_in _ (by omega)
   have hcx:=Hz (ch_nat hx);have hBs:=hF.out.size;go_wp2_with (at_builtin;refine wpList_apRow rfl _ _ rfl (B:=w.heap.size) _ ((List.range i).map fun i=>ch (dgt d i)) [ch x] w1.heap.size 0 1 rfl rfl (rd_new (w:=w1) rfl (by simp only [enc,List.map_cons,List.map_nil];rw [hcx.out])) (hrow.out.push rfl) (by simp;omega) (by simp;omega) ?_)
   intro v' w' hr' hg;have hF3:Fr [] w w':=Fr.grown (hF.out.alloc _) hg (fun k hk=> .inr (World.ownsRow.lt hrow.out k hk).1)
   rw [←hsn.out] at hr';go_wp2
   go_roundg g
   case measure=>omega
   case rel=>exact ⟨i+1,by go_num,by omega,Hz hr',Hz hF3⟩
  ·have hiN:i=N:=by omega
   subst hiN;have hml:=row_len hrow.out;rw [List.length_map,List.length_range] at hml;obtain ⟨r,rfl⟩: ∃r,r=gk:=⟨gk,rfl⟩;by_cases hN0:i=0
   ·have t1:((m:Int)==0)=true:=by simp;omega
    have hdp0:dp≤0:=by omega
    have e0:(List.range i).map (fun i=>ch (dgt d i))=[]:=by rw [hN0];rfl
    rw [e0] at hrow;clear hml e0;have hlen:Hid (([]:List UInt8).length+[(48:UInt8)].length≤140737488355328):=Hz (by simp)
    go_wp2_with (at_builtin;refine wpList_apRow rfl _ _ rfl (B:=w.heap.size) _ [] [48] wr.heap.size 0 1 rfl rfl (rd_new (w:=wr) rfl rfl) (hrow.out.push rfl) (by have:=hF.out.size;simp;omega) hlen.out ?_)
    intro vA wA hrA hgA;have hFA:Fr [] w wA:=Fr.grown (hF.out.alloc _) hgA (fun k hk=> .inr (World.ownsRow.lt hrow.out k hk).1)
    obtain ⟨aoA,mA,cA,rfl⟩:=hrA.shape;have c1A:=KC.out wA hFA;replace hrA:=Hz hrA;replace hFA:=Hz hFA;by_cases hp0:prec=0
    ·have t2: ¬(0:Int)<(prec:Int):=by omega
     replace hN:=Hz hN;replace hp0:=Hz hp0;replace hdp0:=Hz hdp0;have ht:=row_str hrA.out;go_wp2;go_ret
     refine ⟨?_,hFA.out⟩
     have:texT d dp prec=[48]:=by unfold texT;rw [if_pos hdp0.out,if_pos hp0.out];rfl
     rw [this]
     rfl
    ·have t2:(0:Int)<(prec:Int):=by omega
     replace hp0:=Hz hp0;replace hdp0:=Hz hdp0;have hlen:Hid (([]++[48]:List UInt8).length+[(46:UInt8)].length≤140737488355328):=Hz (by simp)
     go_wp2_with (at_builtin;refine wpList_apRow rfl _ _ rfl (B:=w.heap.size) _ ([]++[48]) [46] wA.heap.size 0 1 rfl rfl (rd_new (w:=wA) rfl rfl) (hrA.out.push rfl) (by have:=hFA.out.size;simp;omega) hlen.out ?_)
     intro vB wB hrB hgB;have hFB:Fr [] w wB:=Fr.grown (hFA.out.alloc _) hgB (fun k hk=> .inr (World.ownsRow.lt hrA.out k hk).1)
     obtain ⟨aoB,mB,cB,rfl⟩:=hrB.shape;have c1B:=KC.out wB hFB;replace hrB:=Hz hrB;replace hFB:=Hz hFB;obtain ⟨P,hP⟩: ∃P:List UInt8,P=[48,46]:=⟨_,rfl⟩;have hPl:P.length≤100005:=by rw [hP];simp;try omega
     rw [←hP] at hrB;replace hP:=Hz hP;replace hN:=Hz hN;go_wp2
     go_loopg [5,7] prec (fun gk v5 v7 wr2=> ∃j:Nat,v7= .int .i64 (j:Int)∧j+gk=prec∧Hid (Row wr2 w.heap.size v5 (P++(List.range j).map fun (i:Nat)=>ch (dgi d (dp+(i:Int)))))∧Hid (Fr [] w wr2))
     case atStart=>exact ⟨0,by go_num,by omega,Hz (by rw [List.range_zero,List.map_nil,List.append_nil];exact hrB.out),hFB⟩
     case round=>
      obtain ⟨j,rfl,hjg,hrow2,hF2⟩:=hrel;obtain ⟨ao2,m2,c2,rfl⟩:=hrow2.out.shape;have c12:=KC.out _ hF2.out;by_cases hj:(j:Int)<(prec:Int)
      ·obtain ⟨g2,rfl⟩: ∃g2,gk=g2+1:=⟨gk-1,by omega⟩
       have hx:=hlt.out (dp+(j:Int));have s2:IntKind.i64.wrap (dp+(j:Int))=dp+(j:Int):=IntWalk.i64_in _ (by omega)
       go_wp2_with fail
       refine (KD.out _ hF2.out (dp+(j:Int))).mono ?_
       rintro e w1 ⟨rfl,rfl⟩;have hsn:=range_snoc (fun (i:Nat)=>ch (dgi d (dp+(i:Int)))) j
       generalize hxx:dgi d (dp+(j:Int))=x at *
       replace hxx:=Hz hxx;replace hsn:=Hz hsn;have s1:IntKind.u8.wrap (48+(x:Int))=48+(x:Int):=IntWalk.u8_in _ (by omega)
       have hcx:=Hz (ch_nat hx);have hj':j≤100000:=by omega
       have hl2:Hid ((P++(List.range j).map fun (i:Nat)=>ch (dgi d (dp+(i:Int)))).length+[ch x].length≤140737488355328):=Hz (by simp;omega)
       go_wp2_with (at_builtin;refine wpList_apRow rfl _ _ rfl (B:=w.heap.size) _ (P++(List.range j).map fun (i:Nat)=>ch (dgi d (dp+(i:Int)))) [ch x] w1.heap.size 0 1 rfl rfl (rd_new (w:=w1) rfl (by simp only [enc,List.map_cons,List.map_nil];rw [hcx.out])) (hrow2.out.push rfl) (by have:=hF2.out.size;simp;omega) hl2.out ?_)
       intro v3 w3 hr3 hg3;have hF3:Fr [] w w3:=Fr.grown (hF2.out.alloc _) hg3 (fun k hk=> .inr (World.ownsRow.lt hrow2.out k hk).1)
       first|rw [List.append_assoc,←hsn.out] at hr3|rw [←hsn.out] at hr3
       go_wp2
       go_roundg g2
       case measure=>omega
       case rel=>exact ⟨j+1,by go_num,by omega,Hz hr3,Hz hF3⟩
      ·have hjp:j=prec:=by omega
       subst hjp;have ht:=row_str hrow2.out;go_wp2;go_ret
       refine ⟨?_,hF2.out⟩
       have:texT d dp j=P++(List.range j).map (fun (i:Nat)=>ch (dgi d (dp+(i:Int)))):=by rw [hP.out];unfold texT;rw [if_pos hdp0.out,if_neg hp0.out];rfl
       rw [this]
       rfl
   ·have t1:((m:Int)==0)=false:=by simp;omega
    have hdp0: ¬dp≤0:=by omega
    have hi5:i≤100000:=by omega
    clear hml;by_cases hp0:prec=0
    ·have t2: ¬(0:Int)<(prec:Int):=by omega
     replace hN:=Hz hN;replace hp0:=Hz hp0;replace hdp0:=Hz hdp0;have ht:=row_str hrow.out;go_wp2;go_ret
     refine ⟨?_,hF.out⟩
     have:texT d dp prec=((List.range i).map fun i=>ch (dgt d i)):=by unfold texT;rw [if_neg (show ¬dp≤0 by have:=hdp0.out;omega),if_pos hp0.out,hN.out,List.append_nil]
     rw [this]
     rfl
    ·have t2:(0:Int)<(prec:Int):=by omega
     replace hp0:=Hz hp0;replace hdp0:=Hz hdp0;replace hN:=Hz hN;have hlen:Hid (((List.range i).map fun i=>ch (dgt d i)).length+[(46:UInt8)].length≤140737488355328):=Hz (by simp;omega)
     go_wp2_with (at_builtin;refine wpList_apRow rfl _ _ rfl (B:=w.heap.size) _ ((List.range i).map fun i=>ch (dgt d i)) [46] wr.heap.size 0 1 rfl rfl (rd_new (w:=wr) rfl rfl) (hrow.out.push rfl) (by have:=hF.out.size;simp;omega) hlen.out ?_)
     intro vB wB hrB hgB;have hFB:Fr [] w wB:=Fr.grown (hF.out.alloc _) hgB (fun k hk=> .inr (World.ownsRow.lt hrow.out k hk).1)
     obtain ⟨aoB,mB,cB,rfl⟩:=hrB.shape;have c1B:=KC.out wB hFB;replace hrB:=Hz hrB;replace hFB:=Hz hFB;obtain ⟨P,hP⟩: ∃P:List UInt8,P=(((List.range i).map fun i=>ch (dgt d i))++[46]):=⟨_,rfl⟩
     have hPl:P.length≤100005:=by rw [hP];simp;try omega
     rw [←hP] at hrB;replace hP:=Hz hP;go_wp2
     go_loopg [5,7] prec (fun gk v5 v7 wr2=> ∃j:Nat,v7= .int .i64 (j:Int)∧j+gk=prec∧Hid (Row wr2 w.heap.size v5 (P++(List.range j).map fun (i:Nat)=>ch (dgi d (dp+(i:Int)))))∧Hid (Fr [] w wr2))
     case atStart=>exact ⟨0,by go_num,by omega,Hz (by rw [List.range_zero,List.map_nil,List.append_nil];exact hrB.out),hFB⟩
     case round=>
      obtain ⟨j,rfl,hjg,hrow2,hF2⟩:=hrel;obtain ⟨ao2,m2,c2,rfl⟩:=hrow2.out.shape;have c12:=KC.out _ hF2.out;by_cases hj:(j:Int)<(prec:Int)
      ·obtain ⟨g2,rfl⟩: ∃g2,gk=g2+1:=⟨gk-1,by omega⟩
       have hx:=hlt.out (dp+(j:Int));have s2:IntKind.i64.wrap (dp+(j:Int))=dp+(j:Int):=IntWalk.i64_in _ (by omega)
       go_wp2_with fail
       refine (KD.out _ hF2.out (dp+(j:Int))).mono ?_
       rintro e w1 ⟨rfl,rfl⟩;have hsn:=range_snoc (fun (i:Nat)=>ch (dgi d (dp+(i:Int)))) j
       generalize hxx:dgi d (dp+(j:Int))=x at *
       replace hxx:=Hz hxx;replace hsn:=Hz hsn;have s1:IntKind.u8.wrap (48+(x:Int))=48+(x:Int):=IntWalk.u8_in _ (by omega)
       have hcx:=Hz (ch_nat hx);have hj':j≤100000:=by omega
       have hl2:Hid ((P++(List.range j).map fun (i:Nat)=>ch (dgi d (dp+(i:Int)))).length+[ch x].length≤140737488355328):=Hz (by simp;omega)
       go_wp2_with (at_builtin;refine wpList_apRow rfl _ _ rfl (B:=w.heap.size) _ (P++(List.range j).map fun (i:Nat)=>ch (dgi d (dp+(i:Int)))) [ch x] w1.heap.size 0 1 rfl rfl (rd_new (w:=w1) rfl (by simp only [enc,List.map_cons,List.map_nil];rw [hcx.out])) (hrow2.out.push rfl) (by have:=hF2.out.size;simp;omega) hl2.out ?_)
       intro v3 w3 hr3 hg3;have hF3:Fr [] w w3:=Fr.grown (hF2.out.alloc _) hg3 (fun k hk=> .inr (World.ownsRow.lt hrow2.out k hk).1)
       first|rw [List.append_assoc,←hsn.out] at hr3|rw [←hsn.out] at hr3
       go_wp2
       go_roundg g2
       case measure=>omega
       case rel=>exact ⟨j+1,by go_num,by omega,Hz hr3,Hz hF3⟩
      ·have hjp:j=prec:=by omega
       subst hjp;have ht:=row_str hrow2.out;go_wp2;go_ret
       refine ⟨?_,hF2.out⟩
       have:texT d dp j=P++(List.range j).map (fun (i:Nat)=>ch (dgi d (dp+(i:Int)))):=by rw [hP.out];unfold texT;rw [if_neg (show ¬dp≤0 by have:=hdp0.out;omega),if_neg hp0.out,hN.out];simp
       rw [this]
       rfl
end
end Go.Proofs.YteodinhkhhaafaaGreatDoor
