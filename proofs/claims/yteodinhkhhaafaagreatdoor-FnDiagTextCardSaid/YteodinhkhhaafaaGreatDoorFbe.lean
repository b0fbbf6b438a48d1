/- Walks of the program, and plain facts. -/
import Derived.Test.YteodinhkhhaafaaGreatDoorFay
import Derived.Test.YteodinhkhhaafaaGreatDoorFbc
set_option linter.unusedVariables false
set_option linter.unusedSimpArgs false
set_option maxRecDepth 100000
set_option maxHeartbeats 6400000
namespace Go.Proofs.YteodinhkhhaafaaGreatDoor
section
set_option exponentiation.threshold 3000
open Go.RowKit
theorem digs_val (n:Nat) (k:Int) (hk: -1100≤k):dV (digs n k).1 (digs n k).2*2^(-k).toNat=n*10^1100*2^k.toNat:=by
 unfold digs;by_cases h0:0≤k
 ·rw [if_pos h0];obtain ⟨_,g2,_⟩:=frac_spec (n*2^k.toNat) 0 (by omega)
  rw [g2,show (-k).toNat=0 by omega,Nat.pow_zero,Nat.mul_one,Nat.sub_zero,Nat.mul_right_comm]
 ·rw [if_neg h0];obtain ⟨j,hj⟩: ∃j:Nat,(-k).toNat=j:=⟨_,rfl⟩;rw [hj,show k.toNat=0 by omega,Nat.pow_zero,Nat.mul_one]
  obtain ⟨_,g2,_⟩:=frac_spec (n*5^j) j (by omega)
  rw [g2];have h10:10^1100=5^j*2^j*10^(1100-j):=by
   rw [←Nat.mul_pow,←Nat.pow_add,show j+(1100-j)=1100 by omega]
  rw [h10];generalize 5^j=a;generalize 2^j=b;generalize 10^(1100-j)=c;rw [Nat.mul_assoc,Nat.mul_assoc,Nat.mul_assoc,Nat.mul_comm b c]
theorem digs_at (n:Nat) (k t:Int) (hk: -1100≤k) (ht:t≤k):dV (digs n k).1 (digs n k).2*2^(-t).toNat=(n*2^(k-t).toNat)*10^1100*2^t.toNat:=by
 have h:=digs_val n k hk;generalize dV (digs n k).1 (digs n k).2=v at *
 have hp:0<2^(-k).toNat:=Nat.pow_pos (by decide)
 apply Nat.eq_of_mul_eq_mul_right hp
 have e1:(k-t).toNat+t.toNat+(-k).toNat=k.toNat+(-t).toNat:=by omega
 have e2:2^(k-t).toNat*2^t.toNat*2^(-k).toNat=2^k.toNat*2^(-t).toNat:=by rw [←Nat.pow_add,←Nat.pow_add,←Nat.pow_add,e1]
 rw [Nat.mul_right_comm,h];generalize 10^1100=c;generalize 2^(k-t).toNat=x at *
 generalize 2^t.toNat=y at *
 generalize 2^(-k).toNat=z at *
 generalize 2^k.toNat=u at *
 generalize 2^(-t).toNat=s at *
 rw [Nat.mul_assoc,←e2];rw [Nat.mul_right_comm n x c,Nat.mul_assoc (n*c),Nat.mul_assoc (n*c)]
theorem unit_lt {v1 v2 c1 c2 P Q:Nat} (hP:0<P) (hQ:0<Q) (h1:v1*P=c1*Q) (h2:v2*P=c2*Q) (h:c1<c2):v1<v2:=by
 have h3:c1*Q<c2*Q:=Nat.mul_lt_mul_of_pos_right h hQ;rw [←h1,←h2] at h3;exact Nat.lt_of_mul_lt_mul_right h3
def lowN (m:Nat) (low:Bool):Nat:=if low then 4*m-1 else 4*m-2
theorem units (m:Nat) (e:Int) (low:Bool) (hm:0<m) (he: -1090≤e):
  dV (digs m e).1 (digs m e).2*2^(-(e-2)).toNat=(4*m)*(10^1100*2^(e-2).toNat)∧
  dV (loD m e low).1 (loD m e low).2*2^(-(e-2)).toNat=lowN m low*(10^1100*2^(e-2).toNat)∧
  dV (hiD m e).1 (hiD m e).2*2^(-(e-2)).toNat=(4*m+2)*(10^1100*2^(e-2).toNat):=by
 have h1:=digs_at m e (e-2) (by omega) (by omega)
 have h2:=digs_at (4*m-1) (e-2) (e-2) (by omega) (by omega)
 have h3:=digs_at (2*m-1) (e-1) (e-2) (by omega) (by omega)
 have h4:=digs_at (2*m+1) (e-1) (e-2) (by omega) (by omega)
 rw [show (e-(e-2)).toNat=2 by omega,Nat.mul_assoc] at h1
 rw [show (e-2-(e-2)).toNat=0 by omega,Nat.mul_assoc] at h2
 rw [show (e-1-(e-2)).toNat=1 by omega,Nat.mul_assoc] at h3 h4
 refine ⟨?_,?_,?_⟩
 ·rw [h1];congr 1;omega
 ·unfold loD lowN;cases low
  ·show dV (digs (2*m-1) (e-1)).1 (digs (2*m-1) (e-1)).2*_=(4*m-2)*_
   rw [h3];congr 1;omega
  ·show dV (digs (4*m-1) (e-2)).1 (digs (4*m-1) (e-2)).2*_=(4*m-1)*_
   rw [h2];congr 1;omega
 ·unfold hiD;rw [h4];congr 1;omega
theorem short_ok {m:Nat} {e:Int} (low:Bool) (hm:0<m) (hB:DigB m e (digs m e)) (he: -1090≤e):
  Good (digs m e).1 (digs m e).2 (dV (loD m e low).1 (loD m e low).2) (dV (hiD m e).1 (hiD m e).2) (m%2==0) (shortR m e low):=by
 obtain ⟨h1,h2,h3⟩:=units m e low hm he;have hP:0<2^(-(e-2)).toNat:=Nat.pow_pos (by decide)
 have hQ:0<10^1100*2^(e-2).toNat:=Nat.mul_pos (Nat.pow_pos (by decide)) (Nat.pow_pos (by decide))
 have hlow:0<lowN m low∧lowN m low<4*m:=by unfold lowN;split<;>omega
 have e1:shortR m e low=shortL (digs m e).1 (digs m e).2 (dV (loD m e low).1 (loD m e low).2) (dV (hiD m e).1 (hiD m e).2) (m%2==0) (digs m e).1.length 0:=if_neg (by omega)
 rw [e1];generalize 2^(-(e-2)).toNat=P at *
 generalize 10^1100*2^(e-2).toNat=Q at *
 have hlo0:0<dV (loD m e low).1 (loD m e low).2:=by
  rcases Nat.eq_zero_or_pos (dV (loD m e low).1 (loD m e low).2) with e0|e0
  ·rw [e0,Nat.zero_mul] at h2;have:=Nat.mul_pos hlow.1 hQ;omega
  ·exact e0
 have hlv:=unit_lt hP hQ h2 h1 hlow.2;have hvh:=unit_lt hP hQ h1 h3 (by omega)
 have hne:(digs m e).1≠[]:=by
  intro e0;rw [e0] at hlv;simp [dV,dv] at hlv
 exact short_good hB.norm hne hB.la _ hlo0 hlv hvh _ 0 (by omega)
def agx (D:Nat) (X t:Int):Nat:=D*10^X.toNat*2^(-t).toNat
def agy (n:Nat) (X t:Int):Nat:=n*10^(-X).toNat*2^t.toNat
theorem ag_scale {d:List Nat} {dp X t:Int} {z D n val:Nat} (hD:D=dv d*10^z) (hX:X=dp-d.length-(z:Int)) (la: -1100≤dp-d.length) (hv:val*2^(-t).toNat=n*(10^1100*2^t.toNat)):
  ∃C,0<C∧agx D X t*10^1100=dV d dp*C∧agy n X t*10^1100=val*C:=by
 refine ⟨10^(-X).toNat*2^(-t).toNat,Nat.mul_pos (Nat.pow_pos (by decide)) (Nat.pow_pos (by decide)),?_,?_⟩
 ·unfold agx dV;have e1:z+X.toNat+1100=(dp-d.length+1100).toNat+(-X).toNat:=by omega
  have e2:10^z*10^X.toNat*10^1100=10^(dp-d.length+1100).toNat*10^(-X).toNat:=by rw [←Nat.pow_add,←Nat.pow_add,←Nat.pow_add,e1]
  rw [hD];generalize 10^1100=c at *
  generalize 10^z=a at *
  generalize 10^X.toNat=b at *
  generalize 10^(dp-d.length+1100).toNat=f at *
  generalize 10^(-X).toNat=g at *
  generalize 2^(-t).toNat=s at *
  calc dv d*a*b*s*c=dv d*(a*b*c)*s:=by simp only [Nat.mul_assoc,Nat.mul_comm,Nat.mul_left_comm]
   _=dv d*(f*g)*s:=by rw [e2]
   _=dv d*f*(g*s):=by simp only [Nat.mul_assoc]
 ·unfold agy;generalize 10^1100=c at *
  generalize 10^(-X).toNat=g at *
  generalize 2^(-t).toNat=s at *
  generalize 2^t.toNat=u at *
  calc n*g*u*c=n*(c*u)*g:=by simp only [Nat.mul_assoc,Nat.mul_comm,Nat.mul_left_comm]
   _=val*s*g:=by rw [hv]
   _=val*(g*s):=by simp only [Nat.mul_assoc,Nat.mul_comm,Nat.mul_left_comm]
theorem scale_lt {x y p v1 v2 C:Nat} (hp:0<p) (h1:x*p=v1*C) (h2:y*p=v2*C) (h:v1<v2) (hC:0<C):x<y:=by
 have h3:v1*C<v2*C:=Nat.mul_lt_mul_of_pos_right h hC;rw [←h1,←h2] at h3;exact Nat.lt_of_mul_lt_mul_right h3
theorem scale_eq {x y p v1 v2 C:Nat} (hp:0<p) (h1:x*p=v1*C) (h2:y*p=v2*C) (h:v1=v2):x=y:=by
 subst h;exact Nat.eq_of_mul_eq_mul_right hp (h1.trans h2.symm)
theorem rounds_ok {m:Nat} {e:Int} (low:Bool) (hm:0<m) (hB:DigB m e (digs m e)) (he: -1090≤e) {D:Nat} {X:Int} {z:Nat}
  (hD:D=dv (shortR m e low).1*10^z) (hX:X=(shortR m e low).2-(shortR m e low).1.length-(z:Int)):
  (agy (lowN m low) X (e-2)<agx D X (e-2)∧agx D X (e-2)<agy (4*m+2) X (e-2))∨(m%2=0∧(agx D X (e-2)=agy (lowN m low) X (e-2)∨agx D X (e-2)=agy (4*m+2) X (e-2))):=by
 obtain ⟨_,h2,h3⟩:=units m e low hm he;have G:=short_ok low hm hB he;obtain ⟨C,hC,a1,a2⟩:=ag_scale hD hX G.la h2;obtain ⟨C',hC',b1,b2⟩:=ag_scale hD hX G.la h3;have hp:0<10^1100:=Nat.pow_pos (by decide)
 generalize 10^1100=p at *
 have g1:=G.lo;have g2:=G.hi;unfold inE at g1 g2;by_cases hm2:m%2=0
 ·rw [if_pos (by simpa using hm2)] at g1 g2
  have g1:=of_decide_eq_true g1;have g2:=of_decide_eq_true g2;rcases Nat.lt_or_eq_of_le g1 with g1|g1
  ·rcases Nat.lt_or_eq_of_le g2 with g2|g2
   ·exact .inl ⟨scale_lt hp a2 a1 g1 hC,scale_lt hp b1 b2 g2 hC'⟩
   ·exact .inr ⟨hm2,.inr (scale_eq hp b1 b2 g2)⟩
  ·exact .inr ⟨hm2,.inl (scale_eq hp a1 a2 g1.symm)⟩
 ·rw [if_neg (by simpa using hm2)] at g1 g2
  have g1:=of_decide_eq_true g1;have g2:=of_decide_eq_true g2;exact .inl ⟨scale_lt hp a2 a1 g1 hC,scale_lt hp b1 b2 g2 hC'⟩
end
section
open Go.RowKit
theorem NdV.slice {w:World} {bl:List Nat} {g:Gn} {kv:Value} (h:NdV w bl g kv): ∃ao n c,kv= .slice ao n c:=by
 cases g
 rw [NdV] at h;rcases h with ⟨_,ao,c,rfl⟩|⟨g,cap,rfl,_⟩
 ·exact ⟨_,_,_,rfl⟩
 ·exact ⟨_,_,_,rfl⟩
theorem KidRow.shape {w:World} {T:TypeId} {lo:Nat} {v:Value} {l:List Gn} (h:KidRow w T lo v l): ∃ao n c,v= .slice ao n c:=by
 obtain ⟨cs,bl,h1,_⟩:=h;rcases h1.2 with ⟨rfl,_⟩|⟨g,cap,cur,rfl,_⟩
 ·exact ⟨_,_,_,rfl⟩
 ·exact ⟨_,_,_,rfl⟩
theorem KidRow.len {w:World} {T:TypeId} {lo:Nat} {ao:Option Addr} {n c:Nat} {l:List Gn} (h:KidRow w T lo (.slice ao n c) l):n=l.length:=by
 obtain ⟨cs,bl,h1,_⟩:=h;rcases h1.2 with ⟨e,h0⟩|⟨g,cap,cur,e,_⟩
 ·injection e with e1 e2 e3;omega
 ·injection e with e1 e2 e3
theorem KidRow.own {w:World} {T:TypeId} {lo:Nat} {v:Value} {l:List Gn} (h:KidRow w T lo v l): ∀k,v.ownBlock=some k→lo≤k∧k<w.heap.size:=by
 obtain ⟨cs,bl,h1,_⟩:=h;exact World.ownsRow.lt h1
theorem cells8 {w:World} {b:Nat} {a0 a1 a2 a3 a4 a5 a6 a7:Value} (h:w.heap[b]? =some (.cells #[a0,a1,a2,a3,a4,a5,a6,a7] 45 (0,0))):
  (w.cell? ⟨b,0,none⟩=some a0∧w.cell? ⟨b,1,none⟩=some a1∧w.cell? ⟨b,2,none⟩=some a2∧w.cell? ⟨b,3,none⟩=some a3∧w.cell? ⟨b,4,none⟩=some a4∧w.cell? ⟨b,5,none⟩=some a5∧w.cell? ⟨b,6,none⟩=some a6∧w.cell? ⟨b,7,none⟩=some a7)∧
  w.frozen? ⟨b,0,none⟩=false∧w.frozen? ⟨b,1,none⟩=false∧w.frozen? ⟨b,2,none⟩=false∧w.frozen? ⟨b,3,none⟩=false∧w.frozen? ⟨b,4,none⟩=false∧w.frozen? ⟨b,5,none⟩=false∧w.frozen? ⟨b,6,none⟩=false∧w.frozen? ⟨b,7,none⟩=false:=
 ⟨⟨cell_blk h 0,cell_blk h 1,cell_blk h 2,cell_blk h 3,cell_blk h 4,cell_blk h 5,cell_blk h 6,cell_blk h 7⟩,frozen_blk h 0,frozen_blk h 1,frozen_blk h 2,frozen_blk h 3,frozen_blk h 4,frozen_blk h 5,frozen_blk h 6,frozen_blk h 7⟩
def put8 (w:World) (b:Nat) (a0 a1 a2 a3 a4 a5 a6 a7:Value):World:=
 (((((((w.setCell ⟨b,0,none⟩ a0).setCell ⟨b,1,none⟩ a1).setCell ⟨b,2,none⟩ a2).setCell ⟨b,3,none⟩ a3).setCell ⟨b,4,none⟩ a4).setCell ⟨b,5,none⟩ a5).setCell ⟨b,6,none⟩ a6).setCell ⟨b,7,none⟩ a7
theorem Fr.put8 (w:World) (b:Nat) (a0 a1 a2 a3 a4 a5 a6 a7:Value):Fr [b] w (put8 w b a0 a1 a2 a3 a4 a5 a6 a7):=by
 unfold Go.Proofs.YteodinhkhhaafaaGreatDoor.put8
 repeat (first|with_reducible exact Fr.refl _ _|with_reducible refine Fr.setCell ?_ (.inl (by simp)) _)
end
end Go.Proofs.YteodinhkhhaafaaGreatDoor
