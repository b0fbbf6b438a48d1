/- Walks of the program, and plain facts. -/
import Derived.Test.YteodinhkhhaafaaGreatDoorEav
set_option linter.unusedVariables false
set_option linter.unusedSimpArgs false
set_option maxRecDepth 100000
set_option maxHeartbeats 6400000
namespace Go.Proofs.YteodinhkhhaafaaGreatDoor
section
set_option exponentiation.threshold 3000
open Go.RowKit
theorem digs_val (n:Nat) (k:Int) (hk: -1100≤k):dV (digs n k).1 (digs n k).2*2^(-k).toNat=n*10^1100*2^k.toNat:=by
 unfold digs;by_cases h0:0≤k
 ·rw [if_pos h0];obtain ⟨_,g2,_⟩:=frac_spec (n*2^k.toNat) 0 (by omega)
  rw [g2,show (-k).toNat=0 by omega,Nat.pow_zero,Nat.mul_one,Nat.sub_zero,Nat.mul_right_comm]
 ·rw [if_neg h0];obtain ⟨j,hj⟩: ∃j:Nat,(-k).toNat=j:=⟨_,rfl⟩;rw [hj,show k.toNat=0 by omega,Nat.pow_zero,Nat.mul_one]
  obtain ⟨_,g2,_⟩:=frac_spec (n*5^j) j (by omega)
  rw [g2];have h10:10^1100=5^j*2^j*10^(1100-j):=by
   rw [←Nat.mul_pow,←Nat.pow_add,show j+(1100-j)=1100 by omega]
  rw [h10];generalize 5^j=a;generalize 2^j=b;generalize 10^(1100-j)=c;rw [Nat.mul_assoc,Nat.mul_assoc,Nat.mul_assoc,Nat.mul_comm b c]
theorem digs_at (n:Nat) (k t:Int) (hk: -1100≤k) (ht:t≤k):dV (digs n k).1 (digs n k).2*2^(-t).toNat=(n*2^(k-t).toNat)*10^1100*2^t.toNat:=by
 have h:=digs_val n k hk;generalize dV (digs n k).1 (digs n k).2=v at *
 have hp:0<2^(-k).toNat:=Nat.pow_pos (by decide)
 apply Nat.eq_of_mul_eq_mul_right hp
 have e1:(k-t).toNat+t.toNat+(-k).toNat=k.toNat+(-t).toNat:=by omega
 have e2:2^(k-t).toNat*2^t.toNat*2^(-k).toNat=2^k.toNat*2^(-t).toNat:=by rw [←Nat.pow_add,←Nat.pow_add,←Nat.pow_add,e1]
 rw [Nat.mul_right_comm,h];generalize 10^1100=c;generalize 2^(k-t).toNat=x at *
 generalize 2^t.toNat=y at *
 generalize 2^(-k).toNat=z at *
 generalize 2^k.toNat=u at *
 generalize 2^(-t).toNat=s at *
 rw [Nat.mul_assoc,←e2];rw [Nat.mul_right_comm n x c,Nat.mul_assoc (n*c),Nat.mul_assoc (n*c)]
theorem unit_lt {v1 v2 c1 c2 P Q:Nat} (hP:0<P) (hQ:0<Q) (h1:v1*P=c1*Q) (h2:v2*P=c2*Q) (h:c1<c2):v1<v2:=by
 have h3:c1*Q<c2*Q:=Nat.mul_lt_mul_of_pos_right h hQ;rw [←h1,←h2] at h3;exact Nat.lt_of_mul_lt_mul_right h3
def lowN (m:Nat) (low:Bool):Nat:=if low then 4*m-1 else 4*m-2
theorem units (m:Nat) (e:Int) (low:Bool) (hm:0<m) (he: -1090≤e):
  dV (digs m e).1 (digs m e).2*2^(-(e-2)).toNat=(4*m)*(10^1100*2^(e-2).toNat)∧
  dV (loD m e low).1 (loD m e low).2*2^(-(e-2)).toNat=lowN m low*(10^1100*2^(e-2).toNat)∧
  dV (hiD m e).1 (hiD m e).2*2^(-(e-2)).toNat=(4*m+2)*(10^1100*2^(e-2).toNat):=by
 have h1:=digs_at m e (e-2) (by omega) (by omega)
 have h2:=digs_at (4*m-1) (e-2) (e-2) (by omega) (by omega)
 have h3:=digs_at (2*m-1) (e-1) (e-2) (by omega) (by omega)
 have h4:=digs_at (2*m+1) (e-1) (e-2) (by omega) (by omega)
 rw [show (e-(e-2)).toNat=2 by omega,Nat.mul_assoc] at h1
 rw [show (e-2-(e-2)).toNat=0 by omega,Nat.mul_assoc] at h2
 rw [show (e-1-(e-2)).toNat=1 by omega,Nat.mul_assoc] at h3 h4
 refine ⟨?_,?_,?_⟩
 ·rw [h1];congr 1;omega
 ·unfold loD lowN;cases low
  ·show dV (digs (2*m-1) (e-1)).1 (digs (2*m-1) (e-1)).2*_=(4*m-2)*_
   rw [h3];congr 1;omega
  ·show dV (digs (4*m-1) (e-2)).1 (digs (4*m-1) (e-2)).2*_=(4*m-1)*_
   rw [h2];congr 1;omega
 ·unfold hiD;rw [h4];congr 1;omega
theorem short_ok {m:Nat} {e:Int} (low:Bool) (hm:0<m) (hB:DigB m e (digs m e)) (he: -1090≤e):
  Good (digs m e).1 (digs m e).2 (dV (loD m e low).1 (loD m e low).2) (dV (hiD m e).1 (hiD m e).2) (m%2==0) (shortR m e low):=by
 obtain ⟨h1,h2,h3⟩:=units m e low hm he;have hP:0<2^(-(e-2)).toNat:=Nat.pow_pos (by decide)
 have hQ:0<10^1100*2^(e-2).toNat:=Nat.mul_pos (Nat.pow_pos (by decide)) (Nat.pow_pos (by decide))
 have hlow:0<lowN m low∧lowN m low<4*m:=by unfold lowN;split<;>omega
 have e1:shortR m e low=shortL (digs m e).1 (digs m e).2 (dV (loD m e low).1 (loD m e low).2) (dV (hiD m e).1 (hiD m e).2) (m%2==0) (digs m e).1.length 0:=if_neg (by omega)
 rw [e1];generalize 2^(-(e-2)).toNat=P at *
 generalize 10^1100*2^(e-2).toNat=Q at *
 have hlo0:0<dV (loD m e low).1 (loD m e low).2:=by
  rcases Nat.eq_zero_or_pos (dV (loD m e low).1 (loD m e low).2) with e0|e0
  ·rw [e0,Nat.zero_mul] at h2;have:=Nat.mul_pos hlow.1 hQ;omega
  ·exact e0
 have hlv:=unit_lt hP hQ h2 h1 hlow.2;have hvh:=unit_lt hP hQ h1 h3 (by omega)
 have hne:(digs m e).1≠[]:=by
  intro e0;rw [e0] at hlv;simp [dV,dv] at hlv
 exact short_good hB.norm hne hB.la _ hlo0 hlv hvh _ 0 (by omega)
end
section
open Go.RowKit
section
variable {w:World} {d db o c dm off:Nat} {xs:List UInt8}
def HeadFAt (w:World) (d db o c dm:Nat) (xs:List UInt8) (m ai v off':Nat) (e:Ending) (w':World):Prop:=
 e= .returned (.tuple #[.int .u8 ((m*32:Nat):Int),.int .u8 (ai:Int),.int .u64 (v:Int),.bool ((ai:Int)==31)])∧Dec w' d db o c dm xs off'∧Fr [d] w w'
theorem getHeadF (h:Dec w d db o c dm xs off) {m ai v off':Nat} (hh:hd xs off= .ok (m,ai,v,off')):
  Calls Tryz.prog 168 #[.pointer (some ⟨d,0,none⟩)] w (HeadFAt w d db o c dm xs m ai v off'):=by
 have K:=Hz (getHead h hh);clear hh;go_enter Tryz.func168,Tryz.ntmps168
 go_wp2_with fail
 refine K.out.mono ?_
 rintro e w1 ⟨rfl,hD,hf⟩;go_wp2;refine bodyPost_ret (res4 rfl _ _ _) rfl ?_
 exact ⟨rfl,hD,hf⟩
def StrAt (w:World) (d db o c dm:Nat) (xs:List UInt8) (off':Nat) (b:List UInt8) (e:Ending) (w':World):Prop:=
 ∃q n,e= .returned (.tuple #[.slice (some ⟨db,q,none⟩) b.length n,.bool false])∧b.length≤n∧Rd w' db q b∧Dec w' d db o c dm xs off'∧Fr [d] w w'
theorem parseByteString (h:Dec w d db o c dm xs off) {m ai v o1:Nat} (hh:hd xs off= .ok (m,ai,v,o1)) (hai:ai≠31) (hl:o1+v≤xs.length) {b:List UInt8} (hb:b=(xs.drop o1).take v):
  Calls Tryz.prog 129 #[.pointer (some ⟨d,0,none⟩)] w (StrAt w d db o c dm xs (o1+v) b):=by
 have K:=Hz (getHeadF h hh);have g31:((ai:Int)==31)=false:=by simp;omega
 have hm:=h.len;have hbl:b.length=v:=by rw [hb];simp;omega
 replace hh:=Hz hh;clear hai;go_enter Tryz.func129,Tryz.ntmps129
 go_wp2_with fail
 refine K.out.mono ?_
 rintro e w1 ⟨rfl,hD,hf⟩;have h0:=hD.c0;have h1:=hD.c1;have f1:=hD.f1;have hc:=hD.cap;have gv:IntKind.i64.wrap (v:Int)=(v:Int):=IntWalk.i64_in _ (by omega)
 have gs:IntKind.i64.wrap ((o1:Int)+(v:Int))=(o1:Int)+(v:Int):=IntWalk.i64_in _ (by omega)
 have g1:(0:Int)≤(o1:Int):=by omega
 have g2:(o1:Int).toNat=o1:=by omega
 have g3:(o1:Int)≤(o1:Int)+(v:Int):=by omega
 have g4:(o1:Int)+(v:Int)≤(c:Int):=by omega
 have g5:((o1:Int)+(v:Int)).toNat=o1+v:=by omega
 have g6:0≤(o1:Int)+(v:Int):=by omega
 go_wp2;by_cases hco:c=o1
 all_goals
  go_quiet (fail)
  go_wp2
  go_ret2
 ·have hv0:v=0:=by omega
  subst hv0;have hbn:b=[]:=List.eq_nil_of_length_eq_zero hbl;refine ⟨o,_,by rw [hbl];rfl,by omega,by rw [hbn];exact Rd.nil _ _ _,DecV.dec (x:=(o1:Int)+((0:Nat):Int)) ?_ _ (by omega) (by omega),Fr.trans hf ?_⟩
  ·repeat (first|with_reducible exact hD.v|with_reducible apply DecV.set|with_reducible apply DecV.drewN)
  ·repeat (first|with_reducible exact Fr.refl _ _|with_reducible refine Fr.setCell ?_ (by simp) _|with_reducible refine Fr.drewN ?_ _)
 ·have hD2:Dec ((w1.drewN nq).setCell ⟨d,1,none⟩ (.int .i64 ((o1:Int)+(v:Int)))) d db o c dm xs (o1+v):=by
   refine DecV.dec (x:=(o1:Int)+(v:Int)) ?_ _ (by omega) (by omega)
   repeat (first|with_reducible exact hD.v|with_reducible apply DecV.set|with_reducible apply DecV.drewN)
  refine ⟨o+o1,_,by rw [hbl];rfl,by omega,?_,hD2,Fr.trans hf ?_⟩
  ·rw [hb];exact (hD2.rd.drop o1).take v
  ·repeat (first|with_reducible exact Fr.refl _ _|with_reducible refine Fr.setCell ?_ (by simp) _|with_reducible refine Fr.drewN ?_ _)
end
end
section
open Go.RowKit
theorem St.i3 {X:Cx} {off:Nat} {bs:List UInt8} {w:World} (h:St X off bs w):w.cell? ⟨X.dg,0,none⟩=some (.int .u8 (X.M.enc:Int)):=cell_blk h.dg 0
theorem St.i4 {X:Cx} {off:Nat} {bs:List UInt8} {w:World} (h:St X off bs w):w.cell? ⟨X.dg,1,none⟩=some (.bool X.M.sp):=cell_blk h.dg 1
theorem St.i5 {X:Cx} {off:Nat} {bs:List UInt8} {w:World} (h:St X off bs w):w.cell? ⟨X.dg,2,none⟩=some (.bool X.M.tx):=cell_blk h.dg 2
theorem St.i6 {X:Cx} {off:Nat} {bs:List UInt8} {w:World} (h:St X off bs w):w.cell? ⟨X.dg,3,none⟩=some (.bool X.M.em):=cell_blk h.dg 3
theorem St.i7 {X:Cx} {off:Nat} {bs:List UInt8} {w:World} (h:St X off bs w):w.cell? ⟨X.dg,6,none⟩=some (.pointer (some ⟨X.dm,0,none⟩)):=cell_blk h.dg 6
theorem noteB_0 (b:List UInt8):noteB 0 false b=[104,39]++(hexB hexD b++[39]):=by simp [noteB]
theorem noteB_s (b:List UInt8):noteB 0 true b=[104,39]++(spacedB hexD 0 b++[39]):=by simp [noteB]
theorem noteB_1 (sp:Bool) (b:List UInt8):noteB 1 sp b=[98,51,50,39]++(baseB 5 b32D b++[39]):=by simp [noteB]
theorem noteB_2 (sp:Bool) (b:List UInt8):noteB 2 sp b=[104,51,50,39]++(baseB 5 h32D b++[39]):=by simp [noteB]
theorem noteB_3 (sp:Bool) (b:List UInt8):noteB 3 sp b=[98,54,52,39]++(baseB 6 b64D b++[39]):=by simp [noteB]
theorem spaced_snoc (ds:List UInt8) (x:UInt8): ∀(l:List UInt8) (i:Nat),spacedB ds i (l++[x])=spacedB ds i l++((if i+l.length=0 then [] else [32])++hexB ds [x])
 |[],i=>by simp [spacedB]
 |c::l,i=>by
  rw [List.cons_append,spacedB,spaced_snoc ds x l (i+1),spacedB,List.length_cons,show i+1+l.length=i+(l.length+1) by omega]
  simp only [List.append_assoc]
theorem spaced_length (ds:List UInt8): ∀(l:List UInt8) (i:Nat),(spacedB ds i l).length≤3*l.length
 |[],i=>by simp [spacedB]
 |c::l,i=>by
  have:=spaced_length ds l (i+1);rw [spacedB,List.length_append,List.length_append,hexB_length];have:(if i=0 then ([]:List UInt8) else [32]).length≤1:=by split<;>simp
  simp;omega
end
end Go.Proofs.YteodinhkhhaafaaGreatDoor
