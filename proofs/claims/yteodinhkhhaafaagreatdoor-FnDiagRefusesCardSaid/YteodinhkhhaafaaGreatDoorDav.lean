/- Walks of the program, and plain facts. -/
import Derived.Test.YteodinhkhhaafaaGreatDoorDau
set_option linter.unusedVariables false
set_option linter.unusedSimpArgs false
set_option maxRecDepth 100000
set_option maxHeartbeats 6400000
namespace Go.Proofs.YteodinhkhhaafaaGreatDoor
section
set_option exponentiation.threshold 3000
open Go.RowKit
def idx (c:UInt8):List UInt8→Option Nat
 |[]=>none
 |x::l=>if x=c then some 0 else (idx c l).map (· +1)
def cleanE (t:List UInt8):List UInt8:=if 4≤t.length∧(t.drop (t.length-4)).take 3=[101,45,48] then t.take (t.length-2)++t.drop (t.length-1) else t
def dotted (t:List UInt8):List UInt8:=match idx 46 t with
 |some _=>t
 |none=>match idx 101 t with
  |none=>t++[46,48]
  |some i=>t.take i++46::48::t.drop i
def Dg (l:List UInt8):Prop:= ∀b,b∈l→48≤b.toNat∧b.toNat≤57
def dvB (l:List UInt8):Nat:=dv (l.map fun b=>b.toNat-48)
theorem ch_at {n:Nat} (h:n<10):(ch n).toNat=48+n:=by unfold ch;simp;omega
theorem dvB_dec (n:Nat):dvB (dec n)=n∧Dg (dec n)∧dec n≠[]:=by
 obtain ⟨h1,h2,_⟩:=dg_spec n n (Nat.le_refl _)
 refine ⟨h2,fun b hb=> ?_,dec_ne n⟩
 have h3:=dec_dgt n n (Nat.le_refl _) b hb
 have h4:=h1 (b.toNat-48) (List.mem_map.2 ⟨b,hb,rfl⟩)
 omega
theorem idx_none: ∀(c:UInt8) (l:List UInt8),(∀x,x∈l→x≠c)→idx c l=none
 |c,[],_=>rfl
 |c,x::l,h=>by
  rw [idx,if_neg (h x (by simp)),idx_none c l (fun y hy=>h y (by simp [hy]))]
  rfl
theorem idx_app: ∀(c:UInt8) (l m:List UInt8),(∀x,x∈l→x≠c)→idx c (l++c::m)=some l.length
 |c,[],m,_=>by rw [List.nil_append,idx,if_pos rfl];rfl
 |c,x::l,m,h=>by
  rw [List.cons_append,idx,if_neg (h x (by simp)),idx_app c l m (fun y hy=>h y (by simp [hy]))]
  rfl
theorem clean_val (A:List UInt8) (sg:UInt8) (hs:sg=43∨sg=45) (ds:List UInt8) (hd:Dg ds) (h2:2≤ds.length):
  ∃ds',cleanE (A++101::sg::ds)=A++101::sg::ds'∧Dg ds'∧ds'≠[]∧dvB ds'=dvB ds∧ds'.length≤ds.length:=by
 unfold cleanE
 split
 ·rename_i hc
  obtain ⟨_,hc⟩:=hc
  match ds,h2,hd,hc with
  |[x,y],_,hd,hc=>
   have e1:(A++[101,sg,x,y]).length-4=A.length:=by simp
   have e2:(A++[101,sg,x,y]).length-2=(A++[101,sg]).length:=by simp
   have e3:(A++[101,sg,x,y]).length-1=(A++[101,sg,x]).length:=by simp
   rw [e1,List.drop_left] at hc
   simp only [List.take_succ_cons,List.take_zero,List.cons.injEq,and_true,true_and] at hc
   obtain ⟨rfl,rfl⟩:=hc
   refine ⟨[y],?_,fun b hb=>hd b (by simp at hb;simp [hb]),by simp,?_,by simp⟩
   ·rw [e2,e3,show A++[101,45,48,y]=(A++[101,45])++[48,y] by simp,List.take_left,show (A++[101,45])++[48,y]=(A++[101,45,48])++[y] by simp,List.drop_left]
    simp
   ·simp [dvB,dv]
  |x::y::z::l,_,hd,hc=>
   exfalso
   have hh:((A++101::sg::x::y::z::l).drop ((A++101::sg::x::y::z::l).length-4))[0]? =some 101:=by
    have:=congrArg (fun m=>m[0]?) hc
    simp only [List.getElem?_take_of_lt (show 0<3 by omega)] at this
    rw [this];rfl
   rw [List.getElem?_drop,Nat.add_zero] at hh
   have hl:(A++101::sg::x::y::z::l).length-4=(A++[101]).length+l.length:=by simp;omega
   rw [hl,show A++101::sg::x::y::z::l=(A++[101])++(sg::x::y::z::l) by simp,List.getElem?_append_right (by omega),Nat.add_sub_cancel_left] at hh
   have hm:(101:UInt8)∈sg::x::y::z::l:=List.mem_of_getElem? hh
   rcases List.mem_cons.1 hm with e|hm
   ·rcases hs with rfl|rfl
    ·exact absurd e (by decide)
    ·exact absurd e (by decide)
   ·have:=(hd _ hm).2
    exact absurd this (by decide)
 ·exact ⟨ds,rfl,hd,fun e=>by rw [e] at h2;simp at h2,rfl,Nat.le_refl _⟩
end
section
set_option exponentiation.threshold 3000
open Go.RowKit
theorem digs_val (n:Nat) (k:Int) (hk: -1100≤k):dV (digs n k).1 (digs n k).2*2^(-k).toNat=n*10^1100*2^k.toNat:=by
 unfold digs
 by_cases h0:0≤k
 ·rw [if_pos h0]
  obtain ⟨_,g2,_⟩:=frac_spec (n*2^k.toNat) 0 (by omega)
  rw [g2,show (-k).toNat=0 by omega,Nat.pow_zero,Nat.mul_one,Nat.sub_zero,Nat.mul_right_comm]
 ·rw [if_neg h0]
  obtain ⟨j,hj⟩: ∃j:Nat,(-k).toNat=j:=⟨_,rfl⟩
  rw [hj,show k.toNat=0 by omega,Nat.pow_zero,Nat.mul_one]
  obtain ⟨_,g2,_⟩:=frac_spec (n*5^j) j (by omega)
  rw [g2]
  have h10:10^1100=5^j*2^j*10^(1100-j):=by
   rw [←Nat.mul_pow,←Nat.pow_add,show j+(1100-j)=1100 by omega]
  rw [h10]
  generalize 5^j=a
  generalize 2^j=b
  generalize 10^(1100-j)=c
  rw [Nat.mul_assoc,Nat.mul_assoc,Nat.mul_assoc,Nat.mul_comm b c]
theorem digs_at (n:Nat) (k t:Int) (hk: -1100≤k) (ht:t≤k):dV (digs n k).1 (digs n k).2*2^(-t).toNat=(n*2^(k-t).toNat)*10^1100*2^t.toNat:=by
 have h:=digs_val n k hk
 generalize dV (digs n k).1 (digs n k).2=v at *
 have hp:0<2^(-k).toNat:=Nat.pow_pos (by decide)
 apply Nat.eq_of_mul_eq_mul_right hp
 have e1:(k-t).toNat+t.toNat+(-k).toNat=k.toNat+(-t).toNat:=by omega
 have e2:2^(k-t).toNat*2^t.toNat*2^(-k).toNat=2^k.toNat*2^(-t).toNat:=by rw [←Nat.pow_add,←Nat.pow_add,←Nat.pow_add,e1]
 rw [Nat.mul_right_comm,h]
 generalize 10^1100=c
 generalize 2^(k-t).toNat=x at *
 generalize 2^t.toNat=y at *
 generalize 2^(-k).toNat=z at *
 generalize 2^k.toNat=u at *
 generalize 2^(-t).toNat=s at *
 rw [Nat.mul_assoc,←e2]
 rw [Nat.mul_right_comm n x c,Nat.mul_assoc (n*c),Nat.mul_assoc (n*c)]
theorem unit_lt {v1 v2 c1 c2 P Q:Nat} (hP:0<P) (hQ:0<Q) (h1:v1*P=c1*Q) (h2:v2*P=c2*Q) (h:c1<c2):v1<v2:=by
 have h3:c1*Q<c2*Q:=Nat.mul_lt_mul_of_pos_right h hQ
 rw [←h1,←h2] at h3
 exact Nat.lt_of_mul_lt_mul_right h3
def lowN (m:Nat) (low:Bool):Nat:=if low then 4*m-1 else 4*m-2
theorem units (m:Nat) (e:Int) (low:Bool) (hm:0<m) (he: -1090≤e):
  dV (digs m e).1 (digs m e).2*2^(-(e-2)).toNat=(4*m)*(10^1100*2^(e-2).toNat)∧
  dV (loD m e low).1 (loD m e low).2*2^(-(e-2)).toNat=lowN m low*(10^1100*2^(e-2).toNat)∧
  dV (hiD m e).1 (hiD m e).2*2^(-(e-2)).toNat=(4*m+2)*(10^1100*2^(e-2).toNat):=by
 have h1:=digs_at m e (e-2) (by omega) (by omega)
 have h2:=digs_at (4*m-1) (e-2) (e-2) (by omega) (by omega)
 have h3:=digs_at (2*m-1) (e-1) (e-2) (by omega) (by omega)
 have h4:=digs_at (2*m+1) (e-1) (e-2) (by omega) (by omega)
 rw [show (e-(e-2)).toNat=2 by omega,Nat.mul_assoc] at h1
 rw [show (e-2-(e-2)).toNat=0 by omega,Nat.mul_assoc] at h2
 rw [show (e-1-(e-2)).toNat=1 by omega,Nat.mul_assoc] at h3 h4
 refine ⟨?_,?_,?_⟩
 ·rw [h1];congr 1;omega
 ·unfold loD lowN
  cases low
  ·show dV (digs (2*m-1) (e-1)).1 (digs (2*m-1) (e-1)).2*_=(4*m-2)*_
   rw [h3];congr 1;omega
  ·show dV (digs (4*m-1) (e-2)).1 (digs (4*m-1) (e-2)).2*_=(4*m-1)*_
   rw [h2];congr 1;omega
 ·unfold hiD
  rw [h4];congr 1;omega
theorem short_ok {m:Nat} {e:Int} (low:Bool) (hm:0<m) (hB:DigB m e (digs m e)) (he: -1090≤e):
  Good (digs m e).1 (digs m e).2 (dV (loD m e low).1 (loD m e low).2) (dV (hiD m e).1 (hiD m e).2) (m%2==0) (shortR m e low):=by
 obtain ⟨h1,h2,h3⟩:=units m e low hm he
 have hP:0<2^(-(e-2)).toNat:=Nat.pow_pos (by decide)
 have hQ:0<10^1100*2^(e-2).toNat:=Nat.mul_pos (Nat.pow_pos (by decide)) (Nat.pow_pos (by decide))
 have hlow:0<lowN m low∧lowN m low<4*m:=by unfold lowN;split<;>omega
 have e1:shortR m e low=shortL (digs m e).1 (digs m e).2 (dV (loD m e low).1 (loD m e low).2) (dV (hiD m e).1 (hiD m e).2) (m%2==0) (digs m e).1.length 0:=if_neg (by omega)
 rw [e1]
 generalize 2^(-(e-2)).toNat=P at *
 generalize 10^1100*2^(e-2).toNat=Q at *
 have hlo0:0<dV (loD m e low).1 (loD m e low).2:=by
  rcases Nat.eq_zero_or_pos (dV (loD m e low).1 (loD m e low).2) with e0|e0
  ·rw [e0,Nat.zero_mul] at h2
   have:=Nat.mul_pos hlow.1 hQ
   omega
  ·exact e0
 have hlv:=unit_lt hP hQ h2 h1 hlow.2
 have hvh:=unit_lt hP hQ h1 h3 (by omega)
 have hne:(digs m e).1≠[]:=by
  intro e0
  rw [e0] at hlv
  simp [dV,dv] at hlv
 exact short_good hB.norm hne hB.la _ hlo0 hlv hvh _ 0 (by omega)
end
section
open Go.RowKit
section
variable {w:World} {d db o c dm off:Nat} {xs:List UInt8}
def HeadFAt (w:World) (d db o c dm:Nat) (xs:List UInt8) (m ai v off':Nat) (e:Ending) (w':World):Prop:=
 e= .returned (.tuple #[.int .u8 ((m*32:Nat):Int),.int .u8 (ai:Int),.int .u64 (v:Int),.bool ((ai:Int)==31)])∧Dec w' d db o c dm xs off'∧Fr [d] w w'
theorem getHeadF (h:Dec w d db o c dm xs off) {m ai v off':Nat} (hh:hd xs off= .ok (m,ai,v,off')):
  Calls Tryz.prog 168 #[.pointer (some ⟨d,0,none⟩)] w (HeadFAt w d db o c dm xs m ai v off'):=by
 have K:=Hz (getHead h hh)
 clear hh
 go_enter Tryz.func168,Tryz.ntmps168
 go_wp2_with fail
 refine K.out.mono ?_
 rintro e w1 ⟨rfl,hD,hf⟩
 go_wp2
 refine bodyPost_ret (res4 rfl _ _ _) rfl ?_
 exact ⟨rfl,hD,hf⟩
def StrAt (w:World) (d db o c dm:Nat) (xs:List UInt8) (off':Nat) (b:List UInt8) (e:Ending) (w':World):Prop:=
 ∃q n,e= .returned (.tuple #[.slice (some ⟨db,q,none⟩) b.length n,.bool false])∧b.length≤n∧Rd w' db q b∧Dec w' d db o c dm xs off'∧Fr [d] w w'
theorem parseByteString (h:Dec w d db o c dm xs off) {m ai v o1:Nat} (hh:hd xs off= .ok (m,ai,v,o1)) (hai:ai≠31) (hl:o1+v≤xs.length) {b:List UInt8} (hb:b=(xs.drop o1).take v):
  Calls Tryz.prog 129 #[.pointer (some ⟨d,0,none⟩)] w (StrAt w d db o c dm xs (o1+v) b):=by
 have K:=Hz (getHeadF h hh)
 have g31:((ai:Int)==31)=false:=by simp;omega
 have hm:=h.len
 have hbl:b.length=v:=by rw [hb];simp;omega
 replace hh:=Hz hh
 clear hai
 go_enter Tryz.func129,Tryz.ntmps129
 go_wp2_with fail
 refine K.out.mono ?_
 rintro e w1 ⟨rfl,hD,hf⟩
 have h0:=hD.c0
 have h1:=hD.c1
 have f1:=hD.f1
 have hc:=hD.cap
 have gv:IntKind.i64.wrap (v:Int)=(v:Int):=IntWalk.i64_in _ (by omega)
 have gs:IntKind.i64.wrap ((o1:Int)+(v:Int))=(o1:Int)+(v:Int):=IntWalk.i64_in _ (by omega)
 have g1:(0:Int)≤(o1:Int):=by omega
 have g2:(o1:Int).toNat=o1:=by omega
 have g3:(o1:Int)≤(o1:Int)+(v:Int):=by omega
 have g4:(o1:Int)+(v:Int)≤(c:Int):=by omega
 have g5:((o1:Int)+(v:Int)).toNat=o1+v:=by omega
 have g6:0≤(o1:Int)+(v:Int):=by omega
 go_wp2
 by_cases hco:c=o1
 all_goals
  go_quiet (fail)
  go_wp2
  go_ret2
 ·have hv0:v=0:=by omega
  subst hv0
  have hbn:b=[]:=List.eq_nil_of_length_eq_zero hbl
  refine ⟨o,_,by rw [hbl];rfl,by omega,by rw [hbn];exact Rd.nil _ _ _,DecV.dec (x:=(o1:Int)+((0:Nat):Int)) ?_ _ (by omega) (by omega),Fr.trans hf ?_⟩
  ·repeat (first|with_reducible exact hD.v|with_reducible apply DecV.set|with_reducible apply DecV.drewN)
  ·repeat (first|with_reducible exact Fr.refl _ _|with_reducible refine Fr.setCell ?_ (by simp) _|with_reducible refine Fr.drewN ?_ _)
 ·have hD2:Dec ((w1.drewN nq).setCell ⟨d,1,none⟩ (.int .i64 ((o1:Int)+(v:Int)))) d db o c dm xs (o1+v):=by
   refine DecV.dec (x:=(o1:Int)+(v:Int)) ?_ _ (by omega) (by omega)
   repeat (first|with_reducible exact hD.v|with_reducible apply DecV.set|with_reducible apply DecV.drewN)
  refine ⟨o+o1,_,by rw [hbl];rfl,by omega,?_,hD2,Fr.trans hf ?_⟩
  ·rw [hb]
   exact (hD2.rd.drop o1).take v
  ·repeat (first|with_reducible exact Fr.refl _ _|with_reducible refine Fr.setCell ?_ (by simp) _|with_reducible refine Fr.drewN ?_ _)
end
end
section
open Go.RowKit
theorem St.i3 {X:Cx} {off:Nat} {bs:List UInt8} {w:World} (h:St X off bs w):w.cell? ⟨X.dg,0,none⟩=some (.int .u8 (X.M.enc:Int)):=cell_blk h.dg 0
theorem St.i4 {X:Cx} {off:Nat} {bs:List UInt8} {w:World} (h:St X off bs w):w.cell? ⟨X.dg,1,none⟩=some (.bool X.M.sp):=cell_blk h.dg 1
theorem St.i5 {X:Cx} {off:Nat} {bs:List UInt8} {w:World} (h:St X off bs w):w.cell? ⟨X.dg,2,none⟩=some (.bool X.M.tx):=cell_blk h.dg 2
theorem St.i6 {X:Cx} {off:Nat} {bs:List UInt8} {w:World} (h:St X off bs w):w.cell? ⟨X.dg,3,none⟩=some (.bool X.M.em):=cell_blk h.dg 3
theorem St.i7 {X:Cx} {off:Nat} {bs:List UInt8} {w:World} (h:St X off bs w):w.cell? ⟨X.dg,6,none⟩=some (.pointer (some ⟨X.dm,0,none⟩)):=cell_blk h.dg 6
theorem noteB_0 (b:List UInt8):noteB 0 false b=[104,39]++(hexB hexD b++[39]):=by simp [noteB]
theorem noteB_s (b:List UInt8):noteB 0 true b=[104,39]++(spacedB hexD 0 b++[39]):=by simp [noteB]
theorem noteB_1 (sp:Bool) (b:List UInt8):noteB 1 sp b=[98,51,50,39]++(baseB 5 b32D b++[39]):=by simp [noteB]
theorem noteB_2 (sp:Bool) (b:List UInt8):noteB 2 sp b=[104,51,50,39]++(baseB 5 h32D b++[39]):=by simp [noteB]
theorem noteB_3 (sp:Bool) (b:List UInt8):noteB 3 sp b=[98,54,52,39]++(baseB 6 b64D b++[39]):=by simp [noteB]
theorem spaced_snoc (ds:List UInt8) (x:UInt8): ∀(l:List UInt8) (i:Nat),spacedB ds i (l++[x])=spacedB ds i l++((if i+l.length=0 then [] else [32])++hexB ds [x])
 |[],i=>by simp [spacedB]
 |c::l,i=>by
  rw [List.cons_append,spacedB,spaced_snoc ds x l (i+1),spacedB,List.length_cons,show i+1+l.length=i+(l.length+1) by omega]
  simp only [List.append_assoc]
theorem spaced_length (ds:List UInt8): ∀(l:List UInt8) (i:Nat),(spacedB ds i l).length≤3*l.length
 |[],i=>by simp [spacedB]
 |c::l,i=>by
  have:=spaced_length ds l (i+1)
  rw [spacedB,List.length_append,List.length_append,hexB_length]
  have:(if i=0 then ([]:List UInt8) else [32]).length≤1:=by split<;>simp
  simp
  omega
end
section
open Go.RowKit
theorem wrapI_lt (x:Nat) (h:x<9223372036854775808):IntKind.i64.wrap (x:Int)=(x:Int):=IntWalk.i64_in _ (by omega)
theorem ofInt_i64 (a:Nat) (ha:a<9223372036854775808):(BitVec.ofInt 64 (a:Int)).toNat=a:=by
 rw [BitVec.ofInt_natCast,BitVec.toNat_ofNat];exact Nat.mod_eq_of_lt (by omega)
theorem i64_and_nat (a b:Nat) (ha:a<9223372036854775808) (hb:b<9223372036854775808):bits .and .i64 (a:Int) (b:Int)=((a&&&b:Nat):Int):=by
 have hx:a&&&b<2^63:=Nat.and_lt_two_pow _ (by omega)
 show IntKind.i64.wrap ((BitVec.ofInt 64 (a:Int)&&&BitVec.ofInt 64 (b:Int)).toNat:Int)=_
 rw [BitVec.toNat_and,ofInt_i64 a ha,ofInt_i64 b hb]
 exact wrapI_lt _ (by omega)
theorem i64_or_nat (a b:Nat) (ha:a<9223372036854775808) (hb:b<9223372036854775808):bits .or .i64 (a:Int) (b:Int)=((a|||b:Nat):Int):=by
 have hx:a|||b<2^63:=Nat.or_lt_two_pow (by omega) (by omega)
 show IntKind.i64.wrap ((BitVec.ofInt 64 (a:Int)|||BitVec.ofInt 64 (b:Int)).toNat:Int)=_
 rw [BitVec.toNat_or,ofInt_i64 a ha,ofInt_i64 b hb]
 exact wrapI_lt _ (by omega)
theorem ori_acc (A x:Nat) (hA:A<128) (hx:x<256):bits .or .i64 ((A:Int)*256) (x:Int)=((A*256+x:Nat):Int):=by
 rw [show (A:Int)*256=((A*256:Nat):Int) by omega,i64_or_nat _ _ (by omega) (by omega),nat_join 8 _ _ (by omega) (by omega)]
theorem mask_i (n:Nat) (h:n≤16):IntKind.i64.wrap (IntKind.i64.wrap (2^n)-1)=((2^n-1:Nat):Int):=by
 have hp:=Nat.pow_le_pow_right (n:=2) (by omega) h
 have h1:1≤2^n:=Nat.pow_pos (by omega)
 rw [pow_int,wrapI_lt _ (by omega),show ((2^n:Nat):Int)-1=((2^n-1:Nat):Int) by omega,wrapI_lt _ (by omega)]
theorem andi_mask (A n:Nat) (hA:A<9223372036854775808) (h:n≤16):bits .and .i64 (A:Int) (IntKind.i64.wrap (IntKind.i64.wrap (2^n)-1))=((A%2^n:Nat):Int):=by
 have hp:=Nat.pow_le_pow_right (n:=2) (by omega) h
 rw [mask_i n h,i64_and_nat _ _ hA (by omega),Nat.and_two_pow_sub_one_eq_mod]
theorem wrap_eq (x:Int):IntKind.i64.wrap x=wrap64 x:=by rw [IntKind.wrap_i64,wrap64]
theorem mod_div (B k n:Nat) (h:n≤k):B%2^k/2^(k-n)=B/2^(k-n)%2^n:=by
 rw [show 2^k=2^(k-n)*2^n from by rw [←Nat.pow_add];congr 1;omega,Nat.mod_mul_right_div_self]
theorem mod_mod_le (B k m:Nat) (h:m≤k):B%2^k%2^m=B%2^m:=Nat.mod_mod_of_dvd _ (Nat.pow_dvd_pow 2 h)
theorem rowStr {w:World} {B:Nat} {v:Value} {bs:List UInt8} (h:Row w B v bs):(convert 59 9 v).run Tryz.prog w= .ok (.string ⟨bs.toArray⟩) w:=by
 rcases h.2 with ⟨rfl,hn⟩|⟨g,cap,cur,rfl,hg,hh,hr3⟩
 ·have hbs:bs=[]:=List.eq_nil_of_length_eq_zero hn
  subst hbs
  exact Lib.run_convert_nil_bytes w 59 9 5 0 Tryz.underlying59 Tryz.underlying5 Tryz.underlying9
 ·exact toStr (Rd.of_own h) cap
theorem based {w:World} {n:Nat} {xs ds:List UInt8} (h0:0<n) (h8:n≤8) (hds:ds.length=2^n) (hlen:xs.length≤1099511627776):
  Calls Tryz.prog 71 #[.string ⟨xs.toArray⟩,.int .i64 (n:Int),.string ⟨ds.toArray⟩] w fun e w'=>e= .returned (.string ⟨(baseB n ds xs).toArray⟩)∧Fr [] w w':=by
 replace hds:=Hz hds
 go_enter Tryz.func71,Tryz.ntmps71
 go_wp2
 go_loopg [7,8,9,10] xs.length (fun k v7 v8 v9 v10 wr=> ∃(j A h:Nat) (out:List Nat),v10= .int .i64 (j:Int)∧j+k=xs.length∧v8= .int .i64 (A:Int)∧v9= .int .i64 (h:Int)∧A<2^h∧h<n∧Hid (out++bdg n (xs.drop j) A h=bdg n xs 0 0)∧Row wr w.heap.size v7 (out.map (ltr ds))∧Fr [] w wr)
 case atStart=>exact ⟨0,0,0,[],by go_num,by omega,by go_num,by go_num,by omega,h0,Hz (by simp),Row.nil _ _,Fr.refl _ _⟩
 case round=>
  obtain ⟨j,A,h,out,rfl,hj,rfl,rfl,hA,hh,heq,hrow,hF⟩:=hrel
  by_cases hk:gk=0
  ·subst hk
   obtain rfl:j=xs.length:=by omega
   rw [List.drop_of_length_le (Nat.le_refl _),bdg] at heq
   have t1: ¬(xs.length:Int)<(xs.length:Int):=by omega
   by_cases hz:0<h
   ·rw [if_pos hz] at heq
    have t2:(0:Int)<(h:Int):=by omega
    have hfin:=heq.out
    have hol:=congrArg List.length hfin
    rw [List.length_append,List.length_singleton] at hol
    have hbl:=bdg_length n h0 xs 0 0 h0
    have hpw:A*2^(n-h)<2^n:=by
     have h1:A*2^(n-h)<2^h*2^(n-h):=Nat.mul_lt_mul_of_pos_right hA (Nat.pow_pos (by omega))
     rwa [←Nat.pow_add,show h+(n-h)=n by omega] at h1
    have hp8:=Nat.pow_le_pow_right (n:=2) (by omega) h8
    have gsl:IntKind.i64.wrap ((A:Int)*2^(n-h))=((A*2^(n-h):Nat):Int):=by
     rw [pow_int,←Int.natCast_mul]
     exact wrapI_lt _ (by omega)
    rw [←hds.out] at hpw
    have hlo:(out.map (ltr ds)).length+[ltr ds (A*2^(n-h))].length≤140737488355328:=by simp;omega
    have hrow2:baseB n ds xs=(out.map (ltr ds))++[ltr ds (A*2^(n-h))]:=by
     unfold baseB
     rw [←hfin,List.map_append]
     rfl
    have hBs:=hF.size
    generalize A*2^(n-h)=z at *
    have hba:=ba_getD ds z hpw
    replace hba:=Hz hba
    replace hrow2:=Hz hrow2
    replace heq:=Hz heq
    replace hfin:=Hz hfin
    clear hol hbl hp8
    obtain ⟨ao,n0,c0,rfl⟩:=hrow.shape
    go_wp2_with (at_builtin;refine wpList_apRow rfl _ _ rfl (B:=w.heap.size) _ (out.map (ltr ds)) [ltr ds z] wr.heap.size 0 1 rfl rfl (rd_new (w:=wr) rfl (by simp only [enc,List.map_cons,List.map_nil];rw [←hba.out])) (hrow.push rfl) (by simp;omega) hlo ?_)
    intro v' w' hr' hg
    have hF2:Fr [] w w':=by
     refine Fr.grown ?_ hg (fun k hk=> .inr (World.ownsRow.lt hrow k hk).1)
     exact hF.push rfl rfl rfl rfl
    rw [←hrow2.out] at hr'
    have hst:=rowStr hr'
    go_wp2
    go_ret
    exact ⟨rfl,hF2⟩
   ·rw [if_neg hz,List.append_nil] at heq
    have t2: ¬(0:Int)<(h:Int):=by omega
    have hrow2:baseB n ds xs=out.map (ltr ds):=by unfold baseB;rw [←heq.out]
    rw [←hrow2] at hrow
    clear hrow2
    have hst:=rowStr hrow
    go_wp2
    go_ret
    exact ⟨rfl,hF⟩
  ·obtain ⟨ao,n0,c0,rfl⟩:=hrow.shape
   obtain ⟨g,rfl⟩: ∃g,gk=g+1:=⟨gk-1,by omega⟩
   have hjl:j<xs.length:=by omega
   have t1:(j:Int)<(xs.length:Int):=by omega
   have hE:=heq.out
   rw [bdg_step n xs j A h hjl] at hE
   clear heq
   have hxb:((⟨xs.toArray⟩:ByteArray)[j]'(by show j<xs.toArray.size;simpa using hjl))=xs[j]:=rfl
   generalize hxe:xs[j]=x at hE hxb
   have hb:=x.toNat_lt
   have hp8:=Nat.pow_le_pow_right (n:=2) (by omega) (show h≤7 by omega)
   have hA8:A<128:=by omega
   have gor:=ori_acc A x.toNat hA8 hb
   have hBm:(A*256+x.toNat)%2^(h+8)=A*256+x.toNat:=Nat.mod_eq_of_lt (by rw [Nat.pow_add];have:2^8=256:=rfl;omega)
   generalize hBB:A*256+x.toNat=BB at *
   have hB2:BB<32768:=by omega
   replace hBB:=Hz hBB
   replace hBm:=Hz hBm
   replace hxe:=Hz hxe
   have hmn:=Nat.mod_lt (h+8) h0
   have hol:Hid (out.length+(dgs n BB (h+8)).length≤8*xs.length):=by
    have:=congrArg List.length hE
    rw [List.length_append,List.length_append] at this
    have hbl:=bdg_length n h0 xs 0 0 h0
    exact Hz (by omega)
   replace hE:=Hz hE
   go_wp2
   go_loopg [7,8,9] (h+8) (fun k v7 v8 v9 wr=> ∃(x:Nat) (out':List Nat),v9= .int .i64 (k:Int)∧v8= .int .i64 (x:Int)∧Hid (x=BB%2^k)∧k<16∧Hid (k%n=(h+8)%n)∧Hid (out'++dgs n BB k=out++dgs n BB (h+8))∧Row wr w.heap.size v7 (out'.map (ltr ds))∧Fr [] w wr)
   case atStart=>exact ⟨BB,out,by go_num,rfl,Hz hBm.out.symm,by omega,rfl,rfl,hrow,hF⟩
   case round=>
    obtain ⟨x2,out',rfl,rfl,hx2,hk16,hmod,heq',hrow',hF'⟩:=hrel
    obtain ⟨ao',n0',c0',rfl⟩:=hrow'.shape
    by_cases hkn:gk<n
    ·have t2: ¬(n:Int)≤(gk:Int):=by omega
     have hk2:gk=(h+8)%n:=by rw [←hmod.out,Nat.mod_eq_of_lt hkn]
     have hE2:=hE.out
     rw [←hk2,←hx2.out] at hE2
     have he2:=heq'.out
     rw [dgs_no hkn,List.append_nil] at he2
     rw [←List.append_assoc,←he2] at hE2
     have hAl:x2<2^gk:=by rw [hx2.out];exact Nat.mod_lt _ (Nat.pow_pos (by omega))
     replace hE2:=Hz hE2
     replace hk2:=Hz hk2
     clear he2
     go_wp2
     go_roundg g
     case measure=>omega
     case rel=>exact ⟨j+1,x2,gk,out',by go_num,by omega,rfl,rfl,hAl,hkn,hE2,hrow',hF'⟩
    ·have t2:(n:Int)≤(gk:Int):=by omega
     have hx3:x2≤BB:=by rw [hx2.out];exact Nat.mod_le _ _
     have gsh:(x2:Int)/2^(gk-n)=((x2/2^(gk-n):Nat):Int):=by rw [pow_int];omega
     have hxd:x2/2^(gk-n)=BB/2^(gk-n)%2^n:=by rw [hx2.out];exact mod_div BB gk n (by omega)
     have gma:=andi_mask x2 (gk-n) (by omega) (by omega)
     have hxm:x2%2^(gk-n)=BB%2^(gk-n):=by rw [hx2.out];exact mod_mod_le BB gk (gk-n) (by omega)
     have hml:=Nat.mod_lt (BB/2^(gk-n)) (show 0<2^n from Nat.pow_pos (by omega))
     rw [←hxd,←hds.out] at hml
     have he2:=heq'.out
     rw [dgs_yes h0 (by omega),←hxd] at he2
     have hol2:=congrArg List.length he2
     rw [List.length_append,List.length_append,List.length_cons] at hol2
     have:=hol.out
     have hms:(gk-n)%n=(h+8)%n:=by rw [←hmod.out,Nat.mod_eq_sub_mod (show n≤gk by omega)]
     generalize hz:x2/2^(gk-n)=z at *
     generalize hz2:x2%2^(gk-n)=z2 at *
     rw [show out'++z::dgs n BB (gk-n)=(out'++[z])++dgs n BB (gk-n) by simp] at he2
     have hlo:(out'.map (ltr ds)).length+[ltr ds z].length≤140737488355328:=by simp;omega
     have hBs:=hF'.size
     have hba:=ba_getD ds z hml
     have g9:(gk:Int)-(n:Int)=((gk-n:Nat):Int):=by omega
     replace hba:=Hz hba
     replace hz:=Hz hz
     replace hz2:=Hz hz2
     replace he2:=Hz he2
     replace hms:=Hz hms
     replace hxm:=Hz hxm
     replace g9:=Hz g9
     clear hol2 this hxd hx3
     go_wp2_with (at_builtin;refine wpList_apRow rfl _ _ rfl (B:=w.heap.size) _ (out'.map (ltr ds)) [ltr ds z] wr.heap.size 0 1 rfl rfl (rd_new (w:=wr) rfl (by simp only [enc,List.map_cons,List.map_nil];rw [←hba.out])) (hrow'.push rfl) (by simp;omega) hlo ?_)
     intro v' w' hr' hg
     have hF2:Fr [] w w':=by
      refine Fr.grown ?_ hg (fun k hk=> .inr (World.ownsRow.lt hrow' k hk).1)
      exact hF'.push rfl rfl rfl rfl
     go_wp2
     go_roundg (gk-n)
     case measure=>omega
     case rel=>exact ⟨z2,out'++[z],by congr 1,by congr 1;rw [wrap_eq,wrap_eq] at gma;exact gma,Hz hxm.out,by omega,hms,he2,by rw [List.map_append];exact hr',hF2⟩
end
end Go.Proofs.YteodinhkhhaafaaGreatDoor
