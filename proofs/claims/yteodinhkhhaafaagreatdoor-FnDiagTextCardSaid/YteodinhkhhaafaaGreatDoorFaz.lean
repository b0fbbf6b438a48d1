/- Walks of the program, and plain facts. -/
import Derived.Test.YteodinhkhhaafaaGreatDoorFax
set_option linter.unusedVariables false
set_option linter.unusedSimpArgs false
set_option maxRecDepth 100000
set_option maxHeartbeats 6400000
namespace Go.Proofs.YteodinhkhhaafaaGreatDoor
section
set_option exponentiation.threshold 3000
open Go.RowKit
def idx (c:UInt8):List UInt8→Option Nat
 |[]=>none
 |x::l=>if x=c then some 0 else (idx c l).map (· +1)
def cleanE (t:List UInt8):List UInt8:=if 4≤t.length∧(t.drop (t.length-4)).take 3=[101,45,48] then t.take (t.length-2)++t.drop (t.length-1) else t
def dotted (t:List UInt8):List UInt8:=match idx 46 t with
 |some _=>t
 |none=>match idx 101 t with
  |none=>t++[46,48]
  |some i=>t.take i++46::48::t.drop i
def Dg (l:List UInt8):Prop:= ∀b,b∈l→48≤b.toNat∧b.toNat≤57
def dvB (l:List UInt8):Nat:=dv (l.map fun b=>b.toNat-48)
theorem dvB_append (l m:List UInt8):dvB (l++m)=dvB l*10^m.length+dvB m:=by
 unfold dvB;rw [List.map_append,dv_append,List.length_map]
theorem ch_at {n:Nat} (h:n<10):(ch n).toNat=48+n:=by unfold ch;simp;omega
theorem dvB_ch: ∀(l:List Nat),(∀x,x∈l→x<10)→dvB (l.map ch)=dv l∧Dg (l.map ch):=by
 intro l h;refine ⟨?_,fun b hb=> ?_⟩
 ·unfold dvB;rw [List.map_map]
  congr 1
  conv=>rhs;rw [←List.map_id l]
  refine List.map_congr_left fun x hx=> ?_
  have:=ch_at (h x hx);simp only [Function.comp,id,this];omega
 ·obtain ⟨x,hx,rfl⟩:=List.mem_map.1 hb;have:=ch_at (h x hx);have:=h x hx;omega
theorem dvB_dec (n:Nat):dvB (dec n)=n∧Dg (dec n)∧dec n≠[]:=by
 obtain ⟨h1,h2,_⟩:=dg_spec n n (Nat.le_refl _);refine ⟨h2,fun b hb=> ?_,dec_ne n⟩
 have h3:=dec_dgt n n (Nat.le_refl _) b hb;have h4:=h1 (b.toNat-48) (List.mem_map.2 ⟨b,hb,rfl⟩);omega
theorem idx_none: ∀(c:UInt8) (l:List UInt8),(∀x,x∈l→x≠c)→idx c l=none
 |c,[],_=>rfl
 |c,x::l,h=>by
  rw [idx,if_neg (h x (by simp)),idx_none c l (fun y hy=>h y (by simp [hy]))]
  rfl
theorem idx_app: ∀(c:UInt8) (l m:List UInt8),(∀x,x∈l→x≠c)→idx c (l++c::m)=some l.length
 |c,[],m,_=>by rw [List.nil_append,idx,if_pos rfl];rfl
 |c,x::l,m,h=>by
  rw [List.cons_append,idx,if_neg (h x (by simp)),idx_app c l m (fun y hy=>h y (by simp [hy]))]
  rfl
theorem dg_ne_of {l:List UInt8} (h:Dg l) {c:UInt8} (hc:c.toNat<48∨57<c.toNat): ∀x,x∈l→x≠c:=by
 intro x hx e;subst e;have:=h x hx;omega
def NumT (t D:List UInt8) (X:Int):Prop:= ∃ip fp ep,t=ip++46::(fp++ep)∧ip≠[]∧fp≠[]∧Dg ip∧Dg fp∧D=ip++fp∧
 ((ep=[]∧X= -(fp.length:Int))∨ ∃sg ds,ep=101::sg::ds∧ds≠[]∧Dg ds∧ds.length≤4∧((sg=43∧X=(dvB ds:Int)-fp.length)∨(sg=45∧X= -(dvB ds:Int)-fp.length)))
theorem dgt_map (d:List Nat) (n:Nat):(List.range n).map (dgt d)=d.take n++List.replicate (n-d.length) 0:=by
 apply List.ext_getElem
 ·simp;omega
 ·intro i h1 h2;simp only [List.length_map,List.length_range] at h1;rw [List.getElem_map,List.getElem_range];by_cases hi:i<d.length
  ·rw [List.getElem_append_left (by simp;omega),List.getElem_take,dgt_lt hi]
  ·rw [List.getElem_append_right (by simp;omega),List.getElem_replicate]
   unfold dgt;rw [List.getD,List.getElem?_eq_none (by omega)]
   rfl
theorem dgi_map (d:List Nat) (j k:Nat):(List.range (j+k)).map (fun (i:Nat)=>dgi d (-(j:Int)+(i:Int)))=List.replicate j 0++(List.range k).map (dgt d):=by
 apply List.ext_getElem
 ·simp
 ·intro i h1 h2;simp only [List.length_map,List.length_range] at h1;rw [List.getElem_map,List.getElem_range];by_cases hi:i<j
  ·rw [List.getElem_append_left (by simp;omega),List.getElem_replicate]
   exact if_pos (by omega)
  ·rw [List.getElem_append_right (by simp;omega),List.getElem_map,List.getElem_range,List.length_replicate]
   unfold dgi;rw [if_neg (by omega),show (-(j:Int)+(i:Int)).toNat=i-j by omega]
theorem dv_rep (n:Nat) (l:List Nat):dv (List.replicate n 0++l)=dv l:=by
 induction n with
 |zero=>rfl
 |succ n ih=>rw [List.replicate_succ,List.cons_append,dv_cons,ih,Nat.zero_mul,Nat.zero_add]
theorem rep_lt {l m:List Nat} (hl: ∀x,x∈l→x<10) (hm: ∀x,x∈m→x<10): ∀x,x∈l++m→x<10:=by
 intro x hx;rcases List.mem_append.1 hx with h|h
 ·exact hl x h
 ·exact hm x h
theorem rep0_lt (n:Nat): ∀x,x∈List.replicate n 0→x<10:=by
 intro x hx;rw [List.eq_of_mem_replicate hx];omega
def TxtOf (t:List UInt8) (d:List Nat) (dp:Int):Prop:= ∃(D:List UInt8) (X:Int) (z:Nat),NumT t D X∧dvB D=dv d*10^z∧X=dp-d.length-(z:Int)∧(D.length:Int)≤d.length+dp.natAbs+2∧(dp-d.length≤X+1∨X= -1)
theorem tex_num {d:List Nat} {dp:Int} (h:NormD d dp):TxtOf (dotted (texT d dp ((d.length:Int)-dp).toNat)) d dp:=by
 have hlt:=h.lt;by_cases h0:dp≤0
 ·by_cases hp:((d.length:Int)-dp).toNat=0
  ·have hd:d=[]:=List.eq_nil_of_length_eq_zero (by omega)
   have hdp:=h.nil hd;subst hd hdp;refine ⟨[48,48],-1,1,⟨[48],[48],[],rfl,by simp,by simp,?_,?_,rfl,.inl ⟨rfl,rfl⟩⟩,rfl,by simp,by simp,.inr rfl⟩
   ·intro b hb;simp at hb;subst hb;decide
   ·intro b hb;simp at hb;subst hb;decide
  ·obtain ⟨j,hj⟩: ∃j:Nat,dp= -(j:Int):=⟨dp.natAbs,by omega⟩
   have hpj:((d.length:Int)-dp).toNat=j+d.length:=by omega
   have e1:texT d dp ((d.length:Int)-dp).toNat=[48]++46::((List.replicate j 0++d).map ch++[]):=by
    unfold texT;rw [if_pos h0,if_neg hp,hpj,hj,List.append_nil];have:=dgi_map d j d.length;rw [dgt_map,List.take_length,Nat.sub_self,List.replicate_zero,List.append_nil] at this;rw [←this,List.map_map]
    rfl
   have hall: ∀x,x∈List.replicate j 0++d→x<10:=rep_lt (rep0_lt j) hlt;obtain ⟨c1,c2⟩:=dvB_ch _ hall;have e2:dotted (texT d dp ((d.length:Int)-dp).toNat)=texT d dp ((d.length:Int)-dp).toNat:=by
    unfold dotted;rw [e1,idx_app 46 [48] _ (by intro x hx;simp at hx;subst hx;decide)]
   rw [e2,e1];refine ⟨[48]++(List.replicate j 0++d).map ch,dp-d.length,0,⟨[48],(List.replicate j 0++d).map ch,[],rfl,by simp,?_,?_,c2,rfl,.inl ⟨rfl,?_⟩⟩,?_,by omega,by simp;omega,.inl (by omega)⟩
   ·intro e;have:=congrArg List.length e;simp only [List.length_map,List.length_append,List.length_replicate,List.length_nil,List.length_take,List.length_drop] at this;omega
   ·intro b hb;simp at hb;subst hb;decide
   ·simp;omega
   ·rw [dvB_append,c1,dv_rep];simp [dvB,dv]
 ·obtain ⟨n,hn⟩: ∃n:Nat,dp=(n:Int):=⟨dp.toNat,by omega⟩
  have hn2:dp.toNat=n:=by omega
  have hI:((List.range dp.toNat).map fun i=>ch (dgt d i))=(d.take n++List.replicate (n-d.length) 0).map ch:=by
   rw [hn2,←dgt_map,List.map_map]
   rfl
  have hall: ∀x,x∈d.take n++List.replicate (n-d.length) 0→x<10:=rep_lt (fun x hx=>hlt x (List.mem_of_mem_take hx)) (rep0_lt _)
  obtain ⟨c1,c2⟩:=dvB_ch _ hall;by_cases hp:((d.length:Int)-dp).toNat=0
  ·have e1:texT d dp ((d.length:Int)-dp).toNat=(d.take n++List.replicate (n-d.length) 0).map ch:=by
    unfold texT;rw [if_neg h0,if_pos hp,hI,List.append_nil]
   have ht:d.take n=d:=List.take_of_length_le (by omega)
   rw [ht] at e1 c1 c2;have e2:dotted (texT d dp ((d.length:Int)-dp).toNat)=(d++List.replicate (n-d.length) 0).map ch++[46,48]:=by
    unfold dotted;rw [e1,idx_none 46 _ (dg_ne_of c2 (by decide)),idx_none 101 _ (dg_ne_of c2 (by decide))]
   rw [e2];refine ⟨(d++List.replicate (n-d.length) 0).map ch++[48],-1,n-d.length+1,⟨(d++List.replicate (n-d.length) 0).map ch,[48],[],rfl,?_,by simp,c2,?_,rfl,.inl ⟨rfl,rfl⟩⟩,?_,by omega,by simp;omega,.inr rfl⟩
   ·intro e;have:=congrArg List.length e;simp only [List.length_map,List.length_append,List.length_replicate,List.length_nil,List.length_take,List.length_drop] at this;omega
   ·intro b hb;simp at hb;subst hb;decide
   ·rw [dvB_append,c1,dv_zeros,Nat.pow_succ,Nat.mul_assoc];simp [dvB,dv]
  ·have hz:n-d.length=0:=by omega
   have e1:texT d dp ((d.length:Int)-dp).toNat=(d.take n).map ch++46::((d.drop n).map ch++[]):=by
    unfold texT;rw [if_neg h0,if_neg hp,hI,hz,List.replicate_zero,List.append_nil,List.append_nil]
    congr 2
    apply List.ext_getElem
    ·simp;omega
    ·intro i h1 h2;simp only [List.length_map,List.length_range] at h1;rw [List.getElem_map,List.getElem_range,List.getElem_map,List.getElem_drop];unfold dgi;rw [if_neg (by omega),show (dp+(i:Int)).toNat=n+i by omega,dgt_lt (by omega)]
   rw [hz,List.replicate_zero,List.append_nil] at c1 c2;obtain ⟨f1,f2⟩:=dvB_ch (d.drop n) (fun x hx=>hlt x (List.mem_of_mem_drop hx))
   have e2:dotted (texT d dp ((d.length:Int)-dp).toNat)=texT d dp ((d.length:Int)-dp).toNat:=by
    unfold dotted;rw [e1,idx_app 46 _ _ (dg_ne_of c2 (by decide))]
   rw [e2,e1];refine ⟨(d.take n).map ch++(d.drop n).map ch,dp-d.length,0,⟨(d.take n).map ch,(d.drop n).map ch,[],rfl,?_,?_,c2,f2,rfl,.inl ⟨rfl,?_⟩⟩,?_,by omega,by simp;omega,.inl (by omega)⟩
   ·intro e;have:=congrArg List.length e;simp only [List.length_map,List.length_append,List.length_replicate,List.length_nil,List.length_take,List.length_drop] at this;omega
   ·intro e;have:=congrArg List.length e;simp only [List.length_map,List.length_append,List.length_replicate,List.length_nil,List.length_take,List.length_drop] at this;omega
   ·simp;omega
   ·rw [dvB_append,c1,f1,List.length_map,←dv_append,List.take_append_drop,Nat.pow_zero,Nat.mul_one]
theorem clean_val (A:List UInt8) (sg:UInt8) (hs:sg=43∨sg=45) (ds:List UInt8) (hd:Dg ds) (h2:2≤ds.length):
  ∃ds',cleanE (A++101::sg::ds)=A++101::sg::ds'∧Dg ds'∧ds'≠[]∧dvB ds'=dvB ds∧ds'.length≤ds.length:=by
 unfold cleanE
 split
 ·rename_i hc;obtain ⟨_,hc⟩:=hc
  match ds,h2,hd,hc with
  |[x,y],_,hd,hc=>
   have e1:(A++[101,sg,x,y]).length-4=A.length:=by simp
   have e2:(A++[101,sg,x,y]).length-2=(A++[101,sg]).length:=by simp
   have e3:(A++[101,sg,x,y]).length-1=(A++[101,sg,x]).length:=by simp
   rw [e1,List.drop_left] at hc;simp only [List.take_succ_cons,List.take_zero,List.cons.injEq,and_true,true_and] at hc;obtain ⟨rfl,rfl⟩:=hc;refine ⟨[y],?_,fun b hb=>hd b (by simp at hb;simp [hb]),by simp,?_,by simp⟩
   ·rw [e2,e3,show A++[101,45,48,y]=(A++[101,45])++[48,y] by simp,List.take_left,show (A++[101,45])++[48,y]=(A++[101,45,48])++[y] by simp,List.drop_left]
    simp
   ·simp [dvB,dv]
  |x::y::z::l,_,hd,hc=>
   exfalso
   have hh:((A++101::sg::x::y::z::l).drop ((A++101::sg::x::y::z::l).length-4))[0]? =some 101:=by
    have:=congrArg (fun m=>m[0]?) hc
    simp only [List.getElem?_take_of_lt (show 0<3 by omega)] at this
    rw [this];rfl
   rw [List.getElem?_drop,Nat.add_zero] at hh;have hl:(A++101::sg::x::y::z::l).length-4=(A++[101]).length+l.length:=by simp;omega
   rw [hl,show A++101::sg::x::y::z::l=(A++[101])++(sg::x::y::z::l) by simp,List.getElem?_append_right (by omega),Nat.add_sub_cancel_left] at hh
   have hm:(101:UInt8)∈sg::x::y::z::l:=List.mem_of_getElem? hh;rcases List.mem_cons.1 hm with e|hm
   ·rcases hs with rfl|rfl
    ·exact absurd e (by decide)
    ·exact absurd e (by decide)
   ·have:=(hd _ hm).2;exact absurd this (by decide)
 ·exact ⟨ds,rfl,hd,fun e=>by rw [e] at h2;simp at h2,rfl,Nat.le_refl _⟩
theorem exp_num {d:List Nat} {dp:Int} (h:NormD d dp) (hne:d≠[]) (hE:(dp-1).natAbs<1000):TxtOf (dotted (cleanE (expT d dp (d.length-1)))) d dp:=by
 have hlt:=h.lt;have hl0:0<d.length:=List.length_pos_iff.2 hne;obtain ⟨a1,a2,a3⟩:=dvB_dec (dp-1).natAbs;obtain ⟨ds,hds⟩: ∃ds:List UInt8,ds=(if (dp-1:Int).natAbs<10 then [48] else [])++dec (dp-1:Int).natAbs:=⟨_,rfl⟩
 have hdl:=dec_length (dp-1).natAbs 3 (by omega) (by omega)
 have hv:dvB ds=(dp-1).natAbs∧Dg ds∧2≤ds.length∧ds.length≤4:=by
  rw [hds]
  split
  ·rename_i h10;refine ⟨by rw [dvB_append,a1];simp [dvB,dv],fun b hb=> ?_,?_,?_⟩
   ·rcases List.mem_append.1 hb with hb|hb
    ·simp at hb;subst hb;decide
    ·exact a2 b hb
   ·rw [dec_lt _ h10];simp
   ·rw [dec_lt _ h10];simp
  ·rename_i h10;rw [List.nil_append];refine ⟨a1,a2,?_,by omega⟩
   rw [dec_ge _ h10,List.length_append];have:=List.length_pos_iff.2 (dec_ne ((dp-1).natAbs/10));simp;omega
 obtain ⟨v1,v2,v3,v4⟩:=hv;obtain ⟨sg,hsg⟩: ∃sg:UInt8,sg=(if (dp-1:Int)<0 then 45 else 43):=⟨_,rfl⟩
 have hs:sg=43∨sg=45:=by rw [hsg];split<;>simp
 obtain ⟨F,hF⟩: ∃F:List UInt8,F=(if d.length-1=0 then [] else 46::(d.drop 1).map ch):=⟨_,rfl⟩
 have e1:expT d dp (d.length-1)=(ch (dgt d 0)::F)++101::sg::ds:=by
  unfold expT;rw [if_neg hne,←hsg,←hds,hF];simp only [List.cons_append,List.append_assoc,List.nil_append]
  congr 2
  split
  ·rfl
  ·congr 1
   apply List.ext_getElem
   ·simp
   ·intro i h1 h2;simp only [List.length_map,List.length_range] at h1;rw [List.getElem_map,List.getElem_range,List.getElem_map,List.getElem_drop,dgt_lt (by omega)]
    congr 2
    omega
 obtain ⟨ds',hc,b1,b2,b3,b4⟩:=clean_val (ch (dgt d 0)::F) sg hs ds v2 v3;rw [e1,hc];have hx0:dgt d 0<10:=by rw [dgt_lt hl0];exact hlt _ (List.getElem_mem hl0)
 have hc0:Dg [ch (dgt d 0)]:=by
  intro b hb;simp at hb;subst hb;have:=ch_at hx0;omega
 have hdv:d=dgt d 0::d.drop 1:=by
  cases d with
  |nil=>exact absurd rfl hne
  |cons x l=>rfl
 obtain ⟨f1,f2⟩:=dvB_ch (d.drop 1) (fun x hx=>hlt x (List.mem_of_mem_drop hx))
 have hc1:dvB [ch (dgt d 0)]=dgt d 0:=by have:=ch_at hx0;simp [dvB,dv,this]
 have hX: ∀n:Nat,((sg=43∧(dp-1-n:Int)=(dvB ds':Int)-(n:Int))∨(sg=45∧(dp-1-n:Int)= -(dvB ds':Int)-(n:Int))):=by
  intro n;rw [b3,v1,hsg]
  split
  ·exact .inr ⟨rfl,by omega⟩
  ·exact .inl ⟨rfl,by omega⟩
 by_cases hp:d.length-1=0
 ·rw [if_pos hp] at hF;subst hF;have e2:dotted ([ch (dgt d 0)]++101::sg::ds')=[ch (dgt d 0)]++46::([48]++101::sg::ds'):=by
   unfold dotted;rw [idx_none 46 _ (by
    intro x hx;simp only [List.mem_append,List.mem_cons,List.mem_nil_iff,or_false] at hx;rcases hx with rfl|rfl|rfl|hx
    ·exact dg_ne_of hc0 (by decide) _ (by simp)
    ·decide
    ·rcases hs with rfl|rfl<;>decide
    ·exact dg_ne_of b1 (by decide) _ hx),idx_app 101 [ch (dgt d 0)] _ (dg_ne_of hc0 (by decide))]
   rfl
  rw [e2];refine ⟨[ch (dgt d 0)]++[48],dp-1-1,1,⟨[ch (dgt d 0)],[48],_,rfl,by simp,by simp,hc0,?_,rfl,.inr ⟨sg,ds',rfl,b2,b1,by omega,hX 1⟩⟩,?_,by omega,by simp;omega,.inl (by omega)⟩
  ·intro b hb;simp at hb;subst hb;decide
  ·have hd1:d.drop 1=[]:=List.drop_eq_nil_of_le (by omega)
   rw [dvB_append,hc1];rw [hd1] at hdv;have:dv d=dgt d 0:=by
    conv=>lhs;rw [hdv]
    simp [dv]
   rw [this];simp [dvB,dv]
 ·rw [if_neg hp] at hF;subst hF;have e2:dotted ((ch (dgt d 0)::46::(d.drop 1).map ch)++101::sg::ds')=[ch (dgt d 0)]++46::((d.drop 1).map ch++101::sg::ds'):=by
   have e3:(ch (dgt d 0)::46::(d.drop 1).map ch)++101::sg::ds'=[ch (dgt d 0)]++46::((d.drop 1).map ch++101::sg::ds'):=by simp
   rw [e3];unfold dotted;rw [idx_app 46 _ _ (dg_ne_of hc0 (by decide))]
  rw [e2];refine ⟨[ch (dgt d 0)]++(d.drop 1).map ch,dp-d.length,0,⟨[ch (dgt d 0)],(d.drop 1).map ch,_,rfl,by simp,?_,hc0,f2,rfl,.inr ⟨sg,ds',rfl,b2,b1,by omega,?_⟩⟩,?_,by omega,by simp;omega,.inl (by omega)⟩
  ·intro e;have:=congrArg List.length e;simp only [List.length_map,List.length_append,List.length_replicate,List.length_nil,List.length_take,List.length_drop] at this;omega
  ·have:=hX ((d.drop 1).map ch).length;have hl:((d.drop 1).map ch).length=d.length-1:=by simp
   rw [show (dp-(d.length:Int))=dp-1-(((d.drop 1).map ch).length:Nat) by rw [hl];omega]
   exact this
  ·rw [dvB_append,hc1,f1,List.length_map,←dv_cons,←hdv,Nat.pow_zero,Nat.mul_one]
end
section
open Go.RowKit
theorem St.step2 {X:Cx} {off:Nat} {bs:List UInt8} {w:World} (h:St X off bs w) (hl:off<X.xs.length) (n:Nat) (x:Int) (hx:x=(off:Int)+1):St X (off+1) bs ((w.drewN n).setCell ⟨X.d,1,none⟩ (.int .i64 x))∧Gr X.B [X.d,X.wb] w ((w.drewN n).setCell ⟨X.d,1,none⟩ (.int .i64 x)):=by
 subst hx;exact h.step hl n
section
variable {X:Cx} {off:Nat} {bs:List UInt8} {w:World}
theorem di_none_b (h:St X off bs w) (hl:off<X.xs.length) (hb:X.xs[off].toNat=95) (hl1:off+1<X.xs.length) (hb1:X.xs[off+1].toNat=255) (hlen:bs.length+(txt [39,39,95]).1.length≤room):
  Calls Tryz.prog 105 #[.pointer (some ⟨X.di,0,none⟩)] w (IPost X (off+2) bs (txt [39,39,95]) w):=by
 have k1:=h.i1;have k2:=h.i2;have d0:=h.dec.c0;have d1:=h.dec.c1;have df:=h.dec.f1;have ha:=h.dec.at_ off hl;have hm:=h.dec.len;have g95:((X.xs[off].toNat:Int)==95)=true:=by simp;omega
 have g127:((X.xs[off].toNat:Int)==127)=false:=by simp;omega
 have g159:((X.xs[off].toNat:Int)==159)=false:=by simp;omega
 have g191:((X.xs[off].toNat:Int)==191)=false:=by simp;omega
 generalize (X.xs[off].toNat:Int)=x0 at *
 clear hb;replace hlen:=Hz hlen;have b1:(off:Int)<(X.xs.length:Int):=by omega
 have b2:(0:Int)≤(off:Int):=by omega
 have b3:(off:Int).toNat=off:=by omega
 have wo:IntKind.i64.wrap ((off:Int)+1)=((off+1:Nat):Int):=by
  have:=wrap_pos (off+1) (by omega)
  simpa using this
 go_enter Tryz.func105,Tryz.ntmps105
 go_wp2
 go_quiet (fail)
 obtain ⟨h1,G1⟩:=h.step hl nq;have e0:=h1.dec.c0;have e1:=h1.dec.c1;have ef:=h1.dec.f1;have ea:=h1.dec.at_ (off+1) hl1;have j1:=h1.i1;have j2:=h1.i2;have b4:(off:Int)+1<(X.xs.length:Int):=by omega
 have b5:(0:Int)≤(off:Int)+1:=by omega
 have b6:((off:Int)+1).toNat=off+1:=by omega
 have gE:((X.xs[off+1].toNat:Int)==255)=true:=by simp;omega
 simp only [Int.natCast_add,Int.cast_ofNat_Int] at e1;have KQ:=Hz (isBreakFlag X.xs[off+1]);generalize (X.xs[off+1].toNat:Int)=x1 at *
 clear hb1;go_wp2
 go_quiet ((go_at_call 117;exact Calls.quiet_of_same (KQ.out _)))
 obtain ⟨h2,G2⟩:=h1.step2 hl1 nq ((off:Int)+1+1) (by omega)
 have j3:=h2.i2;have K2:=Hz (writeString h2.buf h2.lw h2.hB [39,39,95] hlen.out);go_wp2_with fail
 refine K2.out.mono ?_
 rintro e w3 ⟨⟨u2,rfl⟩,hb3,hg3⟩;have h3:=h2.wrote hg3 hb3;have G3:=(G1.trans G2).trans (St.grW hg3);go_wp2;go_ret
 exact ⟨_,_,rfl,rfl,fun _=>rfl,h3,G3⟩
theorem di_none_t (h:St X off bs w) (hl:off<X.xs.length) (hb:X.xs[off].toNat=127) (hl1:off+1<X.xs.length) (hb1:X.xs[off+1].toNat=255) (hlen:bs.length+(txt [34,34,95]).1.length≤room):
  Calls Tryz.prog 105 #[.pointer (some ⟨X.di,0,none⟩)] w (IPost X (off+2) bs (txt [34,34,95]) w):=by
 have k1:=h.i1;have k2:=h.i2;have d0:=h.dec.c0;have d1:=h.dec.c1;have df:=h.dec.f1;have ha:=h.dec.at_ off hl;have hm:=h.dec.len;have g95:((X.xs[off].toNat:Int)==95)=false:=by simp;omega
 have g127:((X.xs[off].toNat:Int)==127)=true:=by simp;omega
 have g159:((X.xs[off].toNat:Int)==159)=false:=by simp;omega
 have g191:((X.xs[off].toNat:Int)==191)=false:=by simp;omega
 generalize (X.xs[off].toNat:Int)=x0 at *
 clear hb;replace hlen:=Hz hlen;have b1:(off:Int)<(X.xs.length:Int):=by omega
 have b2:(0:Int)≤(off:Int):=by omega
 have b3:(off:Int).toNat=off:=by omega
 have wo:IntKind.i64.wrap ((off:Int)+1)=((off+1:Nat):Int):=by
  have:=wrap_pos (off+1) (by omega)
  simpa using this
 go_enter Tryz.func105,Tryz.ntmps105
 go_wp2
 go_quiet (fail)
 obtain ⟨h1,G1⟩:=h.step hl nq;have e0:=h1.dec.c0;have e1:=h1.dec.c1;have ef:=h1.dec.f1;have ea:=h1.dec.at_ (off+1) hl1;have j1:=h1.i1;have j2:=h1.i2;have b4:(off:Int)+1<(X.xs.length:Int):=by omega
 have b5:(0:Int)≤(off:Int)+1:=by omega
 have b6:((off:Int)+1).toNat=off+1:=by omega
 have gE:((X.xs[off+1].toNat:Int)==255)=true:=by simp;omega
 simp only [Int.natCast_add,Int.cast_ofNat_Int] at e1;have KQ:=Hz (isBreakFlag X.xs[off+1]);generalize (X.xs[off+1].toNat:Int)=x1 at *
 clear hb1;go_wp2
 go_quiet ((go_at_call 117;exact Calls.quiet_of_same (KQ.out _)))
 obtain ⟨h2,G2⟩:=h1.step2 hl1 nq ((off:Int)+1+1) (by omega)
 have j3:=h2.i2;have K2:=Hz (writeString h2.buf h2.lw h2.hB [34,34,95] hlen.out);go_wp2_with fail
 refine K2.out.mono ?_
 rintro e w3 ⟨⟨u2,rfl⟩,hb3,hg3⟩;have h3:=h2.wrote hg3 hb3;have G3:=(G1.trans G2).trans (St.grW hg3);go_wp2;go_ret
 exact ⟨_,_,rfl,rfl,fun _=>rfl,h3,G3⟩
theorem di_chunks_b (h:St X off bs w) {off2:Nat} {l:List R} (hl:off<X.xs.length) (hb:X.xs[off].toNat=95) (hl1:off+1<X.xs.length) (hb1:X.xs[off+1].toNat≠255) (hKids:KidsO X (off+1) off2 l) (hcap:l.length≤2147483647) {res:R} (hres:thenR (txt [40,95,32]) (arrR [41] 0 l)=res) (hlen:bs.length+res.1.length≤room):
  Calls Tryz.prog 105 #[.pointer (some ⟨X.di,0,none⟩)] w (IPost X off2 bs res w):=by
 have k1:=h.i1;have k2:=h.i2;have d0:=h.dec.c0;have d1:=h.dec.c1;have df:=h.dec.f1;have ha:=h.dec.at_ off hl;have hm:=h.dec.len;have g95:((X.xs[off].toNat:Int)==95)=true:=by simp;omega
 have g127:((X.xs[off].toNat:Int)==127)=false:=by simp;omega
 have g159:((X.xs[off].toNat:Int)==159)=false:=by simp;omega
 have g191:((X.xs[off].toNat:Int)==191)=false:=by simp;omega
 generalize (X.xs[off].toNat:Int)=x0 at *
 clear hb;have L0:Togo bs (thenR (txt [40,95,32]) (arrR [41] 0 l)) bs res:=by rw [hres];exact Togo.refl _ _
 replace hres:=Hz hres;replace L0:=Hz L0;replace hKids:=Hz hKids;have b1:(off:Int)<(X.xs.length:Int):=by omega
 have b2:(0:Int)≤(off:Int):=by omega
 have b3:(off:Int).toNat=off:=by omega
 have wo:IntKind.i64.wrap ((off:Int)+1)=((off+1:Nat):Int):=by
  have:=wrap_pos (off+1) (by omega)
  simpa using this
 go_enter Tryz.func105,Tryz.ntmps105
 go_wp2
 go_quiet (fail)
 obtain ⟨h1,G1⟩:=h.step hl nq;have e0:=h1.dec.c0;have e1:=h1.dec.c1;have ef:=h1.dec.f1;have ea:=h1.dec.at_ (off+1) hl1;have j1:=h1.i1;have j2:=h1.i2;have b4:(off:Int)+1<(X.xs.length:Int):=by omega
 have b5:(0:Int)≤(off:Int)+1:=by omega
 have b6:((off:Int)+1).toNat=off+1:=by omega
 have gE:((X.xs[off+1].toNat:Int)==255)=false:=by simp;omega
 simp only [Int.natCast_add,Int.cast_ofNat_Int] at e1;have KQ:=Hz (isBreakFlag X.xs[off+1]);generalize (X.xs[off+1].toNat:Int)=x1 at *
 clear hb1;go_wp2
 go_quiet ((go_at_call 117;exact Calls.quiet_of_same (KQ.out _)))
 have h1':=h1.drewN nq;have G1':=G1.drewN nq;clear G1;have h1:=h1';have G1:=G1';clear h1' G1';have j3:=h1.i2;have K2:=Hz (writeString h1.buf h1.lw h1.hB [40,95,32] (L0.out.len_tx hlen));go_wp2_with fail
 refine K2.out.mono ?_
 rintro e w2 ⟨⟨u2,rfl⟩,hb2,hg2⟩;have h2:=h1.wrote hg2 hb2;have G2:=G1.trans (St.grW hg2);have L2:=Hz L0.out.tx;clear ha k1 k2 d0 d1 df;go_wp2
 go_loopg [4] l.length (fun k v6 wr=> ∃(i:Nat) (l2:List R) (off:Nat) (bs':List UInt8),v6= .int .i64 (i:Int)∧Hid (i+k=l.length)∧Hid (l2.length=k)∧Hid (KidsO X off off2 l2)∧Hid (Togo bs' (arrR [41] i l2) bs res)∧St X off bs' wr∧Gr X.B [X.d,X.wb] w wr)
 case atStart=>exact ⟨0,l,off+1,_,by go_num,Nat.zero_add _,rfl,hKids,L2,h2,G2⟩
 case round=>
  obtain ⟨i,l2,off3,bs3,rfl,hi,hlk,hK,L3,h3,G3⟩:=hrel;have i1_3:=h3.i1;have i2_3:=h3.i2;by_cases hk:gk=0
  ·subst hk;obtain rfl:=List.eq_nil_of_length_eq_zero hlk.out;obtain ⟨hl3,hb3,rfl⟩: ∃hl:off3<X.xs.length,X.xs[off3].toNat=255∧off2=off3+1:=by cases hK.out with|nil a b=>exact ⟨a,b,rfl⟩
   have KB:=Hz (foundBreak_yes h3.dec hl3 (by simp [hb3]))
   go_wp2_with fail
   refine KB.out.mono ?_
   rintro e w4 ⟨rfl,hD4,hF4⟩;have h4:=h3.moved hF4 hD4;have G4:=G3.trans (h3.grF hF4);have i2_4:=h4.i2;have K5:=Hz (fun n=>writeByte (h4.drewN n).buf h4.lw (h4.drewN n).hB 41 (L3.out.lt1 hlen))
   go_wp2_with fail
   refine (K5.out 0).mono ?_
   rintro e w5 ⟨rfl,hb5,hg5⟩;have h5:=h4.wrote hg5 hb5;have G5:=G4.trans (St.grW hg5);go_wp2;go_ret
   exact IPost.done h5 G5 L3.out
  ·obtain ⟨g,rfl⟩: ∃g,gk=g+1:=⟨gk-1,by omega⟩
   clear hk;have hi64:i≤2147483647:=by have:=hi.out;omega
   obtain ⟨r5,l5,rfl⟩: ∃r l',l2=r::l':=by
    cases l2 with
    |nil=>have:=hlk.out;simp at this
    |cons r l'=>exact ⟨r,l',rfl⟩
   obtain ⟨hl3,hb3,mid,C5,hK5⟩: ∃hl:off3<X.xs.length,X.xs[off3].toNat≠255∧ ∃mid,ItemC X off3 mid r5∧KidsO X mid off2 l5:=by cases hK.out with|cons a b c d=>exact ⟨a,b,_,c,d⟩
   replace C5:=Hz C5;replace hK5:=Hz hK5;have hl5:Hid (l5.length=g):=Hz (by have:=hlk.out;simp at this;exact this)
   replace L3:=Hz (show Togo bs3 (thenR (txt (if i=0 then [] else [44,32])) (thenR r5 (arrR [41] (i+1) l5))) bs res from L3.out)
   have KB:=Hz (foundBreak_no h3.dec hl3 (by simp;omega))
   clear hb3;go_wp2_with fail
   refine KB.out.mono ?_
   rintro e w4 ⟨rfl,m4,rfl⟩;have h4:=h3.drewN m4;have G4:=G3.drewN m4;have i2_4:=h4.i2;by_cases h0:i=0
   ·have t3: ¬(0:Int)<(i:Int):=by omega
    have L4:=Hz L3.out.tx;rw [if_pos h0,List.append_nil] at L4;have K7:=Hz (C5.out _ _ h4 (L4.out.len1 hlen));go_wp2_with fail
    refine K7.out.mono ?_
    rintro e w7 ⟨v7,o7,rfl,hv7,ho7,h7,hG7⟩;have G7:=G4.trans hG7;rcases hr5:r5.2 with _|k
    ·rw [hr5] at hv7;obtain rfl:=hv7.nil;have L7:=Hz (L4.out.ok hr5);rw [ho7 hr5] at h7;have i1_7:=h7.i1;have i2_7:=h7.i2;go_wp2
     go_roundg g
     case measure=>omega
     case rel=>exact ⟨i+1,l5,mid,_,by go_num,(show i+1+g=l.length by have:=hi.out;omega),hl5,hK5,L7,h7,G7⟩
    ·rw [hr5] at hv7;obtain ⟨t,x,rfl⟩:=hv7.ne;go_wp2;go_ret
     exact IPost.err (w1:=w) hv7 h7 G7 (L4.out.err hr5)
   ·have t3:(0:Int)<(i:Int):=by omega
    have L4':=L3;rw [if_neg h0] at L4';replace L4':=Hz L4';have L4:=Hz L4'.out.tx;have K6:=Hz (fun n=>writeString (h4.drewN n).buf h4.lw (h4.drewN n).hB [44,32] (L4'.out.len_tx hlen))
    go_wp2_with fail
    refine (K6.out 0).mono ?_
    rintro e w6 ⟨⟨u6,rfl⟩,hb6,hg6⟩;have h6:=h4.wrote hg6 hb6;have G6:=G4.trans (St.grW hg6);have i1_6:=h6.i1;have i2_6:=h6.i2;have K7:=Hz (C5.out _ _ h6 (L4.out.len1 hlen));go_wp2_with fail
    refine K7.out.mono ?_
    rintro e w7 ⟨v7,o7,rfl,hv7,ho7,h7,hG7⟩;have G7:=G6.trans hG7;rcases hr5:r5.2 with _|k
    ·rw [hr5] at hv7;obtain rfl:=hv7.nil;have L7:=Hz (L4.out.ok hr5);rw [ho7 hr5] at h7;have i1_7:=h7.i1;have i2_7:=h7.i2;go_wp2
     go_roundg g
     case measure=>omega
     case rel=>exact ⟨i+1,l5,mid,_,by go_num,(show i+1+g=l.length by have:=hi.out;omega),hl5,hK5,L7,h7,G7⟩
    ·rw [hr5] at hv7;obtain ⟨t,x,rfl⟩:=hv7.ne;go_wp2;go_ret
     exact IPost.err (w1:=w) hv7 h7 G7 (L4.out.err hr5)
theorem di_chunks_t (h:St X off bs w) {off2:Nat} {l:List R} (hl:off<X.xs.length) (hb:X.xs[off].toNat=127) (hl1:off+1<X.xs.length) (hb1:X.xs[off+1].toNat≠255) (hKids:KidsO X (off+1) off2 l) (hcap:l.length≤2147483647) {res:R} (hres:thenR (txt [40,95,32]) (arrR [41] 0 l)=res) (hlen:bs.length+res.1.length≤room):
  Calls Tryz.prog 105 #[.pointer (some ⟨X.di,0,none⟩)] w (IPost X off2 bs res w):=by
 have k1:=h.i1;have k2:=h.i2;have d0:=h.dec.c0;have d1:=h.dec.c1;have df:=h.dec.f1;have ha:=h.dec.at_ off hl;have hm:=h.dec.len;have g95:((X.xs[off].toNat:Int)==95)=false:=by simp;omega
 have g127:((X.xs[off].toNat:Int)==127)=true:=by simp;omega
 have g159:((X.xs[off].toNat:Int)==159)=false:=by simp;omega
 have g191:((X.xs[off].toNat:Int)==191)=false:=by simp;omega
 generalize (X.xs[off].toNat:Int)=x0 at *
 clear hb;have L0:Togo bs (thenR (txt [40,95,32]) (arrR [41] 0 l)) bs res:=by rw [hres];exact Togo.refl _ _
 replace hres:=Hz hres;replace L0:=Hz L0;replace hKids:=Hz hKids;have b1:(off:Int)<(X.xs.length:Int):=by omega
 have b2:(0:Int)≤(off:Int):=by omega
 have b3:(off:Int).toNat=off:=by omega
 have wo:IntKind.i64.wrap ((off:Int)+1)=((off+1:Nat):Int):=by
  have:=wrap_pos (off+1) (by omega)
  simpa using this
 go_enter Tryz.func105,Tryz.ntmps105
 go_wp2
 go_quiet (fail)
 obtain ⟨h1,G1⟩:=h.step hl nq;have e0:=h1.dec.c0;have e1:=h1.dec.c1;have ef:=h1.dec.f1;have ea:=h1.dec.at_ (off+1) hl1;have j1:=h1.i1;have j2:=h1.i2;have b4:(off:Int)+1<(X.xs.length:Int):=by omega
 have b5:(0:Int)≤(off:Int)+1:=by omega
 have b6:((off:Int)+1).toNat=off+1:=by omega
 have gE:((X.xs[off+1].toNat:Int)==255)=false:=by simp;omega
 simp only [Int.natCast_add,Int.cast_ofNat_Int] at e1;have KQ:=Hz (isBreakFlag X.xs[off+1]);generalize (X.xs[off+1].toNat:Int)=x1 at *
 clear hb1;go_wp2
 go_quiet ((go_at_call 117;exact Calls.quiet_of_same (KQ.out _)))
 have h1':=h1.drewN nq;have G1':=G1.drewN nq;clear G1;have h1:=h1';have G1:=G1';clear h1' G1';have j3:=h1.i2;have K2:=Hz (writeString h1.buf h1.lw h1.hB [40,95,32] (L0.out.len_tx hlen));go_wp2_with fail
 refine K2.out.mono ?_
 rintro e w2 ⟨⟨u2,rfl⟩,hb2,hg2⟩;have h2:=h1.wrote hg2 hb2;have G2:=G1.trans (St.grW hg2);have L2:=Hz L0.out.tx;clear ha k1 k2 d0 d1 df;go_wp2
 go_loopg [4] l.length (fun k v6 wr=> ∃(i:Nat) (l2:List R) (off:Nat) (bs':List UInt8),v6= .int .i64 (i:Int)∧Hid (i+k=l.length)∧Hid (l2.length=k)∧Hid (KidsO X off off2 l2)∧Hid (Togo bs' (arrR [41] i l2) bs res)∧St X off bs' wr∧Gr X.B [X.d,X.wb] w wr)
 case atStart=>exact ⟨0,l,off+1,_,by go_num,Nat.zero_add _,rfl,hKids,L2,h2,G2⟩
 case round=>
  obtain ⟨i,l2,off3,bs3,rfl,hi,hlk,hK,L3,h3,G3⟩:=hrel;have i1_3:=h3.i1;have i2_3:=h3.i2;by_cases hk:gk=0
  ·subst hk;obtain rfl:=List.eq_nil_of_length_eq_zero hlk.out;obtain ⟨hl3,hb3,rfl⟩: ∃hl:off3<X.xs.length,X.xs[off3].toNat=255∧off2=off3+1:=by cases hK.out with|nil a b=>exact ⟨a,b,rfl⟩
   have KB:=Hz (foundBreak_yes h3.dec hl3 (by simp [hb3]))
   go_wp2_with fail
   refine KB.out.mono ?_
   rintro e w4 ⟨rfl,hD4,hF4⟩;have h4:=h3.moved hF4 hD4;have G4:=G3.trans (h3.grF hF4);have i2_4:=h4.i2;have K5:=Hz (fun n=>writeByte (h4.drewN n).buf h4.lw (h4.drewN n).hB 41 (L3.out.lt1 hlen))
   go_wp2_with fail
   refine (K5.out 0).mono ?_
   rintro e w5 ⟨rfl,hb5,hg5⟩;have h5:=h4.wrote hg5 hb5;have G5:=G4.trans (St.grW hg5);go_wp2;go_ret
   exact IPost.done h5 G5 L3.out
  ·obtain ⟨g,rfl⟩: ∃g,gk=g+1:=⟨gk-1,by omega⟩
   clear hk;have hi64:i≤2147483647:=by have:=hi.out;omega
   obtain ⟨r5,l5,rfl⟩: ∃r l',l2=r::l':=by
    cases l2 with
    |nil=>have:=hlk.out;simp at this
    |cons r l'=>exact ⟨r,l',rfl⟩
   obtain ⟨hl3,hb3,mid,C5,hK5⟩: ∃hl:off3<X.xs.length,X.xs[off3].toNat≠255∧ ∃mid,ItemC X off3 mid r5∧KidsO X mid off2 l5:=by cases hK.out with|cons a b c d=>exact ⟨a,b,_,c,d⟩
   replace C5:=Hz C5;replace hK5:=Hz hK5;have hl5:Hid (l5.length=g):=Hz (by have:=hlk.out;simp at this;exact this)
   replace L3:=Hz (show Togo bs3 (thenR (txt (if i=0 then [] else [44,32])) (thenR r5 (arrR [41] (i+1) l5))) bs res from L3.out)
   have KB:=Hz (foundBreak_no h3.dec hl3 (by simp;omega))
   clear hb3;go_wp2_with fail
   refine KB.out.mono ?_
   rintro e w4 ⟨rfl,m4,rfl⟩;have h4:=h3.drewN m4;have G4:=G3.drewN m4;have i2_4:=h4.i2;by_cases h0:i=0
   ·have t3: ¬(0:Int)<(i:Int):=by omega
    have L4:=Hz L3.out.tx;rw [if_pos h0,List.append_nil] at L4;have K7:=Hz (C5.out _ _ h4 (L4.out.len1 hlen));go_wp2_with fail
    refine K7.out.mono ?_
    rintro e w7 ⟨v7,o7,rfl,hv7,ho7,h7,hG7⟩;have G7:=G4.trans hG7;rcases hr5:r5.2 with _|k
    ·rw [hr5] at hv7;obtain rfl:=hv7.nil;have L7:=Hz (L4.out.ok hr5);rw [ho7 hr5] at h7;have i1_7:=h7.i1;have i2_7:=h7.i2;go_wp2
     go_roundg g
     case measure=>omega
     case rel=>exact ⟨i+1,l5,mid,_,by go_num,(show i+1+g=l.length by have:=hi.out;omega),hl5,hK5,L7,h7,G7⟩
    ·rw [hr5] at hv7;obtain ⟨t,x,rfl⟩:=hv7.ne;go_wp2;go_ret
     exact IPost.err (w1:=w) hv7 h7 G7 (L4.out.err hr5)
   ·have t3:(0:Int)<(i:Int):=by omega
    have L4':=L3;rw [if_neg h0] at L4';replace L4':=Hz L4';have L4:=Hz L4'.out.tx;have K6:=Hz (fun n=>writeString (h4.drewN n).buf h4.lw (h4.drewN n).hB [44,32] (L4'.out.len_tx hlen))
    go_wp2_with fail
    refine (K6.out 0).mono ?_
    rintro e w6 ⟨⟨u6,rfl⟩,hb6,hg6⟩;have h6:=h4.wrote hg6 hb6;have G6:=G4.trans (St.grW hg6);have i1_6:=h6.i1;have i2_6:=h6.i2;have K7:=Hz (C5.out _ _ h6 (L4.out.len1 hlen));go_wp2_with fail
    refine K7.out.mono ?_
    rintro e w7 ⟨v7,o7,rfl,hv7,ho7,h7,hG7⟩;have G7:=G6.trans hG7;rcases hr5:r5.2 with _|k
    ·rw [hr5] at hv7;obtain rfl:=hv7.nil;have L7:=Hz (L4.out.ok hr5);rw [ho7 hr5] at h7;have i1_7:=h7.i1;have i2_7:=h7.i2;go_wp2
     go_roundg g
     case measure=>omega
     case rel=>exact ⟨i+1,l5,mid,_,by go_num,(show i+1+g=l.length by have:=hi.out;omega),hl5,hK5,L7,h7,G7⟩
    ·rw [hr5] at hv7;obtain ⟨t,x,rfl⟩:=hv7.ne;go_wp2;go_ret
     exact IPost.err (w1:=w) hv7 h7 G7 (L4.out.err hr5)
end
end
end Go.Proofs.YteodinhkhhaafaaGreatDoor
