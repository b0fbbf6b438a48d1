/- Walks of the program, and plain facts. -/
import Derived.Test.YteodinhkhhaafaaGreatDoorEab
set_option linter.unusedVariables false
set_option linter.unusedSimpArgs false
set_option maxRecDepth 100000
set_option maxHeartbeats 6400000
namespace Go.Proofs.YteodinhkhhaafaaGreatDoor
section
set_option exponentiation.threshold 3000
def dv (l:List Nat):Nat:=l.foldl (fun a d=>a*10+d) 0
theorem dv_from: ∀(l:List Nat) (a:Nat),l.foldl (fun a d=>a*10+d) a=a*10^l.length+dv l
 |[],a=>by simp [dv]
 |d::l,a=>by
  have h1:=dv_from l (a*10+d);have h2:=dv_from l (0*10+d);rw [List.foldl_cons,h1];unfold dv;rw [List.foldl_cons,h2,List.length_cons,Nat.pow_succ];unfold dv;rw [Nat.add_mul,Nat.add_mul,Nat.mul_assoc,Nat.mul_comm 10];omega
theorem dv_nil:dv []=0:=rfl
theorem dv_append (l m:List Nat):dv (l++m)=dv l*10^m.length+dv m:=by
 unfold dv;rw [List.foldl_append,dv_from]
 rfl
theorem dv_snoc (l:List Nat) (d:Nat):dv (l++[d])=dv l*10+d:=by simp [dv]
theorem dv_cons (d:Nat) (l:List Nat):dv (d::l)=d*10^l.length+dv l:=by
 have:=dv_append [d] l
 simpa [dv] using this
theorem dv_lt: ∀(l:List Nat),(∀d,d∈l→d<10)→dv l<10^l.length
 |[],_=>by simp [dv]
 |d::l,h=>by
  have ih:=dv_lt l (fun x hx=>h x (by simp [hx]))
  have hd:=h d (by simp)
  have:=Nat.mul_le_mul_right (10^l.length) (show d≤9 by omega)
  rw [dv_cons,List.length_cons,Nat.pow_succ];omega
theorem dv_zeros (l:List Nat) (n:Nat):dv (l++List.replicate n 0)=dv l*10^n:=by
 have h: ∀n,dv (List.replicate n 0)=0:=fun n=>by
  induction n with
  |zero=>rfl
  |succ n ih=>rw [List.replicate_succ,dv_cons,ih];simp
 rw [dv_append,h,List.length_replicate];omega
structure NormD (d:List Nat) (dp:Int):Prop where
 lt: ∀x,x∈d→x<10
 nil:d=[]→dp=0
 hd: ∀x l,d=x::l→x≠0
 last: ∀x l,d=l++[x]→x≠0
def dV (d:List Nat) (dp:Int):Nat:=dv d*10^(dp-d.length+1100).toNat
theorem dv_pos {d:List Nat} {dp:Int} (h:NormD d dp) (hn:d≠[]):10^(d.length-1)≤dv d:=by
 cases d with
 |nil=>exact absurd rfl hn
 |cons x l=>
  have hx:=h.hd x l rfl;rw [dv_cons,List.length_cons,Nat.add_sub_cancel];have:=Nat.mul_le_mul_right (10^l.length) (show 1≤x by omega)
  omega
theorem dV_zero {d:List Nat} {dp:Int} (h:NormD d dp):dV d dp=0↔d=[]:=by
 constructor
 ·intro h0;by_cases hn:d=[]
  ·exact hn
  ·have h1:=dv_pos h hn;have h2:0<10^(d.length-1):=Nat.pow_pos (by omega)
   have h3:0<10^(dp-d.length+1100).toNat:=Nat.pow_pos (by omega)
   unfold dV at h0;rcases Nat.mul_eq_zero.1 h0 with h|h<;>omega
 ·rintro rfl;simp [dV,dv]
theorem dv_inj: ∀(n:Nat) (a b:List Nat),a.length=n→(∀x,x∈a→x<10)→(∀x,x∈b→x<10)→(∀x l,a=x::l→x≠0)→(∀x l,b=x::l→x≠0)→dv a=dv b→a=b:=by
 intro n
 induction n with
 |zero=>
  intro a b hl ha hb ha0 hb0 h;have:a=[]:=List.eq_nil_of_length_eq_zero hl;subst this;cases b with
  |nil=>rfl
  |cons x l=>
   have hx:=hb0 x l rfl;rw [dv_nil,dv_cons] at h;have h2:0<10^l.length:=Nat.pow_pos (by omega)
   have:=Nat.mul_pos (show 0<x by omega) h2
   omega
 |succ n ih=>
  intro a b hl ha hb ha0 hb0 h;rcases List.eq_nil_or_concat a with rfl|⟨a',x,rfl⟩
  ·simp at hl
  ·rw [List.concat_eq_append] at *
   rcases List.eq_nil_or_concat b with rfl|⟨b',y,rfl⟩
   ·cases ha':a'++[x] with
    |nil=>simp at ha'
    |cons z l=>
     have hz:=ha0 z l ha';rw [ha',dv_nil,dv_cons] at h;have h2:0<10^l.length:=Nat.pow_pos (by omega)
     have:=Nat.mul_pos (show 0<z by omega) h2
     omega
   ·rw [List.concat_eq_append] at *
    rw [dv_snoc,dv_snoc] at h;have hx:=ha x (by simp)
    have hy:=hb y (by simp)
    obtain rfl:x=y:=by omega
    have:=ih a' b' (by simpa using hl) (fun z hz=>ha z (by simp [hz])) (fun z hz=>hb z (by simp [hz])) (fun z l e=>ha0 z (l++[x]) (by rw [e];rfl)) (fun z l e=>hb0 z (l++[x]) (by rw [e];rfl)) (by omega)
    rw [this]
theorem norm_inj {a b:List Nat} {p q:Int} (ha:NormD a p) (hb:NormD b q) (la: -1100≤p-a.length) (lb: -1100≤q-b.length) (h:dV a p=dV b q):a=b∧p=q:=by
 by_cases ha0:a=[]
 ·have hb0:b=[]:=(dV_zero hb).1 (by rw [←h];exact (dV_zero ha).2 ha0)
  exact ⟨ha0.trans hb0.symm,(ha.nil ha0).trans (hb.nil hb0).symm⟩
 ·have hb0:b≠[]:=fun e=>ha0 ((dV_zero ha).1 (by rw [h];exact (dV_zero hb).2 e))
  have key: ∀{a b:List Nat} {p q:Int},NormD a p→NormD b q→ -1100≤p-a.length→ -1100≤q-b.length→dV a p=dV b q→b≠[]→ ¬q-b.length<p-a.length:=by
   intro a b p q ha hb la lb h hb0 hlt;obtain ⟨k,hk⟩: ∃k:Nat,(p-a.length+1100).toNat=(q-b.length+1100).toNat+(k+1):=⟨((p-a.length)-(q-b.length)-1).toNat,by omega⟩
   unfold dV at h;rw [hk,Nat.pow_add,Nat.mul_comm (10^_) (10^(k+1)),←Nat.mul_assoc] at h;have h1:=Nat.eq_of_mul_eq_mul_right (Nat.pow_pos (by omega)) h
   rcases List.eq_nil_or_concat b with rfl|⟨b',y,rfl⟩
   ·exact hb0 rfl
   ·rw [List.concat_eq_append] at *
    have hy:=hb.last y b' rfl;have hy2:=hb.lt y (by simp)
    rw [dv_snoc,Nat.pow_succ,←Nat.mul_assoc] at h1;omega
  have h1:=key ha hb la lb h hb0;have h2:=key hb ha lb la h.symm ha0;have he:p-a.length=q-b.length:=by omega
  have h':=h;unfold dV at h';rw [he] at h';have h3:=Nat.eq_of_mul_eq_mul_right (Nat.pow_pos (by omega)) h'
  have:=dv_inj a.length a b rfl ha.lt hb.lt ha.hd hb.hd h3;subst this;exact ⟨rfl,by omega⟩
theorem pow_split {p:Int} {n:Nat} (h: -1100≤p-n):10^(p+1100).toNat=10^n*10^(p-n+1100).toNat:=by
 rw [←Nat.pow_add]
 congr 1
 omega
theorem dV_lt_pow {a:List Nat} {p:Int} (h: ∀x,x∈a→x<10) (la: -1100≤p-a.length):dV a p<10^(p+1100).toNat:=by
 rw [pow_split la];exact Nat.mul_lt_mul_of_pos_right (dv_lt a h) (Nat.pow_pos (by omega))
theorem dV_ge_pow {a:List Nat} {p:Int} (h:NormD a p) (hn:a≠[]) (la: -1100≤p-a.length):10^(p-1+1100).toNat≤dV a p:=by
 have h1:=dv_pos h hn;have hl:0<a.length:=by cases a with|nil=>exact absurd rfl hn|cons x l=>simp
 have h2:10^(p-1+1100).toNat=10^(a.length-1)*10^(p-a.length+1100).toNat:=by
  rw [←Nat.pow_add]
  congr 1
  omega
 rw [h2];exact Nat.mul_le_mul_right _ h1
theorem lt_dp {a b:List Nat} {p q:Int} (ha:NormD a p) (hb:NormD b q) (hb0:b≠[]) (la: -1100≤p-a.length) (lb: -1100≤q-b.length) (h:p<q):dV a p<dV b q:=by
 refine Nat.lt_of_lt_of_le (dV_lt_pow ha.lt la) (Nat.le_trans ?_ (dV_ge_pow hb hb0 lb))
 exact Nat.pow_le_pow_right (by omega) (by omega)
def dgt (a:List Nat) (i:Nat):Nat:=a.getD i 0
def padD (n:Nat) (a:List Nat):List Nat:=a++List.replicate (n-a.length) 0
theorem padD_length {n:Nat} {a:List Nat} (h:a.length≤n):(padD n a).length=n:=by simp [padD];omega
theorem padD_get? {n:Nat} {a:List Nat} (i:Nat) (hi:i<n):(padD n a)[i]? =some (dgt a i):=by
 unfold padD dgt;by_cases h1:i<a.length
 ·rw [List.getElem?_append_left h1,List.getD_eq_getElem?_getD,List.getElem?_eq_getElem h1];rfl
 ·rw [List.getElem?_append_right (by omega),List.getElem?_replicate,if_pos (by omega),List.getD_eq_getElem?_getD,List.getElem?_eq_none (by omega)];rfl
theorem padD_get {n:Nat} {a:List Nat} (h:a.length≤n) (i:Nat) (hi:i<(padD n a).length):(padD n a)[i]=dgt a i:=by
 have h1:=padD_get? (n:=n) (a:=a) i (by rw [padD_length h] at hi;exact hi)
 rw [List.getElem?_eq_getElem hi] at h1;exact Option.some.inj h1
theorem dV_pad {n:Nat} {a:List Nat} {p:Int} (h:a.length≤n) (hp: -1100≤p-n):dV a p=dv (padD n a)*10^(p-n+1100).toNat:=by
 unfold dV padD;rw [dv_zeros,Nat.mul_assoc,←Nat.pow_add]
 congr 2
 omega
theorem dv_lex {x y:List Nat} (hl:x.length=y.length) (hx: ∀d,d∈x→d<10) (i:Nat) (hi:i<x.length) (hp: ∀j,(h:j<i)→x[j]'(by omega)=y[j]'(by omega)) (hd:x[i]<y[i]'(by omega)):dv x<dv y:=by
 have e1:x=x.take i++(x[i]::x.drop (i+1)):=by rw [←List.drop_eq_getElem_cons hi,List.take_append_drop]
 have e2:y=y.take i++(y[i]'(by omega)::y.drop (i+1)):=by rw [←List.drop_eq_getElem_cons,List.take_append_drop]
 have e3:x.take i=y.take i:=by
  apply List.ext_getElem
  ·simp;omega
  ·intro j h1 h2;simp only [List.getElem_take];exact hp j (by simp at h1;omega)
 have h1:dv (x.drop (i+1))<10^(x.drop (i+1)).length:=dv_lt _ (fun d h=>hx d (List.mem_of_mem_drop h))
 have e4:(y.drop (i+1)).length=(x.drop (i+1)).length:=by simp;omega
 rw [e1,e2,←e3,dv_append,dv_append,List.length_cons,List.length_cons,dv_cons,dv_cons,e4];generalize 10^(x.drop (i+1)).length=T at *
 have:=Nat.mul_le_mul_right T (show x[i]+1≤y[i]'(by omega) by omega)
 rw [Nat.add_mul,Nat.one_mul] at this;omega
theorem lt_digit {a b:List Nat} {p:Int} (ha: ∀x,x∈a→x<10) (la: -1100≤p-a.length) (lb: -1100≤p-b.length) (i:Nat) (hi:i<b.length) (hp: ∀j,j<i→dgt a j=dgt b j) (hd:dgt a i<dgt b i):dV a p<dV b p:=by
 have hn: ∃n,n=max a.length b.length:=⟨_,rfl⟩;obtain ⟨n,hn⟩:=hn;have h1:a.length≤n:=by omega
 have h2:b.length≤n:=by omega
 have hpn: -1100≤p-n:=by omega
 rw [dV_pad h1 hpn,dV_pad h2 hpn];have l1:=padD_length h1;have l2:=padD_length h2;refine Nat.mul_lt_mul_of_pos_right ?_ (Nat.pow_pos (by omega))
 refine dv_lex (by omega) ?_ i (by omega) ?_ ?_
 ·intro d h;unfold padD at h;rcases List.mem_append.1 h with h|h
  ·exact ha d h
  ·have:=List.eq_of_mem_replicate h;omega
 ·intro j h;rw [padD_get h1,padD_get h2];exact hp j h
 ·rw [padD_get h1,padD_get h2];exact hd
theorem eq_digits {a b:List Nat} {p:Int} (la: -1100≤p-a.length) (lb: -1100≤p-b.length) (h: ∀j,j<a.length∨j<b.length→dgt a j=dgt b j):dV a p=dV b p:=by
 obtain ⟨n,hn⟩: ∃n,n=max a.length b.length:=⟨_,rfl⟩;have h1:a.length≤n:=by omega
 have h2:b.length≤n:=by omega
 have hpn: -1100≤p-n:=by omega
 rw [dV_pad h1 hpn,dV_pad h2 hpn]
 congr 2
 apply List.ext_getElem
 ·rw [padD_length h1,padD_length h2]
 ·intro j h3 h4;rw [padD_get h1,padD_get h2];by_cases hj:j<a.length∨j<b.length
  ·exact h j hj
  ·unfold dgt;rw [List.getD_eq_getElem?_getD,List.getD_eq_getElem?_getD,List.getElem?_eq_none (by omega),List.getElem?_eq_none (by omega)]
def trimN (l:List Nat):Nat→List Nat
 |0=>[]
 |k+1=>if dgt l k=0 then trimN l k else l.take (k+1)
def trimD (l:List Nat):List Nat:=trimN l l.length
def normD (d:List Nat) (dp:Int):List Nat×Int:=(trimD d,if trimD d=[] then 0 else dp)
theorem trimN_spec (l:List Nat): ∀k,k≤l.length→ ∃j,j≤k∧trimN l k=l.take j∧(∀i,j≤i→i<k→dgt l i=0)∧(0<j→dgt l (j-1)≠0)
 |0,_=>⟨0,Nat.le_refl _,by simp [trimN],fun i h1 h2=>by omega,fun h=>by omega⟩
 |k+1,h=>by
  rw [trimN];by_cases h0:dgt l k=0
  ·rw [if_pos h0];obtain ⟨j,h1,h2,h3,h4⟩:=trimN_spec l k (by omega)
   refine ⟨j,by omega,h2,fun i a b=> ?_,h4⟩
   by_cases e:i=k
   ·rw [e];exact h0
   ·exact h3 i a (by omega)
  ·rw [if_neg h0];exact ⟨k+1,Nat.le_refl _,rfl,fun i a b=>by omega,fun _=>h0⟩
theorem dgt_lt {l:List Nat} {i:Nat} (h:i<l.length):dgt l i=l[i]:=by
 unfold dgt;rw [List.getD_eq_getElem?_getD,List.getElem?_eq_getElem h];rfl
theorem trim_norm {d:List Nat} {dp:Int} (hlt: ∀x,x∈d→x<10) (hh: ∀x l,d=x::l→x≠0) (lo: -1100≤dp-d.length):
  NormD (normD d dp).1 (normD d dp).2∧dV (normD d dp).1 (normD d dp).2=dV d dp∧(normD d dp).1.length≤d.length∧(d≠[]→(normD d dp).2=dp):=by
 obtain ⟨j,h1,h2,h3,h4⟩:=trimN_spec d d.length (Nat.le_refl _);have hl:(d.take j).length=j:=by simp;omega
 have he:trimD d=d.take j:=h2;unfold normD;rw [he];dsimp only;have hne:d≠[]→j≠0:=by
  intro hd e;subst e;cases d with
  |nil=>exact hd rfl
  |cons x l=>
   have:=h3 0 (Nat.le_refl _) (by simp)
   exact hh x l rfl this
 refine ⟨⟨fun x hx=>hlt x (List.mem_of_mem_take hx),fun e=>if_pos e,?_,?_⟩,?_,by rw [hl];exact h1,?_⟩
 ·intro x l e;cases d with
  |nil=>simp at e
  |cons y m=>
   cases j with
   |zero=>simp at e
   |succ j=>simp at e;exact e.1▸hh y m rfl
 ·intro x l e;have hj:j=l.length+1:=by rw [←hl,e];simp
  have:=h4 (by omega)
  have hx:dgt d (j-1)=x:=by
   rw [dgt_lt (by omega)]
   have h5:(d.take j)[j-1]'(by rw [hl];omega)=d[j-1]'(by omega):=List.getElem_take
   rw [←h5];simp only [e];rw [List.getElem_append_right (by omega)]
   simp [hj]
  rw [←hx];exact this
 ·by_cases hd:d=[]
  ·subst hd;simp [dV,dv]
  ·have hj:=hne hd;have ht:d.take j≠[]:=by intro e;rw [e] at hl;simp at hl;omega
   rw [if_neg ht];refine eq_digits (by rw [hl];omega) lo ?_
   intro i hi;by_cases hij:i<j
   ·rw [dgt_lt (by rw [hl];exact hij),dgt_lt (by omega),List.getElem_take]
   ·rw [h3 i (by omega) (by omega)]
    unfold dgt;rw [List.getD_eq_getElem?_getD,List.getElem?_eq_none (by omega)];rfl
 ·intro hd;have hj:=hne hd;exact if_neg (fun e=>by rw [e] at hl;simp at hl;omega)
def downF (d:List Nat) (dp:Int) (n:Nat):List Nat×Int:=if d.length≤n then (d,dp) else normD (d.take n) dp
def lastUp (d:List Nat):Nat→Option Nat
 |0=>none
 |k+1=>if dgt d k<9 then some k else lastUp d k
def upF (d:List Nat) (dp:Int) (n:Nat):List Nat×Int:=
 if d.length≤n then (d,dp) else match lastUp d n with
 |some i=>(d.take i++[dgt d i+1],dp)
 |none=>([1],dp+1)
theorem lastUp_spec (d:List Nat): ∀n,(∃i,i<n∧lastUp d n=some i∧dgt d i<9)∨lastUp d n=none
 |0=> .inr rfl
 |k+1=>by
  rw [lastUp];by_cases h:dgt d k<9
  ·rw [if_pos h];exact .inl ⟨k,by omega,rfl,h⟩
  ·rw [if_neg h];rcases lastUp_spec d k with ⟨i,h1,h2,h3⟩|h1
   ·exact .inl ⟨i,by omega,h2,h3⟩
   ·exact .inr h1
theorem down_spec {d:List Nat} {dp:Int} (h:NormD d dp) (la: -1100≤dp-d.length) (n:Nat):NormD (downF d dp n).1 (downF d dp n).2∧dV (downF d dp n).1 (downF d dp n).2≤dV d dp∧(downF d dp n).1.length≤d.length∧((downF d dp n).1≠[]→(downF d dp n).2=dp):=by
 unfold downF;by_cases hn:d.length≤n
 ·rw [if_pos hn];exact ⟨h,Nat.le_refl _,Nat.le_refl _,fun _=>rfl⟩
 ·rw [if_neg hn];have hl:(d.take n).length=n:=by simp;omega
  obtain ⟨h1,h2,h3,h4⟩:=trim_norm (d:=d.take n) (dp:=dp) (fun x hx=>h.lt x (List.mem_of_mem_take hx)) (fun x l e=>by
   cases d with
   |nil=>simp at e
   |cons y m=>
    cases n with
    |zero=>simp at e
    |succ n=>simp at e;exact e.1▸h.hd y m rfl) (by rw [hl];omega)
  refine ⟨h1,?_,by omega,fun hne=>h4 (fun e=>hne ?_)⟩
  ·rw [h2];have e:d=d.take n++d.drop n:=(List.take_append_drop n d).symm;have e2:dv d=dv (d.take n)*10^(d.length-n)+dv (d.drop n):=by
    conv=>lhs;rw [e]
    rw [dv_append,List.length_drop]
   unfold dV;rw [hl,e2];have e3:10^(dp-n+1100).toNat=10^(d.length-n)*10^(dp-d.length+1100).toNat:=by
    rw [←Nat.pow_add];congr 1;omega
   rw [e3,←Nat.mul_assoc];exact Nat.mul_le_mul_right _ (by omega)
  ·rw [e] at h3 ⊢;simp [normD,trimD,trimN]
theorem up_spec {d:List Nat} {dp:Int} (h:NormD d dp) (la: -1100≤dp-d.length) (n:Nat) (hn:n<d.length):NormD (upF d dp n).1 (upF d dp n).2∧dV d dp<dV (upF d dp n).1 (upF d dp n).2∧(upF d dp n).1.length≤d.length∧ -1100≤(upF d dp n).2-(upF d dp n).1.length:=by
 unfold upF;rw [if_neg (by omega)]
 rcases lastUp_spec d n with ⟨i,h1,h2,h3⟩|h1
 ·rw [h2];dsimp only;have hl:(d.take i).length=i:=by simp;omega
  refine ⟨⟨?_,fun e=>by simp at e,?_,?_⟩,?_,by simp;omega,by simp;omega⟩
  ·intro x hx;rcases List.mem_append.1 hx with hx|hx
   ·exact h.lt x (List.mem_of_mem_take hx)
   ·simp at hx;omega
  ·intro x l e;cases d with
   |nil=>simp at hn
   |cons y m=>
    cases i with
    |zero=>simp at e;omega
    |succ i=>simp at e;exact e.1▸h.hd y m rfl
  ·intro x l e;have:=(List.append_inj' e (by simp)).2
   simp at this;omega
  ·have e:d=d.take i++(d[i]::d.drop (i+1)):=by rw [←List.drop_eq_getElem_cons (by omega),List.take_append_drop]
   have hr:dv (d.drop (i+1))<10^(d.length-(i+1)):=by
    have:=dv_lt (d.drop (i+1)) (fun x hx=>h.lt x (List.mem_of_mem_drop hx))
    rwa [List.length_drop] at this
   have e2:dv d=(dv (d.take i)*10+d[i])*10^(d.length-(i+1))+dv (d.drop (i+1)):=by
    conv=>lhs;rw [e]
    rw [dv_append,List.length_cons,dv_cons,List.length_drop,Nat.pow_succ,Nat.add_mul,Nat.mul_comm (10^_) 10,Nat.mul_assoc];omega
   unfold dV;rw [List.length_append,hl,dv_snoc,e2,dgt_lt (by omega)]
   have e3:10^(dp-((i+[d[i]+1].length:Nat):Int)+1100).toNat=10^(d.length-(i+1))*10^(dp-d.length+1100).toNat:=by
    rw [←Nat.pow_add];congr 1;simp;omega
   rw [e3,←Nat.mul_assoc];refine Nat.mul_lt_mul_of_pos_right ?_ (Nat.pow_pos (by omega))
   rw [show dv (d.take i)*10+(d[i]+1)=(dv (d.take i)*10+d[i])+1 by omega,Nat.add_mul _ 1,Nat.one_mul]
   omega
 ·rw [h1];dsimp only;refine ⟨⟨by simp,by simp,by simp,?_⟩,?_,by simp;omega,by simp;omega⟩
  ·intro x l e;cases l with
   |nil=>simp at e;omega
   |cons y m=>simp at e
  ·have h2:=dV_lt_pow h.lt la;have h3:dV [1] (dp+1)=10^(dp+1100).toNat:=by
    unfold dV;simp only [dv,List.foldl_cons,List.foldl_nil,List.length_cons,List.length_nil];rw [show dp+1-((0+1:Nat):Int)+1100=dp+1100 by omega]
    omega
   rw [h3];exact h2
def pre (d:List Nat) (i:Nat):Nat:=dv (d.take i)*10^(i-d.length)
theorem pre_zero (d:List Nat):pre d 0=0:=by simp [pre,dv]
theorem pre_succ (d:List Nat) (i:Nat):pre d (i+1)=pre d i*10+dgt d i:=by
 unfold pre;by_cases h:i<d.length
 ·rw [show i+1-d.length=0 by omega,show i-d.length=0 by omega,dgt_lt h,List.take_succ_eq_append_getElem h,dv_snoc]
  simp
 ·rw [show i+1-d.length=(i-d.length)+1 by omega,Nat.pow_succ,List.take_of_length_le (by omega),List.take_of_length_le (by omega)]
  have:dgt d i=0:=by
   unfold dgt;rw [List.getD_eq_getElem?_getD,List.getElem?_eq_none (by omega)];rfl
  rw [this,←Nat.mul_assoc];omega
theorem pre_end {d:List Nat} {i:Nat} (h:d.length≤i):pre d i=dv d*10^(i-d.length):=by
 unfold pre;rw [List.take_of_length_le h]
theorem dgt_le {d:List Nat} (h: ∀x,x∈d→x<10) (i:Nat):dgt d i<10:=by
 by_cases hi:i<d.length
 ·rw [dgt_lt hi];exact h _ (List.getElem_mem hi)
 ·unfold dgt;rw [List.getD_eq_getElem?_getD,List.getElem?_eq_none (by omega)]
  decide
theorem half_end {d out:List Nat} {dp:Int} {i i0 k:Nat} (hi:d.length≤i) (hp:pre d i=10*2^k*dv out) (hl:out.length+i0=i) (h0:1≤i0) (la: -1100≤dp-d.length) (lb: -1100≤dp-i):
  dV d dp=dV out (dp-((i0:Int)-1))*2^k:=by
 rw [pre_end hi] at hp;unfold dV;have e1:10^(dp-d.length+1100).toNat=10^(i-d.length)*10^(dp-i+1100).toNat:=by
  rw [←Nat.pow_add];congr 1;omega
 have e2:(dp-((i0:Int)-1)-out.length+1100).toNat=(dp-i+1100).toNat+1:=by omega
 rw [e1,e2,Nat.pow_succ,←Nat.mul_assoc,hp];generalize 10^(dp-i+1100).toNat=T;generalize dv out=Q;generalize 2^k=P;rw [Nat.mul_comm T 10,←Nat.mul_assoc,Nat.mul_right_comm (Q*10) T P,Nat.mul_comm Q 10,Nat.mul_right_comm 10 Q P]
theorem double_end {d out:List Nat} {dp:Int} {k:Nat} (hp:dv out=dv d*2^k):dV out (dp+(out.length-d.length))=dV d dp*2^k:=by
 unfold dV;rw [hp,show dp+((out.length:Int)-d.length)-out.length+1100=dp-d.length+1100 by omega,Nat.mul_right_comm]
theorem dv_reverse_snoc (out:List Nat) (x:Nat):dv (out++[x]).reverse=x*10^out.length+dv out.reverse:=by
 rw [List.reverse_append,List.reverse_singleton,List.singleton_append,dv_cons,List.length_reverse]
theorem double_step {d out:List Nat} {n k j:Nat} (hj:j<d.length) (h:dv out.reverse+n*10^out.length=dv (d.drop (j+1))*2^k) (hl:out.length=d.length-(j+1)):
  dv (out++[(n+d[j]*2^k)%10]).reverse+(n+d[j]*2^k)/10*10^(out++[(n+d[j]*2^k)%10]).length=dv (d.drop j)*2^k:=by
 rw [dv_reverse_snoc,List.length_append,List.length_singleton,Nat.pow_succ,List.drop_eq_getElem_cons hj,dv_cons,List.length_drop,←hl,Nat.add_mul,←h];generalize 10^out.length=T;have:=Nat.div_add_mod (n+d[j]*2^k) 10;generalize (n+d[j]*2^k)%10=r at *
 generalize (n+d[j]*2^k)/10=q at *
 have e:(n+d[j]*2^k)*T=(10*q+r)*T:=by rw [this]
 rw [Nat.add_mul,Nat.add_mul] at e;have e2:q*(T*10)=10*q*T:=by rw [Nat.mul_comm T 10,←Nat.mul_assoc,Nat.mul_comm q 10]
 have e3:d[j]*T*2^k=d[j]*2^k*T:=Nat.mul_right_comm _ _ _;omega
theorem double_more {out:List Nat} {n X:Nat} (h:dv out.reverse+n*10^out.length=X):dv (out++[n%10]).reverse+n/10*10^(out++[n%10]).length=X:=by
 rw [dv_reverse_snoc,List.length_append,List.length_singleton,Nat.pow_succ,←h];generalize 10^out.length=T;have:=Nat.div_add_mod n 10;have e:n*T=(10*(n/10)+n%10)*T:=by rw [this]
 rw [Nat.add_mul] at e;have e2:n/10*(T*10)=10*(n/10)*T:=by rw [Nat.mul_comm T 10,←Nat.mul_assoc,Nat.mul_comm (n/10) 10]
 omega
end
def nearUp (d:List Nat) (n:Nat):Bool:=
 if d.length≤n then false else if dgt d n=5∧n+1=d.length then decide (0<n∧dgt d (n-1)%2≠0) else decide (5≤dgt d n)
def roundF (d:List Nat) (dp:Int) (n:Nat):List Nat×Int:=if nearUp d n then upF d dp n else downF d dp n
def inE (edge:Bool) (a b:Nat):Bool:=if edge then decide (a≤b) else decide (a<b)
def shortL (d:List Nat) (dp:Int) (lo hi:Nat) (edge:Bool):Nat→Nat→List Nat×Int
 |0,_=>(d,dp)
 |f+1,n=>
  if inE edge lo (dV (downF d dp n).1 (downF d dp n).2) then
   (if inE edge (dV (upF d dp n).1 (upF d dp n).2) hi then roundF d dp n else downF d dp n)
  else if inE edge (dV (upF d dp n).1 (upF d dp n).2) hi then upF d dp n
  else shortL d dp lo hi edge f (n+1)
theorem inE_le {e:Bool} {a b:Nat} (h:inE e a b=true):a≤b:=by
 unfold inE at h
 split at h<;>simp at h<;>omega
theorem inE_of {e:Bool} {a b:Nat} (h:a<b):inE e a b=true:=by
 unfold inE
 split<;>simp<;>omega
structure Good (d:List Nat) (dp:Int) (lo hi:Nat) (edge:Bool) (r:List Nat×Int):Prop where
 norm:NormD r.1 r.2
 lo:inE edge lo (dV r.1 r.2)=true
 hi:inE edge (dV r.1 r.2) hi=true
 len:r.1.length≤d.length
 la: -1100≤r.2-r.1.length
 ne:r.1≠[]
theorem up_ne {d:List Nat} {dp:Int} (n:Nat) (hd:d≠[]):(upF d dp n).1≠[]:=by
 unfold upF
 split
 ·exact hd
 ·split<;>simp
theorem short_good {d:List Nat} {dp:Int} (h:NormD d dp) (hd:d≠[]) (la: -1100≤dp-d.length) {lo hi:Nat} (edge:Bool) (h1:0<lo) (hlo:lo<dV d dp) (hhi:dV d dp<hi): ∀f n,n+f=d.length→Good d dp lo hi edge (shortL d dp lo hi edge f n)
 |0,n,hn=>by
  rw [shortL];exact ⟨h,inE_of hlo,inE_of hhi,Nat.le_refl _,la,hd⟩
 |f+1,n,hn=>by
  have hnl:n<d.length:=by omega
  obtain ⟨d1,d2,d3,d4⟩:=down_spec h la n;obtain ⟨u1,u2,u3,u4⟩:=up_spec h la n hnl;have GD:inE edge lo (dV (downF d dp n).1 (downF d dp n).2)=true→Good d dp lo hi edge (downF d dp n):=fun hE=>by
   have hne:(downF d dp n).1≠[]:=fun e=>by
    have:=inE_le hE;rw [e] at this;simp [dV,dv] at this;omega
   exact ⟨d1,hE,inE_of (by omega),d3,by rw [d4 hne];omega,hne⟩
  have GU:inE edge (dV (upF d dp n).1 (upF d dp n).2) hi=true→Good d dp lo hi edge (upF d dp n):=fun hE=>
   ⟨u1,inE_of (by omega),hE,u3,u4,up_ne n hd⟩
  rw [shortL]
  split
  ·rename_i hE
   split
   ·rename_i hE2;unfold roundF
    split
    ·exact GU hE2
    ·exact GD hE
   ·exact GD hE
  ·split
   ·rename_i hE2;exact GU hE2
   ·exact short_good h hd la edge h1 hlo hhi f (n+1) (by omega)
def dgi (d:List Nat) (i:Int):Nat:=if i<0 then 0 else dgt d i.toNat
def ch (n:Nat):UInt8:=(48+n).toUInt8
def expT (d:List Nat) (dp:Int) (prec:Nat):List UInt8:=
 ch (dgt d 0)::((if prec=0 then [] else 46::(List.range prec).map fun i=>ch (dgt d (i+1)))++([101,if (if d=[] then 0 else dp-1)<(0:Int) then 45 else 43]++((if (if d=[] then 0 else dp-1:Int).natAbs<10 then [48] else [])++dec (if d=[] then 0 else dp-1:Int).natAbs)))
def texT (d:List Nat) (dp:Int) (prec:Nat):List UInt8:=
 (if dp≤0 then [48] else (List.range dp.toNat).map fun i=>ch (dgt d i))++(if prec=0 then [] else 46::(List.range prec).map fun (i:Nat)=>ch (dgi d (dp+(i:Int))))
end Go.Proofs.YteodinhkhhaafaaGreatDoor
