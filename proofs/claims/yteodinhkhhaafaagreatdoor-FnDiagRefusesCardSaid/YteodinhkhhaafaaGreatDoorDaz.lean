/- Walks of the program, and plain facts. -/
import Derived.Test.YteodinhkhhaafaaGreatDoorDay
set_option linter.unusedVariables false
set_option linter.unusedSimpArgs false
set_option maxRecDepth 100000
set_option maxHeartbeats 6400000
namespace Go.Proofs.YteodinhkhhaafaaGreatDoor
section
set_option exponentiation.threshold 3000
open Go.RowKit
theorem dgt_lt10 {d:List Nat} (hd: ∀x,x∈d→x<10) (i:Nat):dgt d i<10:=by
 have:=dgi_lt hd (i:Int)
 rwa [dgi_nat] at this
theorem expT_sp (d:List Nat) (dp:Int) (prec:Nat) (hd: ∀x,x∈d→x<10): ∃A sg ds,expT d dp prec=A++101::sg::ds∧(∀x,x∈A→x≠101)∧(sg=43∨sg=45)∧Dg ds∧2≤ds.length:=by
 obtain ⟨E,hE⟩: ∃E:Int,E=if d=[] then 0 else dp-1:=⟨_,rfl⟩
 obtain ⟨a1,a2,a3⟩:=dvB_dec E.natAbs
 refine ⟨ch (dgt d 0)::(if prec=0 then [] else 46::(List.range prec).map fun i=>ch (dgt d (i+1))),if E<0 then 45 else 43,(if E.natAbs<10 then [48] else [])++dec E.natAbs,?_,?_,?_,?_,?_⟩
 ·unfold expT
  rw [←hE]
  simp
 ·intro x hx
  have hdd: ∀n,n<10→ch n≠101:=by
   intro n hn e
   have:=ch_at hn
   rw [e] at this
   have h2:(101:UInt8).toNat=101:=rfl
   omega
  rcases List.mem_cons.1 hx with rfl|hx
  ·exact hdd _ (dgt_lt10 hd 0)
  ·split at hx
   ·cases hx
   ·rcases List.mem_cons.1 hx with rfl|hx
    ·decide
    ·obtain ⟨i,_,rfl⟩:=List.mem_map.1 hx
     exact hdd _ (dgt_lt10 hd _)
 ·split<;>simp
 ·intro b hb
  rcases List.mem_append.1 hb with hb|hb
  ·split at hb
   ·simp at hb;subst hb;decide
   ·cases hb
  ·exact a2 b hb
 ·by_cases h:E.natAbs<10
  ·rw [if_pos h,dec_lt _ h];simp
  ·rw [if_neg h,dec_ge _ h]
   have:=List.length_pos_iff.2 (dec_ne (E.natAbs/10))
   simp
   omega
theorem texT_ne (d:List Nat) (dp:Int) (prec:Nat) (hd: ∀x,x∈d→x<10):(∀x,x∈texT d dp prec→x≠101)∧texT d dp prec≠[]:=by
 have hdd: ∀n,n<10→ch n≠101:=by
  intro n hn e
  have:=ch_at hn
  rw [e] at this
  have h2:(101:UInt8).toNat=101:=rfl
  omega
 unfold texT
 constructor
 ·intro x hx
  rcases List.mem_append.1 hx with hx|hx
  ·split at hx
   ·simp at hx;subst hx;decide
   ·obtain ⟨i,_,rfl⟩:=List.mem_map.1 hx
    exact hdd _ (dgt_lt10 hd _)
  ·split at hx
   ·cases hx
   ·rcases List.mem_cons.1 hx with rfl|hx
    ·decide
    ·obtain ⟨i,_,rfl⟩:=List.mem_map.1 hx
     exact hdd _ (dgi_lt hd _)
 ·split
  ·simp
  ·rename_i h
   intro e
   have:=congrArg List.length e
   simp at this
   omega
theorem sgn_ne (b:Nat): ∀x,x∈sgnT b→x≠101:=by
 intro x hx
 unfold sgnT at hx
 split at hx
 ·cases hx
 ·simp at hx;subst hx;decide
theorem fR_lt (b:Nat) (hf:b/4503599627370496%2048≠2047):NormD (fR b).1 (fR b).2:=by
 obtain ⟨h2,h1⟩:=fExp_le b hf
 obtain ⟨hB,_⟩:=digs_b (fMant_lt b) h1 h2
 exact (shortR_b (fLow b) hB).1
theorem pre_sp (b:Nat) (hf:b/4503599627370496%2048≠2047):(∀i,idx 101 (preT b)=some i→i+2≤(preT b).length)∧preT b≠[]:=by
 have hN:=fR_lt b hf
 unfold preT
 split
 ·obtain ⟨A,sg,ds,e1,e2,e3,e4,e5⟩:=expT_sp (fR b).1 (fR b).2 ((fR b).1.length-1) hN.lt
  have e6:fmtF b true=(sgnT b++A)++101::sg::ds:=by
   unfold fmtF
   rw [if_pos rfl,e1,List.append_assoc]
  obtain ⟨ds',c1,c2,c3,c4,c5⟩:=clean_val (sgnT b++A) sg e3 ds e4 e5
  rw [e6,c1,idx_app 101 _ _ (fun x hx=>by rcases List.mem_append.1 hx with hx|hx;exact sgn_ne b x hx;exact e2 x hx)]
  refine ⟨fun i hi=> ?_,by simp⟩
  injection hi with hi
  subst hi
  simp
  omega
 ·obtain ⟨t1,t2⟩:=texT_ne (fR b).1 (fR b).2 ((fR b).1.length-(fR b).2).toNat hN.lt
  unfold fmtF
  rw [if_neg (by decide)]
  refine ⟨fun i hi=> ?_,fun e=>t2 (List.append_eq_nil_iff.1 e).2⟩
  rw [idx_none 101 _ (fun x hx=>by rcases List.mem_append.1 hx with hx|hx;exact sgn_ne b x hx;exact t1 x hx)] at hi
  cases hi
theorem put2 (T:List UInt8) (i:Nat) (h:i+2≤T.length) (x y:UInt8):((T.take (i+2)++T.drop i).set i x).set (i+1) y=T.take i++x::y::T.drop i:=by
 have e1:T.take (i+2)=T.take i++[T[i]'(by omega),T[i+1]'(by omega)]:=by
  rw [show i+2=i+1+1 from rfl,List.take_succ_eq_append_getElem (show i+1<T.length by omega),List.take_succ_eq_append_getElem (show i<T.length by omega),List.append_assoc]
  rfl
 have hl:(T.take i).length=i:=by simp;omega
 rw [e1,List.append_assoc,List.set_append_right _ _ (by omega),hl,Nat.sub_self]
 rw [List.cons_append,List.set_cons_zero,List.set_append_right _ _ (by omega),hl,Nat.add_sub_cancel_left]
 rfl
end
end Go.Proofs.YteodinhkhhaafaaGreatDoor
