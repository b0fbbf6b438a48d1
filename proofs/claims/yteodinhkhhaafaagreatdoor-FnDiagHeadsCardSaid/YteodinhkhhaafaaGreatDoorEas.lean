/- Walks of the program, and plain facts. -/
import Derived.Test.YteodinhkhhaafaaGreatDoorEar
set_option linter.unusedVariables false
set_option linter.unusedSimpArgs false
set_option maxRecDepth 100000
set_option maxHeartbeats 6400000
namespace Go.Proofs.YteodinhkhhaafaaGreatDoor
section
set_option exponentiation.threshold 3000
open Go.RowKit
theorem row_1 {w W:World} {B:Nat} {b:UInt8} {x:Int} (e:W.heap=w.heap.push (.cells #[.int .u8 x] 5 (0,0))) (hx:(b.toNat:Int)=x) (hB:B≤w.heap.size):Row W B (.slice (some ⟨w.heap.size,0,none⟩) 1 1) [b]:=by
 subst hx;refine ⟨rfl,.inr ⟨w.heap.size,1,#[.int .u8 (b.toNat:Int)],rfl,hB,by rw [e];simp,Nat.le_refl _,by decide,rfl,rfl⟩⟩
theorem row_put {w:World} {B:Nat} {ao:Option Addr} {n c:Nat} {bs:List UInt8} {b:UInt8} (h:Row w B (.slice ao n c) (bs++[b])) (b':UInt8):
  ∃g,ao=some ⟨g,0,none⟩∧B≤g∧n=bs.length+1∧(w.cell? ⟨g,bs.length,none⟩).isSome=true∧w.frozen? ⟨g,bs.length,none⟩=false∧Row (w.setCell ⟨g,bs.length,none⟩ (.int .u8 (b'.toNat:Int))) B (.slice ao n c) (bs++[b']):=by
 rcases h.2 with ⟨hv,h0⟩|⟨g,cap,cur,hv,hg,hh,hc,hm,hs,ht⟩
 ·simp at h0
 ·injection hv with e1 e2 e3
  subst e1 e2 e3;have hl:(bs++[b]).length=bs.length+1:=by simp
  rw [hl] at hc ht;have hsz:bs.length<cur.size:=by omega
  refine ⟨g,rfl,hg,hl,by rw [cell_blk hh];simp [hsz],frozen_blk hh _,?_⟩
  have hb2:=blk_setCell hh bs.length (.int .u8 (b'.toNat:Int));refine ⟨by simp [enc],.inr ⟨g,c,_,by simp,hg,hb2,by simp;omega,hm,by simp [hs],?_⟩⟩
  rw [enc_append] at ht ⊢;have e4:(bs++[b']).length*1=bs.length+1:=by simp
  rw [e4];have h5:cur.toList.take bs.length=enc bs:=by
   have h6:=congrArg (List.take bs.length) ht;rw [List.take_take,List.take_append_of_le_length (by rw [enc_length];exact Nat.le_refl _),List.take_of_length_le (l:=enc bs) (by rw [enc_length];exact Nat.le_refl _)] at h6
   rw [←h6]
   congr 1
   omega
  rw [Array.toList_setIfInBounds,List.take_succ_eq_append_getElem (by simpa using hsz),List.take_set_of_le (Nat.le_refl _),h5]
  simp [enc]
end
section
set_option exponentiation.threshold 3000
open Go.RowKit
theorem itoa_nat (E:Nat):itoa (E:Int)=dec E:=by unfold itoa;rw [if_neg (by omega)];rfl
theorem expD {w:World} {p:Nat} {d:List Nat} {dp:Int} (h:DecP w p d dp) (hd: ∀x,x∈d→x<10) (hne:d≠[]) (h1:dp≤100000) (h2: -100000≤dp) (prec:Nat) (hp:prec≤100000) (hl:d.length≤100000):
  Calls Tryz.prog 213 #[.pointer (some ⟨p,0,none⟩),.int .i64 (prec:Int),.int .u8 101] w fun e w'=>e= .returned (.string ⟨(expT d dp prec).toArray⟩)∧Fr [] w w':=by
 have KD:=Hz (fun (W:World) (F:Fr [] w W) (i:Int)=>digit (h.fr F) hd i)
 have KC:=Hz (fun (W:World) (F:Fr [] w W)=>(by obtain ⟨ao,c,_,c1,_,_⟩:=(h.fr F).cells hd;exact c1:W.cell? ⟨p,1,none⟩=some (.int .i64 dp)))
 have KZ:=Hz (fun (W:World) (F:Fr [] w W)=>(by obtain ⟨ao,c,c0,_,_,_⟩:=(h.fr F).cells hd;exact ⟨ao,c,c0⟩: ∃ao c,W.cell? ⟨p,0,none⟩=some (.slice ao d.length c)))
 have hlt:=Hz (dgi_lt hd);have hl0:0<d.length:=List.length_pos_iff.2 hne;have tl:((d.length:Int)==0)=false:=by simp;omega
 have tl2: ¬(d.length:Int)=0:=by omega
 obtain ⟨E,hE⟩: ∃E:Nat,E=(dp-1).natAbs:=⟨_,rfl⟩;have hEl:E≤100001:=by omega
 have hdl:=dec_length E 6 (by omega) (by omega)
 have hE0:Hid (expT d dp prec=ch (dgt d 0)::((if prec=0 then [] else 46::(List.range prec).map fun i=>ch (dgt d (i+1)))++([101,if dp-1<(0:Int) then 45 else 43]++((if E<10 then [48] else [])++dec E)))):=Hz (by rw [hE];unfold expT;rw [if_neg hne])
 have hsg:(dp-1<0∧0<E∧dp-1= -(E:Int))∨(¬dp-1<0∧dp-1=(E:Int)):=by omega
 have KI:=Hz (fun W=>(by have:=itoa_any (E:Int) (by omega) (by omega) W;rwa [itoa_nat] at this:Calls Tryz.prog 116 #[.int .i64 (E:Int)] W fun e w'=>e= .returned (.string ⟨(dec E).toArray⟩)∧Fr [] W w'))
 have s0:IntKind.i64.wrap (dp-1)=dp-1:=IntWalk.i64_in _ (by omega)
 replace h:=Hz h;replace hd:=Hz hd;replace hE:=Hz hE;clear hne hl;obtain ⟨x0,hx0⟩: ∃x0,x0=dgt d 0:=⟨_,rfl⟩;have hx10:x0<10:=by have:=hlt.out ((0:Nat):Int);rw [dgi_nat,←hx0] at this;exact this
 have hD0:dgi d 0=x0:=by rw [hx0];exact dgi_nat d 0
 rw [←hx0] at hE0;have s1:IntKind.u8.wrap (48+(x0:Int))=48+(x0:Int):=IntWalk.u8_in _ (by omega)
 have hcx:=Hz (ch_nat hx10);replace hx0:=Hz hx0;go_enter Tryz.func213,Tryz.ntmps213
 go_wp2_with fail
 refine (KD.out w (Fr.refl _ _) 0).mono ?_
 rintro e w1 ⟨rfl,rfl⟩;rw [hD0];replace hD0:=Hz hD0;have row0:Row (w1.alloc (.cells #[.int .u8 (48+(x0:Int))] 5 (0,0))) w1.heap.size (.slice (some ⟨w1.heap.size,0,none⟩) 1 1) [ch x0]:=row_1 (w:=w1) rfl hcx.out (Nat.le_refl _);have F0:Fr [] w1 (w1.alloc (.cells #[.int .u8 (48+(x0:Int))] 5 (0,0))):=(Fr.refl [] w1).alloc _;replace row0:=Hz row0;replace F0:=Hz F0;by_cases hp0:prec=0
 ·have t2: ¬(0:Int)<(prec:Int):=by omega
  replace hp0:=Hz hp0;obtain ⟨Q,hQ⟩: ∃Q:List UInt8,Q=[ch x0]:=⟨_,rfl⟩;rw [←hQ] at row0;have hQl:Q.length≤100005:=by rw [hQ];simp
  have hlQ:Hid (Q.length+([101,43]:List UInt8).length≤140737488355328):=Hz (by simp;omega)
  replace hQ:=Hz hQ;have hR2:Hid (Rd ((w1.alloc (.cells #[.int .u8 (48+(x0:Int))] 5 (0,0))).alloc (.cells #[.int .u8 101,.int .u8 43] 5 (0,0))) (w1.heap.size+1) 0 [101,43]):=Hz (by have:=rd_new (w:=w1.alloc (.cells #[.int .u8 (48+(x0:Int))] 5 (0,0))) (W:=(w1.alloc (.cells #[.int .u8 (48+(x0:Int))] 5 (0,0))).alloc (.cells #[.int .u8 101,.int .u8 43] 5 (0,0))) (s:=[101,43]) rfl rfl;simpa using this)
  have cP:=KC.out _ F0.out;obtain ⟨aoZ,cZ,cP0⟩:=KZ.out _ F0.out;go_wp2_with (at_builtin;refine wpList_apRow rfl _ _ rfl (B:=w1.heap.size) _ (Q) [101,43] (w1.heap.size+1) 0 2 rfl rfl (hR2.out) (row0.out.push rfl) (by have:=F0.out.size;simp at this ⊢;omega) hlQ.out ?_)
  intro vA wA hrA hgA;have hFA:Fr [] w1 wA:=Fr.grown (F0.out.alloc _) hgA (fun k hk=> .inr (World.ownsRow.lt row0.out k hk).1)
  obtain ⟨aoA,mA,cA,rfl⟩:=hrA.shape;have hml:=row_len hrA;rw [show (Q)++[101,43]=((Q)++[101])++[43] by simp] at hrA
  obtain ⟨K,hK⟩: ∃K:Nat,K=((Q)++[101]).length:=⟨_,rfl⟩;have hKm:mA=K+1:=by rw [hml,hK];simp
  have hKl:K≤100010:=by rw [hK];simp;omega
  clear hml;subst hKm;replace hFA:=Hz hFA;rcases hsg with ⟨n1,n2,n3⟩|⟨n1,n3⟩
  ·obtain ⟨gA,rfl,hgB,-,hcs,hfz,hput⟩:=row_put hrA 45;rw [←hK] at hcs hfz hput;rw [show (((45:UInt8).toNat:Nat):Int)=45 from rfl] at hput
   have m1:(((K+1:Nat):Int)-1)=(K:Int):=by omega
   have m2:IntKind.i64.wrap (K:Int)=(K:Int):=IntWalk.i64_in _ (by omega)
   have m3:(K:Int)<((K+1:Nat):Int):=by omega
   have m4:IntKind.i64.wrap (-(-(E:Int)))=(E:Int):=by rw [Int.neg_neg];exact IntWalk.i64_in _ (by omega)
   have m5:IntKind.i64.wrap (E:Int)=(E:Int):=IntWalk.i64_in _ (by omega)
   have m6: -(E:Int)<0:=by omega
   obtain ⟨uA,hcs⟩:=Option.isSome_iff_exists.1 hcs;have hFB:Fr [] w1 (wA.setCell ⟨gA,K,none⟩ (.int .u8 45)):=hFA.out.setCell (.inr hgB) _;have e45:Hid ((if dp-1<(0:Int) then (45:UInt8) else 43)=45):=Hz (if_pos n1)
   rw [n3] at s0;replace n1:=Hz n1;replace hrA:=Hz hrA;replace hput:=Hz hput;replace hFB:=Hz hFB;replace hK:=Hz hK;obtain ⟨n4,hn4⟩: ∃z,z=dp-1:=⟨_,rfl⟩;by_cases h10:E<10
   ·have t10:(E:Int)<10:=by omega
    have hlen:Hid (((Q++[101])++[45]).length+[(48:UInt8)].length≤140737488355328):=Hz (by have:=hQl;simp;omega)
    have hR3:Hid (Rd ((wA.setCell ⟨gA,K,none⟩ (.int .u8 45)).alloc (.cells #[.int .u8 48] 5 (0,0))) wA.heap.size 0 [48]):=Hz (by have:=rd_new (w:=wA.setCell ⟨gA,K,none⟩ (.int .u8 45)) (W:=(wA.setCell ⟨gA,K,none⟩ (.int .u8 45)).alloc (.cells #[.int .u8 48] 5 (0,0))) (s:=[48]) rfl rfl;simpa using this)
    go_wp2_with (at_builtin;refine wpList_apRow rfl _ _ rfl (B:=w1.heap.size) _ ((Q++[101])++[45]) [48] wA.heap.size 0 1 rfl rfl hR3.out (hput.out.push rfl) (by have:=hFB.out.size;simp at this ⊢;omega) hlen.out ?_)
    intro vC wC hrC hgC;have hFC:Fr [] w1 wC:=Fr.grown (hFB.out.alloc _) hgC (fun k hk=> .inr (World.ownsRow.lt hput.out k hk).1)
    obtain ⟨aoC,mC,cC,rfl⟩:=hrC.shape;have hrD:Row wC w1.heap.size (.slice aoC mC cC) (Q++[101,45,48]):=by simpa using hrC
    clear hrC;have ht:=row_str hrD;have hk: ∀W,Fr [] wC W→(convert 59 9 (.slice aoC mC cC)).run Tryz.prog W= .ok (.string ⟨(Q++[101,45,48]).toArray⟩) W:=fun W F=>row_str (hrD.fr F (by simp))
    replace hk:=Hz hk;have hq1: ¬9223372036854775807<(Q++[101,45,48]).length+(dec E).length:=by simp;omega
    have hq2: ¬9223372036854775807<Q.length+(0+1+1+1)+(dec E).length:=by omega
    have hq3: ¬9223372036854775807<Q.length+3+(dec E).length:=by omega
    have hq4:Q.length+3+(dec E).length≤9223372036854775807:=by omega
    have hq5: ¬(9223372036854775807:Int)<(Q.length:Int)+3+((dec E).length:Int):=by omega
    have hq6:(Q.length:Int)+3+((dec E).length:Int)≤9223372036854775807:=by omega
    go_wp2
    go_region_held3 (fun w'=>(convert 59 9 (.slice aoC mC cC)).run Tryz.prog w'= .ok (.string ⟨(Q++[101,45,48]).toArray⟩) w') (first|exact hk.out _ ((Fr.refl [] _).drew)|exact hk.out _ (((Fr.refl [] _).drew).trans hfI)|exact hk.out _ ((((Fr.refl [] _).drew).trans hfI).drew)|exact ht)
     (first|(go_at_call 116;refine (KI.out _).mono ?_;rintro e wI ⟨rfl,hfI⟩))
    go_wp2;go_ret
    refine ⟨?_,by first|exact (hFC.trans hfI).drewN _|exact hFC.trans hfI|exact (hFC.drewN _).trans hfI|exact (hFC.drew).trans hfI|exact ((hFC.drew).trans hfI).drew⟩
    rw [hE0.out,e45.out,if_pos h10];rw [if_pos hp0.out,hQ.out];simp [mk_append]
   ·have t10: ¬(E:Int)<10:=by omega
    have ht:=row_str hput.out;have hk: ∀W,Fr [] (wA.setCell ⟨gA,K,none⟩ (.int .u8 45)) W→(convert 59 9 (.slice (some ⟨gA,0,none⟩) (K+1) cA)).run Tryz.prog W= .ok (.string ⟨((Q++[101])++[45]).toArray⟩) W:=fun W F=>row_str (hput.out.fr F (by simp))
    replace hk:=Hz hk;have hq1: ¬9223372036854775807<((Q++[101])++[45]).length+(dec E).length:=by simp;omega
    have hq2: ¬9223372036854775807<Q.length+1+1+(dec E).length:=by omega
    have hq3: ¬9223372036854775807<Q.length+2+(dec E).length:=by omega
    have hq4:Q.length+2+(dec E).length≤9223372036854775807:=by omega
    have hq5: ¬(9223372036854775807:Int)<(Q.length:Int)+2+((dec E).length:Int):=by omega
    have hq6:(Q.length:Int)+2+((dec E).length:Int)≤9223372036854775807:=by omega
    have hq7:(Q.length:Int)+1+1+((dec E).length:Int)≤9223372036854775807:=by omega
    have hq8: ¬(9223372036854775807:Int)<(Q.length:Int)+1+1+((dec E).length:Int):=by omega
    go_wp2
    go_region_held3 (fun w'=>(convert 59 9 (.slice (some ⟨gA,0,none⟩) (K+1) cA)).run Tryz.prog w'= .ok (.string ⟨((Q++[101])++[45]).toArray⟩) w') (first|exact hk.out _ ((Fr.refl [] _).drew)|exact hk.out _ (((Fr.refl [] _).drew).trans hfI)|exact hk.out _ ((((Fr.refl [] _).drew).trans hfI).drew)|exact ht)
     (first|(go_at_call 116;refine (KI.out _).mono ?_;rintro e wI ⟨rfl,hfI⟩))
    go_wp2;go_ret
    refine ⟨?_,by first|exact (hFB.out.trans hfI).drewN _|exact hFB.out.trans hfI|exact (hFB.out.drewN _).trans hfI|exact (hFB.out.drew).trans hfI|exact ((hFB.out.drew).trans hfI).drew⟩
    rw [hE0.out,e45.out,if_neg h10];rw [if_pos hp0.out,hQ.out];simp [mk_append]
  ·have m6: ¬(E:Int)<0:=by omega
   have e45:Hid ((if dp-1<(0:Int) then (45:UInt8) else 43)=43):=Hz (if_neg (by omega))
   rw [n3] at s0;replace n1:=Hz n1;replace hrA:=Hz hrA;replace hK:=Hz hK;by_cases h10:E<10
   ·have t10:(E:Int)<10:=by omega
    have hlen:Hid (((Q++[101])++[43]).length+[(48:UInt8)].length≤140737488355328):=Hz (by have:=hQl;simp;omega)
    have hR3:Hid (Rd ((wA).alloc (.cells #[.int .u8 48] 5 (0,0))) wA.heap.size 0 [48]):=Hz (by have:=rd_new (w:=wA) (W:=(wA).alloc (.cells #[.int .u8 48] 5 (0,0))) (s:=[48]) rfl rfl;simpa using this)
    go_wp2_with (at_builtin;refine wpList_apRow rfl _ _ rfl (B:=w1.heap.size) _ ((Q++[101])++[43]) [48] wA.heap.size 0 1 rfl rfl hR3.out (hrA.out.push rfl) (by have:=hFA.out.size;simp at this ⊢;omega) hlen.out ?_)
    intro vC wC hrC hgC;have hFC:Fr [] w1 wC:=Fr.grown (hFA.out.alloc _) hgC (fun k hk=> .inr (World.ownsRow.lt hrA.out k hk).1)
    obtain ⟨aoC,mC,cC,rfl⟩:=hrC.shape;have hrD:Row wC w1.heap.size (.slice aoC mC cC) (Q++[101,43,48]):=by simpa using hrC
    clear hrC;have ht:=row_str hrD;have hk: ∀W,Fr [] wC W→(convert 59 9 (.slice aoC mC cC)).run Tryz.prog W= .ok (.string ⟨(Q++[101,43,48]).toArray⟩) W:=fun W F=>row_str (hrD.fr F (by simp))
    replace hk:=Hz hk;have hq1: ¬9223372036854775807<(Q++[101,43,48]).length+(dec E).length:=by simp;omega
    have hq2: ¬9223372036854775807<Q.length+(0+1+1+1)+(dec E).length:=by omega
    have hq3: ¬9223372036854775807<Q.length+3+(dec E).length:=by omega
    have hq4:Q.length+3+(dec E).length≤9223372036854775807:=by omega
    have hq5: ¬(9223372036854775807:Int)<(Q.length:Int)+3+((dec E).length:Int):=by omega
    have hq6:(Q.length:Int)+3+((dec E).length:Int)≤9223372036854775807:=by omega
    go_wp2
    go_region_held3 (fun w'=>(convert 59 9 (.slice aoC mC cC)).run Tryz.prog w'= .ok (.string ⟨(Q++[101,43,48]).toArray⟩) w') (first|exact hk.out _ ((Fr.refl [] _).drew)|exact hk.out _ (((Fr.refl [] _).drew).trans hfI)|exact hk.out _ ((((Fr.refl [] _).drew).trans hfI).drew)|exact ht)
     (first|(go_at_call 116;refine (KI.out _).mono ?_;rintro e wI ⟨rfl,hfI⟩))
    go_wp2;go_ret
    refine ⟨?_,by first|exact (hFC.trans hfI).drewN _|exact hFC.trans hfI|exact (hFC.drewN _).trans hfI|exact (hFC.drew).trans hfI|exact ((hFC.drew).trans hfI).drew⟩
    rw [hE0.out,e45.out,if_pos h10];rw [if_pos hp0.out,hQ.out];simp [mk_append]
   ·have t10: ¬(E:Int)<10:=by omega
    have ht:=row_str hrA.out;have hk: ∀W,Fr [] (wA) W→(convert 59 9 (.slice aoA (K+1) cA)).run Tryz.prog W= .ok (.string ⟨((Q++[101])++[43]).toArray⟩) W:=fun W F=>row_str (hrA.out.fr F (by simp))
    replace hk:=Hz hk;have hq1: ¬9223372036854775807<((Q++[101])++[43]).length+(dec E).length:=by simp;omega
    have hq2: ¬9223372036854775807<Q.length+1+1+(dec E).length:=by omega
    have hq3: ¬9223372036854775807<Q.length+2+(dec E).length:=by omega
    have hq4:Q.length+2+(dec E).length≤9223372036854775807:=by omega
    have hq5: ¬(9223372036854775807:Int)<(Q.length:Int)+2+((dec E).length:Int):=by omega
    have hq6:(Q.length:Int)+2+((dec E).length:Int)≤9223372036854775807:=by omega
    have hq7:(Q.length:Int)+1+1+((dec E).length:Int)≤9223372036854775807:=by omega
    have hq8: ¬(9223372036854775807:Int)<(Q.length:Int)+1+1+((dec E).length:Int):=by omega
    go_wp2
    go_region_held3 (fun w'=>(convert 59 9 (.slice aoA (K+1) cA)).run Tryz.prog w'= .ok (.string ⟨((Q++[101])++[43]).toArray⟩) w') (first|exact hk.out _ ((Fr.refl [] _).drew)|exact hk.out _ (((Fr.refl [] _).drew).trans hfI)|exact hk.out _ ((((Fr.refl [] _).drew).trans hfI).drew)|exact ht)
     (first|(go_at_call 116;refine (KI.out _).mono ?_;rintro e wI ⟨rfl,hfI⟩))
    go_wp2;go_ret
    refine ⟨?_,by first|exact (hFA.out.trans hfI).drewN _|exact hFA.out.trans hfI|exact (hFA.out.drewN _).trans hfI|exact (hFA.out.drew).trans hfI|exact ((hFA.out.drew).trans hfI).drew⟩
    rw [hE0.out,e45.out,if_neg h10];rw [if_pos hp0.out,hQ.out];simp [mk_append]
 ·have t2:(0:Int)<(prec:Int):=by omega
  replace hp0:=Hz hp0;have hlen:Hid (([ch x0]:List UInt8).length+[(46:UInt8)].length≤140737488355328):=Hz (by simp)
  have hR2:Hid (Rd ((w1.alloc (.cells #[.int .u8 (48+(x0:Int))] 5 (0,0))).alloc (.cells #[.int .u8 46] 5 (0,0))) (w1.heap.size+1) 0 [46]):=Hz (by have:=rd_new (w:=w1.alloc (.cells #[.int .u8 (48+(x0:Int))] 5 (0,0))) (W:=(w1.alloc (.cells #[.int .u8 (48+(x0:Int))] 5 (0,0))).alloc (.cells #[.int .u8 46] 5 (0,0))) (s:=[46]) rfl rfl;simpa using this)
  go_wp2_with (at_builtin;refine wpList_apRow rfl _ _ rfl (B:=w1.heap.size) _ [ch x0] [46] (w1.heap.size+1) 0 1 rfl rfl hR2.out (row0.out.push rfl) (by simp;omega) hlen.out ?_)
  intro vB wB hrB hgB;have hFB0:Fr [] w1 wB:=Fr.grown (F0.out.alloc _) hgB (fun k hk=> .inr (World.ownsRow.lt row0.out k hk).1)
  obtain ⟨aoB,mB,cB,rfl⟩:=hrB.shape;replace hrB:=Hz hrB;replace hFB0:=Hz hFB0;go_wp2
  go_loopg [7,8] prec (fun gk v7 v8 wr=> ∃j:Nat,v8= .int .i64 ((j+1:Nat):Int)∧j+gk=prec∧Hid (Row wr w1.heap.size v7 (([ch x0]++[46])++(List.range j).map fun i=>ch (dgt d (i+1))))∧Hid (Fr [] w1 wr))
  case atStart=>exact ⟨0,by go_num,by omega,Hz (by rw [List.range_zero,List.map_nil,List.append_nil];exact hrB.out),hFB0⟩
  case round=>
   obtain ⟨j,rfl,hjg,hrow2,hF2⟩:=hrel;obtain ⟨ao2,m2,c2,rfl⟩:=hrow2.out.shape;by_cases hj:((j+1:Nat):Int)≤(prec:Int)
   ·obtain ⟨g2,rfl⟩: ∃g2,gk=g2+1:=⟨gk-1,by omega⟩
    have hx:=hlt.out ((j+1:Nat):Int);rw [dgi_nat] at hx;go_wp2_with fail
    refine (KD.out _ hF2.out ((j+1:Nat):Int)).mono ?_
    rintro e w2 ⟨rfl,rfl⟩;rw [dgi_nat];have hsn:=range_snoc (fun i=>ch (dgt d (i+1))) j
    generalize hxx:dgt d (j+1)=x at *
    replace hxx:=Hz hxx;replace hsn:=Hz hsn;have s1:IntKind.u8.wrap (48+(x:Int))=48+(x:Int):=IntWalk.u8_in _ (by omega)
    have hcx:=Hz (ch_nat hx);have hj':j≤100000:=by omega
    have s2:IntKind.i64.wrap (((j+1:Nat):Int)+1)=((j+1+1:Nat):Int):=by rw [IntWalk.i64_in _ (by omega)];omega
    have hl2:Hid ((([ch x0]++[46])++(List.range j).map fun i=>ch (dgt d (i+1))).length+[ch x].length≤140737488355328):=Hz (by simp;omega)
    go_wp2_with (at_builtin;refine wpList_apRow rfl _ _ rfl (B:=w1.heap.size) _ (([ch x0]++[46])++(List.range j).map fun i=>ch (dgt d (i+1))) [ch x] w2.heap.size 0 1 rfl rfl (rd_new (w:=w2) rfl (by simp only [enc,List.map_cons,List.map_nil];rw [hcx.out])) (hrow2.out.push rfl) (by have:=hF2.out.size;simp;omega) hl2.out ?_)
    intro v3 w3 hr3 hg3;have hF3:Fr [] w1 w3:=Fr.grown (hF2.out.alloc _) hg3 (fun k hk=> .inr (World.ownsRow.lt hrow2.out k hk).1)
    first|rw [List.append_assoc,←hsn.out] at hr3|rw [←hsn.out] at hr3
    go_wp2
    go_roundg g2
    case measure=>omega
    case rel=>exact ⟨j+1,by go_num,by omega,Hz hr3,Hz hF3⟩
   ·have hjp:j=prec:=by omega
    subst hjp;obtain ⟨Q,hQ⟩: ∃Q:List UInt8,Q=(([ch x0]++[46])++(List.range j).map fun i=>ch (dgt d (i+1))):=⟨_,rfl⟩
    rw [←hQ] at hrow2;have hQl:Q.length≤100005:=by rw [hQ];simp;omega
    replace hQ:=Hz hQ;have hlQ:Hid (Q.length+([101,43]:List UInt8).length≤140737488355328):=Hz (by simp;omega)
    have cP:=KC.out _ hF2.out;obtain ⟨aoZ,cZ,cP0⟩:=KZ.out _ hF2.out;go_wp2_with (at_builtin;refine wpList_apRow rfl _ _ rfl (B:=w1.heap.size) _ (Q) [101,43] (wr.heap.size) 0 2 rfl rfl (rd_new (w:=wr) rfl rfl) (hrow2.out.push rfl) (by have:=hF2.out.size;simp at this ⊢;omega) hlQ.out ?_)
    intro vA wA hrA hgA;have hFA:Fr [] w1 wA:=Fr.grown (hF2.out.alloc _) hgA (fun k hk=> .inr (World.ownsRow.lt hrow2.out k hk).1)
    obtain ⟨aoA,mA,cA,rfl⟩:=hrA.shape;have hml:=row_len hrA;rw [show (Q)++[101,43]=((Q)++[101])++[43] by simp] at hrA
    obtain ⟨K,hK⟩: ∃K:Nat,K=((Q)++[101]).length:=⟨_,rfl⟩;have hKm:mA=K+1:=by rw [hml,hK];simp
    have hKl:K≤100010:=by rw [hK];simp;omega
    clear hml;subst hKm;replace hFA:=Hz hFA;rcases hsg with ⟨n1,n2,n3⟩|⟨n1,n3⟩
    ·obtain ⟨gA,rfl,hgB,-,hcs,hfz,hput⟩:=row_put hrA 45;rw [←hK] at hcs hfz hput;rw [show (((45:UInt8).toNat:Nat):Int)=45 from rfl] at hput
     have m1:(((K+1:Nat):Int)-1)=(K:Int):=by omega
     have m2:IntKind.i64.wrap (K:Int)=(K:Int):=IntWalk.i64_in _ (by omega)
     have m3:(K:Int)<((K+1:Nat):Int):=by omega
     have m4:IntKind.i64.wrap (-(-(E:Int)))=(E:Int):=by rw [Int.neg_neg];exact IntWalk.i64_in _ (by omega)
     have m5:IntKind.i64.wrap (E:Int)=(E:Int):=IntWalk.i64_in _ (by omega)
     have m6: -(E:Int)<0:=by omega
     obtain ⟨uA,hcs⟩:=Option.isSome_iff_exists.1 hcs;have hFB:Fr [] w1 (wA.setCell ⟨gA,K,none⟩ (.int .u8 45)):=hFA.out.setCell (.inr hgB) _;have e45:Hid ((if dp-1<(0:Int) then (45:UInt8) else 43)=45):=Hz (if_pos n1)
     rw [n3] at s0;replace n1:=Hz n1;replace hrA:=Hz hrA;replace hput:=Hz hput;replace hFB:=Hz hFB;replace hK:=Hz hK;obtain ⟨n4,hn4⟩: ∃z,z=dp-1:=⟨_,rfl⟩;by_cases h10:E<10
     ·have t10:(E:Int)<10:=by omega
      have hlen:Hid (((Q++[101])++[45]).length+[(48:UInt8)].length≤140737488355328):=Hz (by have:=hQl;simp;omega)
      have hR3:Hid (Rd ((wA.setCell ⟨gA,K,none⟩ (.int .u8 45)).alloc (.cells #[.int .u8 48] 5 (0,0))) wA.heap.size 0 [48]):=Hz (by have:=rd_new (w:=wA.setCell ⟨gA,K,none⟩ (.int .u8 45)) (W:=(wA.setCell ⟨gA,K,none⟩ (.int .u8 45)).alloc (.cells #[.int .u8 48] 5 (0,0))) (s:=[48]) rfl rfl;simpa using this)
      go_wp2_with (at_builtin;refine wpList_apRow rfl _ _ rfl (B:=w1.heap.size) _ ((Q++[101])++[45]) [48] wA.heap.size 0 1 rfl rfl hR3.out (hput.out.push rfl) (by have:=hFB.out.size;simp at this ⊢;omega) hlen.out ?_)
      intro vC wC hrC hgC;have hFC:Fr [] w1 wC:=Fr.grown (hFB.out.alloc _) hgC (fun k hk=> .inr (World.ownsRow.lt hput.out k hk).1)
      obtain ⟨aoC,mC,cC,rfl⟩:=hrC.shape;have hrD:Row wC w1.heap.size (.slice aoC mC cC) (Q++[101,45,48]):=by simpa using hrC
      clear hrC;have ht:=row_str hrD;have hk: ∀W,Fr [] wC W→(convert 59 9 (.slice aoC mC cC)).run Tryz.prog W= .ok (.string ⟨(Q++[101,45,48]).toArray⟩) W:=fun W F=>row_str (hrD.fr F (by simp))
      replace hk:=Hz hk;have hq1: ¬9223372036854775807<(Q++[101,45,48]).length+(dec E).length:=by simp;omega
      have hq2: ¬9223372036854775807<Q.length+(0+1+1+1)+(dec E).length:=by omega
      have hq3: ¬9223372036854775807<Q.length+3+(dec E).length:=by omega
      have hq4:Q.length+3+(dec E).length≤9223372036854775807:=by omega
      have hq5: ¬(9223372036854775807:Int)<(Q.length:Int)+3+((dec E).length:Int):=by omega
      have hq6:(Q.length:Int)+3+((dec E).length:Int)≤9223372036854775807:=by omega
      go_wp2
      go_region_held3 (fun w'=>(convert 59 9 (.slice aoC mC cC)).run Tryz.prog w'= .ok (.string ⟨(Q++[101,45,48]).toArray⟩) w') (first|exact hk.out _ ((Fr.refl [] _).drew)|exact hk.out _ (((Fr.refl [] _).drew).trans hfI)|exact hk.out _ ((((Fr.refl [] _).drew).trans hfI).drew)|exact ht)
       (first|(go_at_call 116;refine (KI.out _).mono ?_;rintro e wI ⟨rfl,hfI⟩))
      go_wp2;go_ret
      refine ⟨?_,by first|exact (hFC.trans hfI).drewN _|exact hFC.trans hfI|exact (hFC.drewN _).trans hfI|exact (hFC.drew).trans hfI|exact ((hFC.drew).trans hfI).drew⟩
      rw [hE0.out,e45.out,if_pos h10];rw [if_neg hp0.out,hQ.out];simp [mk_append]
     ·have t10: ¬(E:Int)<10:=by omega
      have ht:=row_str hput.out;have hk: ∀W,Fr [] (wA.setCell ⟨gA,K,none⟩ (.int .u8 45)) W→(convert 59 9 (.slice (some ⟨gA,0,none⟩) (K+1) cA)).run Tryz.prog W= .ok (.string ⟨((Q++[101])++[45]).toArray⟩) W:=fun W F=>row_str (hput.out.fr F (by simp))
      replace hk:=Hz hk;have hq1: ¬9223372036854775807<((Q++[101])++[45]).length+(dec E).length:=by simp;omega
      have hq2: ¬9223372036854775807<Q.length+1+1+(dec E).length:=by omega
      have hq3: ¬9223372036854775807<Q.length+2+(dec E).length:=by omega
      have hq4:Q.length+2+(dec E).length≤9223372036854775807:=by omega
      have hq5: ¬(9223372036854775807:Int)<(Q.length:Int)+2+((dec E).length:Int):=by omega
      have hq6:(Q.length:Int)+2+((dec E).length:Int)≤9223372036854775807:=by omega
      have hq7:(Q.length:Int)+1+1+((dec E).length:Int)≤9223372036854775807:=by omega
      have hq8: ¬(9223372036854775807:Int)<(Q.length:Int)+1+1+((dec E).length:Int):=by omega
      go_wp2
      go_region_held3 (fun w'=>(convert 59 9 (.slice (some ⟨gA,0,none⟩) (K+1) cA)).run Tryz.prog w'= .ok (.string ⟨((Q++[101])++[45]).toArray⟩) w') (first|exact hk.out _ ((Fr.refl [] _).drew)|exact hk.out _ (((Fr.refl [] _).drew).trans hfI)|exact hk.out _ ((((Fr.refl [] _).drew).trans hfI).drew)|exact ht)
       (first|(go_at_call 116;refine (KI.out _).mono ?_;rintro e wI ⟨rfl,hfI⟩))
      go_wp2;go_ret
      refine ⟨?_,by first|exact (hFB.out.trans hfI).drewN _|exact hFB.out.trans hfI|exact (hFB.out.drewN _).trans hfI|exact (hFB.out.drew).trans hfI|exact ((hFB.out.drew).trans hfI).drew⟩
      rw [hE0.out,e45.out,if_neg h10];rw [if_neg hp0.out,hQ.out];simp [mk_append]
    ·have m6: ¬(E:Int)<0:=by omega
     have e45:Hid ((if dp-1<(0:Int) then (45:UInt8) else 43)=43):=Hz (if_neg (by omega))
     rw [n3] at s0;replace n1:=Hz n1;replace hrA:=Hz hrA;replace hK:=Hz hK;by_cases h10:E<10
     ·have t10:(E:Int)<10:=by omega
      have hlen:Hid (((Q++[101])++[43]).length+[(48:UInt8)].length≤140737488355328):=Hz (by have:=hQl;simp;omega)
      have hR3:Hid (Rd ((wA).alloc (.cells #[.int .u8 48] 5 (0,0))) wA.heap.size 0 [48]):=Hz (by have:=rd_new (w:=wA) (W:=(wA).alloc (.cells #[.int .u8 48] 5 (0,0))) (s:=[48]) rfl rfl;simpa using this)
      go_wp2_with (at_builtin;refine wpList_apRow rfl _ _ rfl (B:=w1.heap.size) _ ((Q++[101])++[43]) [48] wA.heap.size 0 1 rfl rfl hR3.out (hrA.out.push rfl) (by have:=hFA.out.size;simp at this ⊢;omega) hlen.out ?_)
      intro vC wC hrC hgC;have hFC:Fr [] w1 wC:=Fr.grown (hFA.out.alloc _) hgC (fun k hk=> .inr (World.ownsRow.lt hrA.out k hk).1)
      obtain ⟨aoC,mC,cC,rfl⟩:=hrC.shape;have hrD:Row wC w1.heap.size (.slice aoC mC cC) (Q++[101,43,48]):=by simpa using hrC
      clear hrC;have ht:=row_str hrD;have hk: ∀W,Fr [] wC W→(convert 59 9 (.slice aoC mC cC)).run Tryz.prog W= .ok (.string ⟨(Q++[101,43,48]).toArray⟩) W:=fun W F=>row_str (hrD.fr F (by simp))
      replace hk:=Hz hk;have hq1: ¬9223372036854775807<(Q++[101,43,48]).length+(dec E).length:=by simp;omega
      have hq2: ¬9223372036854775807<Q.length+(0+1+1+1)+(dec E).length:=by omega
      have hq3: ¬9223372036854775807<Q.length+3+(dec E).length:=by omega
      have hq4:Q.length+3+(dec E).length≤9223372036854775807:=by omega
      have hq5: ¬(9223372036854775807:Int)<(Q.length:Int)+3+((dec E).length:Int):=by omega
      have hq6:(Q.length:Int)+3+((dec E).length:Int)≤9223372036854775807:=by omega
      go_wp2
      go_region_held3 (fun w'=>(convert 59 9 (.slice aoC mC cC)).run Tryz.prog w'= .ok (.string ⟨(Q++[101,43,48]).toArray⟩) w') (first|exact hk.out _ ((Fr.refl [] _).drew)|exact hk.out _ (((Fr.refl [] _).drew).trans hfI)|exact hk.out _ ((((Fr.refl [] _).drew).trans hfI).drew)|exact ht)
       (first|(go_at_call 116;refine (KI.out _).mono ?_;rintro e wI ⟨rfl,hfI⟩))
      go_wp2;go_ret
      refine ⟨?_,by first|exact (hFC.trans hfI).drewN _|exact hFC.trans hfI|exact (hFC.drewN _).trans hfI|exact (hFC.drew).trans hfI|exact ((hFC.drew).trans hfI).drew⟩
      rw [hE0.out,e45.out,if_pos h10];rw [if_neg hp0.out,hQ.out];simp [mk_append]
     ·have t10: ¬(E:Int)<10:=by omega
      have ht:=row_str hrA.out;have hk: ∀W,Fr [] (wA) W→(convert 59 9 (.slice aoA (K+1) cA)).run Tryz.prog W= .ok (.string ⟨((Q++[101])++[43]).toArray⟩) W:=fun W F=>row_str (hrA.out.fr F (by simp))
      replace hk:=Hz hk;have hq1: ¬9223372036854775807<((Q++[101])++[43]).length+(dec E).length:=by simp;omega
      have hq2: ¬9223372036854775807<Q.length+1+1+(dec E).length:=by omega
      have hq3: ¬9223372036854775807<Q.length+2+(dec E).length:=by omega
      have hq4:Q.length+2+(dec E).length≤9223372036854775807:=by omega
      have hq5: ¬(9223372036854775807:Int)<(Q.length:Int)+2+((dec E).length:Int):=by omega
      have hq6:(Q.length:Int)+2+((dec E).length:Int)≤9223372036854775807:=by omega
      have hq7:(Q.length:Int)+1+1+((dec E).length:Int)≤9223372036854775807:=by omega
      have hq8: ¬(9223372036854775807:Int)<(Q.length:Int)+1+1+((dec E).length:Int):=by omega
      go_wp2
      go_region_held3 (fun w'=>(convert 59 9 (.slice aoA (K+1) cA)).run Tryz.prog w'= .ok (.string ⟨((Q++[101])++[43]).toArray⟩) w') (first|exact hk.out _ ((Fr.refl [] _).drew)|exact hk.out _ (((Fr.refl [] _).drew).trans hfI)|exact hk.out _ ((((Fr.refl [] _).drew).trans hfI).drew)|exact ht)
       (first|(go_at_call 116;refine (KI.out _).mono ?_;rintro e wI ⟨rfl,hfI⟩))
      go_wp2;go_ret
      refine ⟨?_,by first|exact (hFA.out.trans hfI).drewN _|exact hFA.out.trans hfI|exact (hFA.out.drewN _).trans hfI|exact (hFA.out.drew).trans hfI|exact ((hFA.out.drew).trans hfI).drew⟩
      rw [hE0.out,e45.out,if_neg h10];rw [if_neg hp0.out,hQ.out];simp [mk_append]
end
end Go.Proofs.YteodinhkhhaafaaGreatDoor
