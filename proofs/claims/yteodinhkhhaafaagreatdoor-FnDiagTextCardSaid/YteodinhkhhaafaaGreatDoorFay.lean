/- Walks of the program, and plain facts. -/
import Derived.Test.YteodinhkhhaafaaGreatDoorFax
set_option linter.unusedVariables false
set_option linter.unusedSimpArgs false
set_option maxRecDepth 100000
set_option maxHeartbeats 6400000
namespace Go.Proofs.YteodinhkhhaafaaGreatDoor
section
set_option exponentiation.threshold 3000
open Go.RowKit
def loD (m:Nat) (e:Int) (low:Bool):List Nat×Int:=if low then digs (4*m-1) (e-2) else digs (2*m-1) (e-1)
def hiD (m:Nat) (e:Int):List Nat×Int:=digs (2*m+1) (e-1)
def shortR (m:Nat) (e:Int) (low:Bool):List Nat×Int:=
 if m=0 then digs m e else shortL (digs m e).1 (digs m e).2 (dV (loD m e low).1 (loD m e low).2) (dV (hiD m e).1 (hiD m e).2) (m%2==0) (digs m e).1.length 0
theorem cmp_in {x y:Nat} {c:Int} (h:CmpV x y c) (b:Bool):decide (c<(if b then (1:Int) else 0))=inE b x y:=by
 unfold inE;rcases h with ⟨h1,h2⟩|⟨h1,h2⟩|⟨h1,h2⟩<;>cases b<;>simp<;>omega
theorem down_b {d:List Nat} {dp:Int} (h:NormD d dp) (la: -1100≤dp-d.length) (hl:d.length≤2000) (hh:dp≤1000) (n:Nat):NormD (downF d dp n).1 (downF d dp n).2∧ -1100≤(downF d dp n).2-(downF d dp n).1.length∧(downF d dp n).1.length≤100000∧(downF d dp n).2≤100000:=by
 obtain ⟨a,b,c,e⟩:=down_spec h la n;refine ⟨a,?_,by omega,?_⟩
 all_goals by_cases h0:(downF d dp n).1=[]
 ·rw [h0,a.nil h0];simp
 ·rw [e h0];omega
 ·rw [a.nil h0];omega
 ·rw [e h0];omega
theorem up_b {d:List Nat} {dp:Int} (h:NormD d dp) (la: -1100≤dp-d.length) (hl:d.length≤2000) (hh:dp≤1000) (n:Nat) (hn:n<d.length):NormD (upF d dp n).1 (upF d dp n).2∧ -1100≤(upF d dp n).2-(upF d dp n).1.length∧(upF d dp n).1.length≤100000∧(upF d dp n).2≤100000:=by
 obtain ⟨a,b,c,e⟩:=up_spec h la n hn;refine ⟨a,e,by omega,?_⟩
 unfold upF;rw [if_neg (by omega)]
 cases lastUp d n
 ·show dp+1≤100000;omega
 ·show dp≤100000;omega
theorem shortD {w:World} {p m:Nat} {ex eb bias MB:Int} (low:Bool) (hf:(MB=23∧bias= -127∧low=(decide (m=8388608)&&decide (-126<ex)))∨(MB=52∧bias= -1023∧low=(decide (m=4503599627370496)&&decide (-1022<ex)))) (hm:m<18014398509481984) (he1: -1030≤ex) (he2:ex≤1100) (h:DecP w p (digs m (ex-MB)).1 (digs m (ex-MB)).2) (hB:DigB m (ex-MB) (digs m (ex-MB))):
  Calls Tryz.prog 211 #[.pointer (some ⟨p,0,none⟩),.int .u64 (m:Int),.int .i64 ex,.agg #[.int .i64 MB,.int .i64 eb,.int .i64 bias]] w (DecO w p (shortR m (ex-MB) low)):=by
 by_cases hm0:m=0
 ·subst hm0;have e1:shortR 0 (ex-MB) low=digs 0 (ex-MB):=if_pos rfl;rw [e1];replace hf:=Hz hf;go_enter Tryz.func211,Tryz.ntmps211
  go_wp2;go_ret
  exact ⟨p,rfl,h.fr ((Fr.refl [] w).alloc _),(Fr.refl [] w).alloc _⟩
 ·have e1:Hid (shortR m (ex-MB) low=shortL (digs m (ex-MB)).1 (digs m (ex-MB)).2 (dV (loD m (ex-MB) low).1 (loD m (ex-MB) low).2) (dV (hiD m (ex-MB)).1 (hiD m (ex-MB)).2) (m%2==0) (digs m (ex-MB)).1.length 0):=Hz (if_neg hm0);have a1:IntKind.u64.wrap (2*(m:Int))=2*(m:Int):=IntWalk.u64_in _ (by omega)
  have a2:IntKind.u64.wrap (2*(m:Int)+1)=2*(m:Int)+1:=IntWalk.u64_in _ (by omega)
  have a3:IntKind.u64.wrap (2*(m:Int)-1)=2*(m:Int)-1:=IntWalk.u64_in _ (by omega)
  have a4:IntKind.u64.wrap (4*(m:Int))=4*(m:Int):=IntWalk.u64_in _ (by omega)
  have a5:IntKind.u64.wrap (4*(m:Int)-1)=4*(m:Int)-1:=IntWalk.u64_in _ (by omega)
  have K1:=Hz (fun W=>(by have:=newD W (2*m+1) (by omega);rwa [show ((2*m+1:Nat):Int)=2*(m:Int)+1 by omega] at this:Calls Tryz.prog 209 #[.int .u64 (2*(m:Int)+1)] W (NewP W (2*m+1))))
  have K2:=Hz (fun W=>(by have:=newD W (2*m-1) (by omega);rwa [show ((2*m-1:Nat):Int)=2*(m:Int)-1 by omega] at this:Calls Tryz.prog 209 #[.int .u64 (2*(m:Int)-1)] W (NewP W (2*m-1))))
  have K4:=Hz (fun W=>(by have:=newD W (4*m-1) (by omega);rwa [show ((4*m-1:Nat):Int)=4*(m:Int)-1 by omega] at this:Calls Tryz.prog 209 #[.int .u64 (4*(m:Int)-1)] W (NewP W (4*m-1))))
  obtain ⟨pb,hpb⟩: ∃b,b=(m%2==0):=⟨_,rfl⟩;have t0: ¬(m:Int)=0:=by omega
  have tp:((m:Int)%2==0)=pb:=by
   rw [hpb];rcases Nat.mod_two_eq_zero_or_one m with e|e
   ·rw [e,show ((m:Int)%2)=0 by omega];rfl
   ·rw [e,show ((m:Int)%2)=1 by omega];rfl
  rw [←hpb] at e1;replace hpb:=Hz hpb;have hbo:(w.alloc (.cells #[.int .i64 MB,.int .i64 eb,.int .i64 bias] 323 (0,0))).heap[w.heap.size]? =some (.cells #[.int .i64 MB,.int .i64 eb,.int .i64 bias] 323 (0,0)):=blk_new w _;replace hbo:=Hz hbo;rcases hf with hf|hf
  ·obtain ⟨rfl,rfl,hlow⟩:=hf;have s1:IntKind.i64.wrap (ex-23)=ex-23:=IntWalk.i64_in _ (by omega)
   have s2:IntKind.i64.wrap (ex-23-1)=ex-23-1:=IntWalk.i64_in _ (by omega)
   have s3:IntKind.i64.wrap (ex-23-2)=ex-23-2:=IntWalk.i64_in _ (by omega)
   replace hlow:=Hz hlow;go_enter Tryz.func211,Tryz.ntmps211
   go_wp2_with fail
   refine (K1.out _).mono ?_
   rintro e w1 ⟨q1,d1,p1,rfl,hD1,hN1,hV1,hL1,hlo1,hhi1,hq1,hF1⟩;have hb1:=hF1.blk hbo.out (by simp)
   have o0:=cell_blk hb1 0;simp only [List.getElem?_toArray,List.getElem?_cons_zero] at o0;go_wp2_with fail
   refine (shiftD hD1 hN1 hV1 hL1 hlo1 hhi1 (ex-23-1) (by omega) (by omega)).mono ?_
   rintro e w2 ⟨u,rfl,hD2,hB2,hF2⟩;have F02:Fr [] w w2:=(((Fr.refl [] w).alloc _).trans hF1).then_ hF2 (by intro k hk;right;simp at hk;subst hk;simp at hq1;omega)
   have hb2:=hF2.blk hb1 (by simp;intro e;simp at hq1;omega)
   go_wp2_with fail
   refine (K2.out _).mono ?_
   rintro e w3 ⟨q3,d3,p3,rfl,hD3,hN3,hV3,hL3,hlo3,hhi3,hq3,hF3⟩;have hb3:=hF3.blk hb2 (by simp)
   have o03:=cell_blk hb3 0;simp only [List.getElem?_toArray,List.getElem?_cons_zero] at o03;go_wp2_with fail
   refine (shiftD hD3 hN3 hV3 hL3 hlo3 hhi3 (ex-23-1) (by omega) (by omega)).mono ?_
   rintro e w4 ⟨u4,rfl,hD4,hB4,hF4⟩;have F24:Fr [] w2 w4:=hF3.then_ hF4 (by intro k hk;right;simp at hk;omega)
   have F04:=F02.trans F24;have hb4:=F24.blk hb2 (by simp)
   have o04:=cell_blk hb4 0;have o24:=cell_blk hb4 2;simp only [List.getElem?_toArray,List.getElem?_cons_zero,List.getElem?_cons_succ] at o04 o24;have hU:=hD2.fr F24;have hd:=h.fr F04;by_cases c1:m=8388608
   ·by_cases c2: -126<ex
    ·have hl:low=true:=by rw [hlow.out];simp [c1,c2]
     subst hl;have u1:((m:Int)==8388608)=true:=by simp;omega
     have u2: -126<ex:=c2;clear c1 c2 hlow;go_wp2_with fail
     refine (K4.out _).mono ?_
     rintro e w5 ⟨q5,d5,p5,rfl,hD5,hN5,hV5,hL5,hlo5,hhi5,hq5,hF5⟩;have hb5:=hF5.blk hb4 (by simp)
     have o05:=cell_blk hb5 0;simp only [List.getElem?_toArray,List.getElem?_cons_zero] at o05;go_wp2_with fail
     refine (shiftD hD5 hN5 hV5 hL5 hlo5 hhi5 (ex-23-2) (by omega) (by omega)).mono ?_
     rintro e wL ⟨u5,rfl,hDL,hBL,hF6⟩;have F4L:Fr [] w4 wL:=hF5.then_ hF6 (by intro k hk;right;simp at hk;omega)
     have FL:=F04.trans F4L;replace hU:=hU.fr F4L;replace hd:=hd.fr F4L;cases pb
     ·have hN:=hB.norm;have hla:=hB.la;have hln:=hB.len;have hhi:=hB.hi;have hlo:=hB.lo;have hNL:=hBL.norm;have hlaL:=hBL.la;have hlnL:=hBL.len;have hhiL:=hBL.hi;have hNU:=hB2.norm;have hlaU:=hB2.la;have hlnU:=hB2.len;have hhiU:=hB2.hi;have e2:Hid (shortR m (ex-23) true=shortL (digs m (ex-23)).1 (digs m (ex-23)).2 (dV (digs (4*m-1) (ex-23-2)).1 (digs (4*m-1) (ex-23-2)).2) (dV (digs (2*m+1) (ex-23-1)).1 (digs (2*m+1) (ex-23-1)).2) false (digs m (ex-23)).1.length 0):=e1;clear e1;generalize (digs (4*m-1) (ex-23-2))=lr at *
      generalize (digs (2*m+1) (ex-23-1))=hr at *
      generalize digs m (ex-23)=r at *
      generalize shortR m (ex-23) true=RR at *
      obtain ⟨d,dp⟩:=r;obtain ⟨dl,pl⟩:=lr;obtain ⟨du,pu⟩:=hr;dsimp only at *
      replace hN:=Hz hN;replace hNL:=Hz hNL;replace hNU:=Hz hNU;replace hd:=Hz hd;replace hDL:=Hz hDL;replace hU:=Hz hU;replace FL:=Hz FL;clear hD1 hN1 hV1 hD2 hD3 hN3 hV3 hD4 h hB hBL hB2 hB4 hb1 hb2 hb3 hb4 hF1 hF2 hF3 hF4 F02 F24 F04 K1 K2 K4;go_wp2
      go_loopg [12] d.length (fun gk v12 wr=> ∃i:Nat,v12= .int .i64 (i:Int)∧i+gk=d.length∧Hid (RR=shortL d dp (dV dl pl) (dV du pu) false gk i)∧Hid (Fr [] wL wr))
      case atStart=>exact ⟨0,by go_num,by omega,e2,Hz (Fr.refl _ _)⟩
      case round=>
       obtain ⟨i,rfl,hig,hS,hF⟩:=hrel;have hdw:=hd.out.fr hF.out;obtain ⟨ao,cc,c0,_,_,_⟩:=hdw.cells hN.out.lt;by_cases hi:i<d.length
       ·obtain ⟨g,rfl⟩: ∃g,gk=g+1:=⟨gk-1,by omega⟩
        have t1:(i:Int)<(d.length:Int):=by omega
        obtain ⟨xd1,xd2,xd3,xd4⟩:=down_b hN.out hla hln hhi i;obtain ⟨xu1,xu2,xu3,xu4⟩:=up_b hN.out hla hln hhi i hi;have KD:=Hz (downD hdw hN.out (by omega) i (by omega))
        replace hdw:=Hz hdw;rw [shortL] at hS;go_wp2_with fail
        refine KD.out.mono ?_
        rintro e wA ⟨qa,rfl,hA,hFA⟩;go_wp2_with fail
        refine (upD (hdw.out.fr hFA) hN.out (by omega) (by omega) (by omega) i (by omega)).mono ?_
        rintro e wB ⟨qb,rfl,hBd,hFB⟩;have hFAB:=hFA.trans hFB;have hA2:=hA.fr hFB;go_wp2_with fail
        refine (cmpD (hDL.out.fr (hF.out.trans hFAB)) hA2 hNL.out xd1 hlaL xd2 (by omega) xd4 (by omega) xd3).mono ?_
        rintro e wC ⟨ca,rfl,hca,ka,rfl⟩;have x1:=cmp_in hca false;go_wp2_with fail
        refine (cmpD (hBd.fr ((Fr.refl [] _).drewN ka)) (hU.out.fr ((hF.out.trans hFAB).drewN ka)) xu1 hNU.out xu2 hlaU xu4 (by omega) xu3 (by omega)).mono ?_
        rintro e wD ⟨cb,rfl,hcb,kb,rfl⟩;have x2:=cmp_in hcb false;simp only [if_true,Bool.false_eq_true,if_false] at x1 x2;have FW:Fr [] wr (wB.drewN (ka+kb)):=hFAB.drewN (ka+kb);cases hx1:inE false (dV dl pl) (dV (downF d dp i).1 (downF d dp i).2)
        all_goals cases hx2:inE false (dV (upF d dp i).1 (upF d dp i).2) (dV du pu)
        all_goals rw [hx1] at x1 hS
        all_goals rw [hx2] at x2 hS
        all_goals simp only [if_true,Bool.false_eq_true,if_false] at hS
        ·go_wp2
         go_roundg g
         case measure=>omega
         case rel=>exact ⟨i+1,by go_num,by omega,hS,Hz (hF.out.trans FW)⟩
        ·go_wp2;go_ret
         exact ⟨qb,rfl,by rw [hS.out];exact hBd.fr ((Fr.refl [] _).drewN (ka+kb)),(FL.out.trans hF.out).trans FW⟩
        ·go_wp2;go_ret
         exact ⟨qa,rfl,by rw [hS.out];exact hA2.fr ((Fr.refl [] _).drewN (ka+kb)),(FL.out.trans hF.out).trans FW⟩
        ·go_wp2_with fail
         refine (roundD (hdw.out.fr FW) hN.out (by omega) (by omega) (by omega) i (by omega)).mono ?_
         rintro e wE ⟨qe,rfl,hE,hFE⟩;go_wp2;go_ret
         exact ⟨qe,rfl,by rw [hS.out];exact hE,((FL.out.trans hF.out).trans FW).trans hFE⟩
       ·have t1: ¬(i:Int)<(d.length:Int):=by omega
        have hg0:gk=0:=by omega
        subst hg0;rw [shortL] at hS;replace hdw:=Hz hdw;go_wp2;go_ret
        exact ⟨p,rfl,by rw [hS.out];exact hdw.out,FL.out.trans hF.out⟩
     ·have hN:=hB.norm;have hla:=hB.la;have hln:=hB.len;have hhi:=hB.hi;have hlo:=hB.lo;have hNL:=hBL.norm;have hlaL:=hBL.la;have hlnL:=hBL.len;have hhiL:=hBL.hi;have hNU:=hB2.norm;have hlaU:=hB2.la;have hlnU:=hB2.len;have hhiU:=hB2.hi;have e2:Hid (shortR m (ex-23) true=shortL (digs m (ex-23)).1 (digs m (ex-23)).2 (dV (digs (4*m-1) (ex-23-2)).1 (digs (4*m-1) (ex-23-2)).2) (dV (digs (2*m+1) (ex-23-1)).1 (digs (2*m+1) (ex-23-1)).2) true (digs m (ex-23)).1.length 0):=e1;clear e1;generalize (digs (4*m-1) (ex-23-2))=lr at *
      generalize (digs (2*m+1) (ex-23-1))=hr at *
      generalize digs m (ex-23)=r at *
      generalize shortR m (ex-23) true=RR at *
      obtain ⟨d,dp⟩:=r;obtain ⟨dl,pl⟩:=lr;obtain ⟨du,pu⟩:=hr;dsimp only at *
      replace hN:=Hz hN;replace hNL:=Hz hNL;replace hNU:=Hz hNU;replace hd:=Hz hd;replace hDL:=Hz hDL;replace hU:=Hz hU;replace FL:=Hz FL;clear hD1 hN1 hV1 hD2 hD3 hN3 hV3 hD4 h hB hBL hB2 hB4 hb1 hb2 hb3 hb4 hF1 hF2 hF3 hF4 F02 F24 F04 K1 K2 K4;go_wp2
      go_loopg [12] d.length (fun gk v12 wr=> ∃i:Nat,v12= .int .i64 (i:Int)∧i+gk=d.length∧Hid (RR=shortL d dp (dV dl pl) (dV du pu) true gk i)∧Hid (Fr [] wL wr))
      case atStart=>exact ⟨0,by go_num,by omega,e2,Hz (Fr.refl _ _)⟩
      case round=>
       obtain ⟨i,rfl,hig,hS,hF⟩:=hrel;have hdw:=hd.out.fr hF.out;obtain ⟨ao,cc,c0,_,_,_⟩:=hdw.cells hN.out.lt;by_cases hi:i<d.length
       ·obtain ⟨g,rfl⟩: ∃g,gk=g+1:=⟨gk-1,by omega⟩
        have t1:(i:Int)<(d.length:Int):=by omega
        obtain ⟨xd1,xd2,xd3,xd4⟩:=down_b hN.out hla hln hhi i;obtain ⟨xu1,xu2,xu3,xu4⟩:=up_b hN.out hla hln hhi i hi;have KD:=Hz (downD hdw hN.out (by omega) i (by omega))
        replace hdw:=Hz hdw;rw [shortL] at hS;go_wp2_with fail
        refine KD.out.mono ?_
        rintro e wA ⟨qa,rfl,hA,hFA⟩;go_wp2_with fail
        refine (upD (hdw.out.fr hFA) hN.out (by omega) (by omega) (by omega) i (by omega)).mono ?_
        rintro e wB ⟨qb,rfl,hBd,hFB⟩;have hFAB:=hFA.trans hFB;have hA2:=hA.fr hFB;go_wp2_with fail
        refine (cmpD (hDL.out.fr (hF.out.trans hFAB)) hA2 hNL.out xd1 hlaL xd2 (by omega) xd4 (by omega) xd3).mono ?_
        rintro e wC ⟨ca,rfl,hca,ka,rfl⟩;have x1:=cmp_in hca true;go_wp2_with fail
        refine (cmpD (hBd.fr ((Fr.refl [] _).drewN ka)) (hU.out.fr ((hF.out.trans hFAB).drewN ka)) xu1 hNU.out xu2 hlaU xu4 (by omega) xu3 (by omega)).mono ?_
        rintro e wD ⟨cb,rfl,hcb,kb,rfl⟩;have x2:=cmp_in hcb true;simp only [if_true,Bool.false_eq_true,if_false] at x1 x2;have FW:Fr [] wr (wB.drewN (ka+kb)):=hFAB.drewN (ka+kb);cases hx1:inE true (dV dl pl) (dV (downF d dp i).1 (downF d dp i).2)
        all_goals cases hx2:inE true (dV (upF d dp i).1 (upF d dp i).2) (dV du pu)
        all_goals rw [hx1] at x1 hS
        all_goals rw [hx2] at x2 hS
        all_goals simp only [if_true,Bool.false_eq_true,if_false] at hS
        ·go_wp2
         go_roundg g
         case measure=>omega
         case rel=>exact ⟨i+1,by go_num,by omega,hS,Hz (hF.out.trans FW)⟩
        ·go_wp2;go_ret
         exact ⟨qb,rfl,by rw [hS.out];exact hBd.fr ((Fr.refl [] _).drewN (ka+kb)),(FL.out.trans hF.out).trans FW⟩
        ·go_wp2;go_ret
         exact ⟨qa,rfl,by rw [hS.out];exact hA2.fr ((Fr.refl [] _).drewN (ka+kb)),(FL.out.trans hF.out).trans FW⟩
        ·go_wp2_with fail
         refine (roundD (hdw.out.fr FW) hN.out (by omega) (by omega) (by omega) i (by omega)).mono ?_
         rintro e wE ⟨qe,rfl,hE,hFE⟩;go_wp2;go_ret
         exact ⟨qe,rfl,by rw [hS.out];exact hE,((FL.out.trans hF.out).trans FW).trans hFE⟩
       ·have t1: ¬(i:Int)<(d.length:Int):=by omega
        have hg0:gk=0:=by omega
        subst hg0;rw [shortL] at hS;replace hdw:=Hz hdw;go_wp2;go_ret
        exact ⟨p,rfl,by rw [hS.out];exact hdw.out,FL.out.trans hF.out⟩
    ·have hl:low=false:=by rw [hlow.out];simp [c2]
     subst hl;have u1:((m:Int)==8388608)=true:=by simp;omega
     have u2: ¬ -126<ex:=c2;have hDL:=hD4;have hBL:=hB4;have FL:=F04;clear c1 c2 hlow;cases pb
     ·have hN:=hB.norm;have hla:=hB.la;have hln:=hB.len;have hhi:=hB.hi;have hlo:=hB.lo;have hNL:=hBL.norm;have hlaL:=hBL.la;have hlnL:=hBL.len;have hhiL:=hBL.hi;have hNU:=hB2.norm;have hlaU:=hB2.la;have hlnU:=hB2.len;have hhiU:=hB2.hi;have e2:Hid (shortR m (ex-23) false=shortL (digs m (ex-23)).1 (digs m (ex-23)).2 (dV (digs (2*m-1) (ex-23-1)).1 (digs (2*m-1) (ex-23-1)).2) (dV (digs (2*m+1) (ex-23-1)).1 (digs (2*m+1) (ex-23-1)).2) false (digs m (ex-23)).1.length 0):=e1;clear e1;generalize (digs (2*m-1) (ex-23-1))=lr at *
      generalize (digs (2*m+1) (ex-23-1))=hr at *
      generalize digs m (ex-23)=r at *
      generalize shortR m (ex-23) false=RR at *
      obtain ⟨d,dp⟩:=r;obtain ⟨dl,pl⟩:=lr;obtain ⟨du,pu⟩:=hr;dsimp only at *
      replace hN:=Hz hN;replace hNL:=Hz hNL;replace hNU:=Hz hNU;replace hd:=Hz hd;replace hDL:=Hz hDL;replace hU:=Hz hU;replace FL:=Hz FL;clear hD1 hN1 hV1 hD2 hD3 hN3 hV3 hD4 h hB hBL hB2 hB4 hb1 hb2 hb3 hb4 hF1 hF2 hF3 hF4 F02 F24 F04 K1 K2 K4;go_wp2
      go_loopg [12] d.length (fun gk v12 wr=> ∃i:Nat,v12= .int .i64 (i:Int)∧i+gk=d.length∧Hid (RR=shortL d dp (dV dl pl) (dV du pu) false gk i)∧Hid (Fr [] w4 wr))
      case atStart=>exact ⟨0,by go_num,by omega,e2,Hz (Fr.refl _ _)⟩
      case round=>
       obtain ⟨i,rfl,hig,hS,hF⟩:=hrel;have hdw:=hd.out.fr hF.out;obtain ⟨ao,cc,c0,_,_,_⟩:=hdw.cells hN.out.lt;by_cases hi:i<d.length
       ·obtain ⟨g,rfl⟩: ∃g,gk=g+1:=⟨gk-1,by omega⟩
        have t1:(i:Int)<(d.length:Int):=by omega
        obtain ⟨xd1,xd2,xd3,xd4⟩:=down_b hN.out hla hln hhi i;obtain ⟨xu1,xu2,xu3,xu4⟩:=up_b hN.out hla hln hhi i hi;have KD:=Hz (downD hdw hN.out (by omega) i (by omega))
        replace hdw:=Hz hdw;rw [shortL] at hS;go_wp2_with fail
        refine KD.out.mono ?_
        rintro e wA ⟨qa,rfl,hA,hFA⟩;go_wp2_with fail
        refine (upD (hdw.out.fr hFA) hN.out (by omega) (by omega) (by omega) i (by omega)).mono ?_
        rintro e wB ⟨qb,rfl,hBd,hFB⟩;have hFAB:=hFA.trans hFB;have hA2:=hA.fr hFB;go_wp2_with fail
        refine (cmpD (hDL.out.fr (hF.out.trans hFAB)) hA2 hNL.out xd1 hlaL xd2 (by omega) xd4 (by omega) xd3).mono ?_
        rintro e wC ⟨ca,rfl,hca,ka,rfl⟩;have x1:=cmp_in hca false;go_wp2_with fail
        refine (cmpD (hBd.fr ((Fr.refl [] _).drewN ka)) (hU.out.fr ((hF.out.trans hFAB).drewN ka)) xu1 hNU.out xu2 hlaU xu4 (by omega) xu3 (by omega)).mono ?_
        rintro e wD ⟨cb,rfl,hcb,kb,rfl⟩;have x2:=cmp_in hcb false;simp only [if_true,Bool.false_eq_true,if_false] at x1 x2;have FW:Fr [] wr (wB.drewN (ka+kb)):=hFAB.drewN (ka+kb);cases hx1:inE false (dV dl pl) (dV (downF d dp i).1 (downF d dp i).2)
        all_goals cases hx2:inE false (dV (upF d dp i).1 (upF d dp i).2) (dV du pu)
        all_goals rw [hx1] at x1 hS
        all_goals rw [hx2] at x2 hS
        all_goals simp only [if_true,Bool.false_eq_true,if_false] at hS
        ·go_wp2
         go_roundg g
         case measure=>omega
         case rel=>exact ⟨i+1,by go_num,by omega,hS,Hz (hF.out.trans FW)⟩
        ·go_wp2;go_ret
         exact ⟨qb,rfl,by rw [hS.out];exact hBd.fr ((Fr.refl [] _).drewN (ka+kb)),(FL.out.trans hF.out).trans FW⟩
        ·go_wp2;go_ret
         exact ⟨qa,rfl,by rw [hS.out];exact hA2.fr ((Fr.refl [] _).drewN (ka+kb)),(FL.out.trans hF.out).trans FW⟩
        ·go_wp2_with fail
         refine (roundD (hdw.out.fr FW) hN.out (by omega) (by omega) (by omega) i (by omega)).mono ?_
         rintro e wE ⟨qe,rfl,hE,hFE⟩;go_wp2;go_ret
         exact ⟨qe,rfl,by rw [hS.out];exact hE,((FL.out.trans hF.out).trans FW).trans hFE⟩
       ·have t1: ¬(i:Int)<(d.length:Int):=by omega
        have hg0:gk=0:=by omega
        subst hg0;rw [shortL] at hS;replace hdw:=Hz hdw;go_wp2;go_ret
        exact ⟨p,rfl,by rw [hS.out];exact hdw.out,FL.out.trans hF.out⟩
     ·have hN:=hB.norm;have hla:=hB.la;have hln:=hB.len;have hhi:=hB.hi;have hlo:=hB.lo;have hNL:=hBL.norm;have hlaL:=hBL.la;have hlnL:=hBL.len;have hhiL:=hBL.hi;have hNU:=hB2.norm;have hlaU:=hB2.la;have hlnU:=hB2.len;have hhiU:=hB2.hi;have e2:Hid (shortR m (ex-23) false=shortL (digs m (ex-23)).1 (digs m (ex-23)).2 (dV (digs (2*m-1) (ex-23-1)).1 (digs (2*m-1) (ex-23-1)).2) (dV (digs (2*m+1) (ex-23-1)).1 (digs (2*m+1) (ex-23-1)).2) true (digs m (ex-23)).1.length 0):=e1;clear e1;generalize (digs (2*m-1) (ex-23-1))=lr at *
      generalize (digs (2*m+1) (ex-23-1))=hr at *
      generalize digs m (ex-23)=r at *
      generalize shortR m (ex-23) false=RR at *
      obtain ⟨d,dp⟩:=r;obtain ⟨dl,pl⟩:=lr;obtain ⟨du,pu⟩:=hr;dsimp only at *
      replace hN:=Hz hN;replace hNL:=Hz hNL;replace hNU:=Hz hNU;replace hd:=Hz hd;replace hDL:=Hz hDL;replace hU:=Hz hU;replace FL:=Hz FL;clear hD1 hN1 hV1 hD2 hD3 hN3 hV3 hD4 h hB hBL hB2 hB4 hb1 hb2 hb3 hb4 hF1 hF2 hF3 hF4 F02 F24 F04 K1 K2 K4;go_wp2
      go_loopg [12] d.length (fun gk v12 wr=> ∃i:Nat,v12= .int .i64 (i:Int)∧i+gk=d.length∧Hid (RR=shortL d dp (dV dl pl) (dV du pu) true gk i)∧Hid (Fr [] w4 wr))
      case atStart=>exact ⟨0,by go_num,by omega,e2,Hz (Fr.refl _ _)⟩
      case round=>
       obtain ⟨i,rfl,hig,hS,hF⟩:=hrel;have hdw:=hd.out.fr hF.out;obtain ⟨ao,cc,c0,_,_,_⟩:=hdw.cells hN.out.lt;by_cases hi:i<d.length
       ·obtain ⟨g,rfl⟩: ∃g,gk=g+1:=⟨gk-1,by omega⟩
        have t1:(i:Int)<(d.length:Int):=by omega
        obtain ⟨xd1,xd2,xd3,xd4⟩:=down_b hN.out hla hln hhi i;obtain ⟨xu1,xu2,xu3,xu4⟩:=up_b hN.out hla hln hhi i hi;have KD:=Hz (downD hdw hN.out (by omega) i (by omega))
        replace hdw:=Hz hdw;rw [shortL] at hS;go_wp2_with fail
        refine KD.out.mono ?_
        rintro e wA ⟨qa,rfl,hA,hFA⟩;go_wp2_with fail
        refine (upD (hdw.out.fr hFA) hN.out (by omega) (by omega) (by omega) i (by omega)).mono ?_
        rintro e wB ⟨qb,rfl,hBd,hFB⟩;have hFAB:=hFA.trans hFB;have hA2:=hA.fr hFB;go_wp2_with fail
        refine (cmpD (hDL.out.fr (hF.out.trans hFAB)) hA2 hNL.out xd1 hlaL xd2 (by omega) xd4 (by omega) xd3).mono ?_
        rintro e wC ⟨ca,rfl,hca,ka,rfl⟩;have x1:=cmp_in hca true;go_wp2_with fail
        refine (cmpD (hBd.fr ((Fr.refl [] _).drewN ka)) (hU.out.fr ((hF.out.trans hFAB).drewN ka)) xu1 hNU.out xu2 hlaU xu4 (by omega) xu3 (by omega)).mono ?_
        rintro e wD ⟨cb,rfl,hcb,kb,rfl⟩;have x2:=cmp_in hcb true;simp only [if_true,Bool.false_eq_true,if_false] at x1 x2;have FW:Fr [] wr (wB.drewN (ka+kb)):=hFAB.drewN (ka+kb);cases hx1:inE true (dV dl pl) (dV (downF d dp i).1 (downF d dp i).2)
        all_goals cases hx2:inE true (dV (upF d dp i).1 (upF d dp i).2) (dV du pu)
        all_goals rw [hx1] at x1 hS
        all_goals rw [hx2] at x2 hS
        all_goals simp only [if_true,Bool.false_eq_true,if_false] at hS
        ·go_wp2
         go_roundg g
         case measure=>omega
         case rel=>exact ⟨i+1,by go_num,by omega,hS,Hz (hF.out.trans FW)⟩
        ·go_wp2;go_ret
         exact ⟨qb,rfl,by rw [hS.out];exact hBd.fr ((Fr.refl [] _).drewN (ka+kb)),(FL.out.trans hF.out).trans FW⟩
        ·go_wp2;go_ret
         exact ⟨qa,rfl,by rw [hS.out];exact hA2.fr ((Fr.refl [] _).drewN (ka+kb)),(FL.out.trans hF.out).trans FW⟩
        ·go_wp2_with fail
         refine (roundD (hdw.out.fr FW) hN.out (by omega) (by omega) (by omega) i (by omega)).mono ?_
         rintro e wE ⟨qe,rfl,hE,hFE⟩;go_wp2;go_ret
         exact ⟨qe,rfl,by rw [hS.out];exact hE,((FL.out.trans hF.out).trans FW).trans hFE⟩
       ·have t1: ¬(i:Int)<(d.length:Int):=by omega
        have hg0:gk=0:=by omega
        subst hg0;rw [shortL] at hS;replace hdw:=Hz hdw;go_wp2;go_ret
        exact ⟨p,rfl,by rw [hS.out];exact hdw.out,FL.out.trans hF.out⟩
   ·have hl:low=false:=by rw [hlow.out];simp [c1]
    subst hl;have u1:((m:Int)==8388608)=false:=by simp;omega
    have hDL:=hD4;have hBL:=hB4;have FL:=F04;clear c1 hlow;cases pb
    ·have hN:=hB.norm;have hla:=hB.la;have hln:=hB.len;have hhi:=hB.hi;have hlo:=hB.lo;have hNL:=hBL.norm;have hlaL:=hBL.la;have hlnL:=hBL.len;have hhiL:=hBL.hi;have hNU:=hB2.norm;have hlaU:=hB2.la;have hlnU:=hB2.len;have hhiU:=hB2.hi;have e2:Hid (shortR m (ex-23) false=shortL (digs m (ex-23)).1 (digs m (ex-23)).2 (dV (digs (2*m-1) (ex-23-1)).1 (digs (2*m-1) (ex-23-1)).2) (dV (digs (2*m+1) (ex-23-1)).1 (digs (2*m+1) (ex-23-1)).2) false (digs m (ex-23)).1.length 0):=e1;clear e1;generalize (digs (2*m-1) (ex-23-1))=lr at *
     generalize (digs (2*m+1) (ex-23-1))=hr at *
     generalize digs m (ex-23)=r at *
     generalize shortR m (ex-23) false=RR at *
     obtain ⟨d,dp⟩:=r;obtain ⟨dl,pl⟩:=lr;obtain ⟨du,pu⟩:=hr;dsimp only at *
     replace hN:=Hz hN;replace hNL:=Hz hNL;replace hNU:=Hz hNU;replace hd:=Hz hd;replace hDL:=Hz hDL;replace hU:=Hz hU;replace FL:=Hz FL;clear hD1 hN1 hV1 hD2 hD3 hN3 hV3 hD4 h hB hBL hB2 hB4 hb1 hb2 hb3 hb4 hF1 hF2 hF3 hF4 F02 F24 F04 K1 K2 K4;go_wp2
     go_loopg [12] d.length (fun gk v12 wr=> ∃i:Nat,v12= .int .i64 (i:Int)∧i+gk=d.length∧Hid (RR=shortL d dp (dV dl pl) (dV du pu) false gk i)∧Hid (Fr [] w4 wr))
     case atStart=>exact ⟨0,by go_num,by omega,e2,Hz (Fr.refl _ _)⟩
     case round=>
      obtain ⟨i,rfl,hig,hS,hF⟩:=hrel;have hdw:=hd.out.fr hF.out;obtain ⟨ao,cc,c0,_,_,_⟩:=hdw.cells hN.out.lt;by_cases hi:i<d.length
      ·obtain ⟨g,rfl⟩: ∃g,gk=g+1:=⟨gk-1,by omega⟩
       have t1:(i:Int)<(d.length:Int):=by omega
       obtain ⟨xd1,xd2,xd3,xd4⟩:=down_b hN.out hla hln hhi i;obtain ⟨xu1,xu2,xu3,xu4⟩:=up_b hN.out hla hln hhi i hi;have KD:=Hz (downD hdw hN.out (by omega) i (by omega))
       replace hdw:=Hz hdw;rw [shortL] at hS;go_wp2_with fail
       refine KD.out.mono ?_
       rintro e wA ⟨qa,rfl,hA,hFA⟩;go_wp2_with fail
       refine (upD (hdw.out.fr hFA) hN.out (by omega) (by omega) (by omega) i (by omega)).mono ?_
       rintro e wB ⟨qb,rfl,hBd,hFB⟩;have hFAB:=hFA.trans hFB;have hA2:=hA.fr hFB;go_wp2_with fail
       refine (cmpD (hDL.out.fr (hF.out.trans hFAB)) hA2 hNL.out xd1 hlaL xd2 (by omega) xd4 (by omega) xd3).mono ?_
       rintro e wC ⟨ca,rfl,hca,ka,rfl⟩;have x1:=cmp_in hca false;go_wp2_with fail
       refine (cmpD (hBd.fr ((Fr.refl [] _).drewN ka)) (hU.out.fr ((hF.out.trans hFAB).drewN ka)) xu1 hNU.out xu2 hlaU xu4 (by omega) xu3 (by omega)).mono ?_
       rintro e wD ⟨cb,rfl,hcb,kb,rfl⟩;have x2:=cmp_in hcb false;simp only [if_true,Bool.false_eq_true,if_false] at x1 x2;have FW:Fr [] wr (wB.drewN (ka+kb)):=hFAB.drewN (ka+kb);cases hx1:inE false (dV dl pl) (dV (downF d dp i).1 (downF d dp i).2)
       all_goals cases hx2:inE false (dV (upF d dp i).1 (upF d dp i).2) (dV du pu)
       all_goals rw [hx1] at x1 hS
       all_goals rw [hx2] at x2 hS
       all_goals simp only [if_true,Bool.false_eq_true,if_false] at hS
       ·go_wp2
        go_roundg g
        case measure=>omega
        case rel=>exact ⟨i+1,by go_num,by omega,hS,Hz (hF.out.trans FW)⟩
       ·go_wp2;go_ret
        exact ⟨qb,rfl,by rw [hS.out];exact hBd.fr ((Fr.refl [] _).drewN (ka+kb)),(FL.out.trans hF.out).trans FW⟩
       ·go_wp2;go_ret
        exact ⟨qa,rfl,by rw [hS.out];exact hA2.fr ((Fr.refl [] _).drewN (ka+kb)),(FL.out.trans hF.out).trans FW⟩
       ·go_wp2_with fail
        refine (roundD (hdw.out.fr FW) hN.out (by omega) (by omega) (by omega) i (by omega)).mono ?_
        rintro e wE ⟨qe,rfl,hE,hFE⟩;go_wp2;go_ret
        exact ⟨qe,rfl,by rw [hS.out];exact hE,((FL.out.trans hF.out).trans FW).trans hFE⟩
      ·have t1: ¬(i:Int)<(d.length:Int):=by omega
       have hg0:gk=0:=by omega
       subst hg0;rw [shortL] at hS;replace hdw:=Hz hdw;go_wp2;go_ret
       exact ⟨p,rfl,by rw [hS.out];exact hdw.out,FL.out.trans hF.out⟩
    ·have hN:=hB.norm;have hla:=hB.la;have hln:=hB.len;have hhi:=hB.hi;have hlo:=hB.lo;have hNL:=hBL.norm;have hlaL:=hBL.la;have hlnL:=hBL.len;have hhiL:=hBL.hi;have hNU:=hB2.norm;have hlaU:=hB2.la;have hlnU:=hB2.len;have hhiU:=hB2.hi;have e2:Hid (shortR m (ex-23) false=shortL (digs m (ex-23)).1 (digs m (ex-23)).2 (dV (digs (2*m-1) (ex-23-1)).1 (digs (2*m-1) (ex-23-1)).2) (dV (digs (2*m+1) (ex-23-1)).1 (digs (2*m+1) (ex-23-1)).2) true (digs m (ex-23)).1.length 0):=e1;clear e1;generalize (digs (2*m-1) (ex-23-1))=lr at *
     generalize (digs (2*m+1) (ex-23-1))=hr at *
     generalize digs m (ex-23)=r at *
     generalize shortR m (ex-23) false=RR at *
     obtain ⟨d,dp⟩:=r;obtain ⟨dl,pl⟩:=lr;obtain ⟨du,pu⟩:=hr;dsimp only at *
     replace hN:=Hz hN;replace hNL:=Hz hNL;replace hNU:=Hz hNU;replace hd:=Hz hd;replace hDL:=Hz hDL;replace hU:=Hz hU;replace FL:=Hz FL;clear hD1 hN1 hV1 hD2 hD3 hN3 hV3 hD4 h hB hBL hB2 hB4 hb1 hb2 hb3 hb4 hF1 hF2 hF3 hF4 F02 F24 F04 K1 K2 K4;go_wp2
     go_loopg [12] d.length (fun gk v12 wr=> ∃i:Nat,v12= .int .i64 (i:Int)∧i+gk=d.length∧Hid (RR=shortL d dp (dV dl pl) (dV du pu) true gk i)∧Hid (Fr [] w4 wr))
     case atStart=>exact ⟨0,by go_num,by omega,e2,Hz (Fr.refl _ _)⟩
     case round=>
      obtain ⟨i,rfl,hig,hS,hF⟩:=hrel;have hdw:=hd.out.fr hF.out;obtain ⟨ao,cc,c0,_,_,_⟩:=hdw.cells hN.out.lt;by_cases hi:i<d.length
      ·obtain ⟨g,rfl⟩: ∃g,gk=g+1:=⟨gk-1,by omega⟩
       have t1:(i:Int)<(d.length:Int):=by omega
       obtain ⟨xd1,xd2,xd3,xd4⟩:=down_b hN.out hla hln hhi i;obtain ⟨xu1,xu2,xu3,xu4⟩:=up_b hN.out hla hln hhi i hi;have KD:=Hz (downD hdw hN.out (by omega) i (by omega))
       replace hdw:=Hz hdw;rw [shortL] at hS;go_wp2_with fail
       refine KD.out.mono ?_
       rintro e wA ⟨qa,rfl,hA,hFA⟩;go_wp2_with fail
       refine (upD (hdw.out.fr hFA) hN.out (by omega) (by omega) (by omega) i (by omega)).mono ?_
       rintro e wB ⟨qb,rfl,hBd,hFB⟩;have hFAB:=hFA.trans hFB;have hA2:=hA.fr hFB;go_wp2_with fail
       refine (cmpD (hDL.out.fr (hF.out.trans hFAB)) hA2 hNL.out xd1 hlaL xd2 (by omega) xd4 (by omega) xd3).mono ?_
       rintro e wC ⟨ca,rfl,hca,ka,rfl⟩;have x1:=cmp_in hca true;go_wp2_with fail
       refine (cmpD (hBd.fr ((Fr.refl [] _).drewN ka)) (hU.out.fr ((hF.out.trans hFAB).drewN ka)) xu1 hNU.out xu2 hlaU xu4 (by omega) xu3 (by omega)).mono ?_
       rintro e wD ⟨cb,rfl,hcb,kb,rfl⟩;have x2:=cmp_in hcb true;simp only [if_true,Bool.false_eq_true,if_false] at x1 x2;have FW:Fr [] wr (wB.drewN (ka+kb)):=hFAB.drewN (ka+kb);cases hx1:inE true (dV dl pl) (dV (downF d dp i).1 (downF d dp i).2)
       all_goals cases hx2:inE true (dV (upF d dp i).1 (upF d dp i).2) (dV du pu)
       all_goals rw [hx1] at x1 hS
       all_goals rw [hx2] at x2 hS
       all_goals simp only [if_true,Bool.false_eq_true,if_false] at hS
       ·go_wp2
        go_roundg g
        case measure=>omega
        case rel=>exact ⟨i+1,by go_num,by omega,hS,Hz (hF.out.trans FW)⟩
       ·go_wp2;go_ret
        exact ⟨qb,rfl,by rw [hS.out];exact hBd.fr ((Fr.refl [] _).drewN (ka+kb)),(FL.out.trans hF.out).trans FW⟩
       ·go_wp2;go_ret
        exact ⟨qa,rfl,by rw [hS.out];exact hA2.fr ((Fr.refl [] _).drewN (ka+kb)),(FL.out.trans hF.out).trans FW⟩
       ·go_wp2_with fail
        refine (roundD (hdw.out.fr FW) hN.out (by omega) (by omega) (by omega) i (by omega)).mono ?_
        rintro e wE ⟨qe,rfl,hE,hFE⟩;go_wp2;go_ret
        exact ⟨qe,rfl,by rw [hS.out];exact hE,((FL.out.trans hF.out).trans FW).trans hFE⟩
      ·have t1: ¬(i:Int)<(d.length:Int):=by omega
       have hg0:gk=0:=by omega
       subst hg0;rw [shortL] at hS;replace hdw:=Hz hdw;go_wp2;go_ret
       exact ⟨p,rfl,by rw [hS.out];exact hdw.out,FL.out.trans hF.out⟩
  ·obtain ⟨rfl,rfl,hlow⟩:=hf;have s1:IntKind.i64.wrap (ex-52)=ex-52:=IntWalk.i64_in _ (by omega)
   have s2:IntKind.i64.wrap (ex-52-1)=ex-52-1:=IntWalk.i64_in _ (by omega)
   have s3:IntKind.i64.wrap (ex-52-2)=ex-52-2:=IntWalk.i64_in _ (by omega)
   replace hlow:=Hz hlow;go_enter Tryz.func211,Tryz.ntmps211
   go_wp2_with fail
   refine (K1.out _).mono ?_
   rintro e w1 ⟨q1,d1,p1,rfl,hD1,hN1,hV1,hL1,hlo1,hhi1,hq1,hF1⟩;have hb1:=hF1.blk hbo.out (by simp)
   have o0:=cell_blk hb1 0;simp only [List.getElem?_toArray,List.getElem?_cons_zero] at o0;go_wp2_with fail
   refine (shiftD hD1 hN1 hV1 hL1 hlo1 hhi1 (ex-52-1) (by omega) (by omega)).mono ?_
   rintro e w2 ⟨u,rfl,hD2,hB2,hF2⟩;have F02:Fr [] w w2:=(((Fr.refl [] w).alloc _).trans hF1).then_ hF2 (by intro k hk;right;simp at hk;subst hk;simp at hq1;omega)
   have hb2:=hF2.blk hb1 (by simp;intro e;simp at hq1;omega)
   go_wp2_with fail
   refine (K2.out _).mono ?_
   rintro e w3 ⟨q3,d3,p3,rfl,hD3,hN3,hV3,hL3,hlo3,hhi3,hq3,hF3⟩;have hb3:=hF3.blk hb2 (by simp)
   have o03:=cell_blk hb3 0;simp only [List.getElem?_toArray,List.getElem?_cons_zero] at o03;go_wp2_with fail
   refine (shiftD hD3 hN3 hV3 hL3 hlo3 hhi3 (ex-52-1) (by omega) (by omega)).mono ?_
   rintro e w4 ⟨u4,rfl,hD4,hB4,hF4⟩;have F24:Fr [] w2 w4:=hF3.then_ hF4 (by intro k hk;right;simp at hk;omega)
   have F04:=F02.trans F24;have hb4:=F24.blk hb2 (by simp)
   have o04:=cell_blk hb4 0;have o24:=cell_blk hb4 2;simp only [List.getElem?_toArray,List.getElem?_cons_zero,List.getElem?_cons_succ] at o04 o24;have hU:=hD2.fr F24;have hd:=h.fr F04;by_cases c1:m=4503599627370496
   ·by_cases c2: -1022<ex
    ·have hl:low=true:=by rw [hlow.out];simp [c1,c2]
     subst hl;have u1:((m:Int)==4503599627370496)=true:=by simp;omega
     have u2: -1022<ex:=c2;clear c1 c2 hlow;go_wp2_with fail
     refine (K4.out _).mono ?_
     rintro e w5 ⟨q5,d5,p5,rfl,hD5,hN5,hV5,hL5,hlo5,hhi5,hq5,hF5⟩;have hb5:=hF5.blk hb4 (by simp)
     have o05:=cell_blk hb5 0;simp only [List.getElem?_toArray,List.getElem?_cons_zero] at o05;go_wp2_with fail
     refine (shiftD hD5 hN5 hV5 hL5 hlo5 hhi5 (ex-52-2) (by omega) (by omega)).mono ?_
     rintro e wL ⟨u5,rfl,hDL,hBL,hF6⟩;have F4L:Fr [] w4 wL:=hF5.then_ hF6 (by intro k hk;right;simp at hk;omega)
     have FL:=F04.trans F4L;replace hU:=hU.fr F4L;replace hd:=hd.fr F4L;cases pb
     ·have hN:=hB.norm;have hla:=hB.la;have hln:=hB.len;have hhi:=hB.hi;have hlo:=hB.lo;have hNL:=hBL.norm;have hlaL:=hBL.la;have hlnL:=hBL.len;have hhiL:=hBL.hi;have hNU:=hB2.norm;have hlaU:=hB2.la;have hlnU:=hB2.len;have hhiU:=hB2.hi;have e2:Hid (shortR m (ex-52) true=shortL (digs m (ex-52)).1 (digs m (ex-52)).2 (dV (digs (4*m-1) (ex-52-2)).1 (digs (4*m-1) (ex-52-2)).2) (dV (digs (2*m+1) (ex-52-1)).1 (digs (2*m+1) (ex-52-1)).2) false (digs m (ex-52)).1.length 0):=e1;clear e1;generalize (digs (4*m-1) (ex-52-2))=lr at *
      generalize (digs (2*m+1) (ex-52-1))=hr at *
      generalize digs m (ex-52)=r at *
      generalize shortR m (ex-52) true=RR at *
      obtain ⟨d,dp⟩:=r;obtain ⟨dl,pl⟩:=lr;obtain ⟨du,pu⟩:=hr;dsimp only at *
      replace hN:=Hz hN;replace hNL:=Hz hNL;replace hNU:=Hz hNU;replace hd:=Hz hd;replace hDL:=Hz hDL;replace hU:=Hz hU;replace FL:=Hz FL;clear hD1 hN1 hV1 hD2 hD3 hN3 hV3 hD4 h hB hBL hB2 hB4 hb1 hb2 hb3 hb4 hF1 hF2 hF3 hF4 F02 F24 F04 K1 K2 K4;go_wp2
      go_loopg [12] d.length (fun gk v12 wr=> ∃i:Nat,v12= .int .i64 (i:Int)∧i+gk=d.length∧Hid (RR=shortL d dp (dV dl pl) (dV du pu) false gk i)∧Hid (Fr [] wL wr))
      case atStart=>exact ⟨0,by go_num,by omega,e2,Hz (Fr.refl _ _)⟩
      case round=>
       obtain ⟨i,rfl,hig,hS,hF⟩:=hrel;have hdw:=hd.out.fr hF.out;obtain ⟨ao,cc,c0,_,_,_⟩:=hdw.cells hN.out.lt;by_cases hi:i<d.length
       ·obtain ⟨g,rfl⟩: ∃g,gk=g+1:=⟨gk-1,by omega⟩
        have t1:(i:Int)<(d.length:Int):=by omega
        obtain ⟨xd1,xd2,xd3,xd4⟩:=down_b hN.out hla hln hhi i;obtain ⟨xu1,xu2,xu3,xu4⟩:=up_b hN.out hla hln hhi i hi;have KD:=Hz (downD hdw hN.out (by omega) i (by omega))
        replace hdw:=Hz hdw;rw [shortL] at hS;go_wp2_with fail
        refine KD.out.mono ?_
        rintro e wA ⟨qa,rfl,hA,hFA⟩;go_wp2_with fail
        refine (upD (hdw.out.fr hFA) hN.out (by omega) (by omega) (by omega) i (by omega)).mono ?_
        rintro e wB ⟨qb,rfl,hBd,hFB⟩;have hFAB:=hFA.trans hFB;have hA2:=hA.fr hFB;go_wp2_with fail
        refine (cmpD (hDL.out.fr (hF.out.trans hFAB)) hA2 hNL.out xd1 hlaL xd2 (by omega) xd4 (by omega) xd3).mono ?_
        rintro e wC ⟨ca,rfl,hca,ka,rfl⟩;have x1:=cmp_in hca false;go_wp2_with fail
        refine (cmpD (hBd.fr ((Fr.refl [] _).drewN ka)) (hU.out.fr ((hF.out.trans hFAB).drewN ka)) xu1 hNU.out xu2 hlaU xu4 (by omega) xu3 (by omega)).mono ?_
        rintro e wD ⟨cb,rfl,hcb,kb,rfl⟩;have x2:=cmp_in hcb false;simp only [if_true,Bool.false_eq_true,if_false] at x1 x2;have FW:Fr [] wr (wB.drewN (ka+kb)):=hFAB.drewN (ka+kb);cases hx1:inE false (dV dl pl) (dV (downF d dp i).1 (downF d dp i).2)
        all_goals cases hx2:inE false (dV (upF d dp i).1 (upF d dp i).2) (dV du pu)
        all_goals rw [hx1] at x1 hS
        all_goals rw [hx2] at x2 hS
        all_goals simp only [if_true,Bool.false_eq_true,if_false] at hS
        ·go_wp2
         go_roundg g
         case measure=>omega
         case rel=>exact ⟨i+1,by go_num,by omega,hS,Hz (hF.out.trans FW)⟩
        ·go_wp2;go_ret
         exact ⟨qb,rfl,by rw [hS.out];exact hBd.fr ((Fr.refl [] _).drewN (ka+kb)),(FL.out.trans hF.out).trans FW⟩
        ·go_wp2;go_ret
         exact ⟨qa,rfl,by rw [hS.out];exact hA2.fr ((Fr.refl [] _).drewN (ka+kb)),(FL.out.trans hF.out).trans FW⟩
        ·go_wp2_with fail
         refine (roundD (hdw.out.fr FW) hN.out (by omega) (by omega) (by omega) i (by omega)).mono ?_
         rintro e wE ⟨qe,rfl,hE,hFE⟩;go_wp2;go_ret
         exact ⟨qe,rfl,by rw [hS.out];exact hE,((FL.out.trans hF.out).trans FW).trans hFE⟩
       ·have t1: ¬(i:Int)<(d.length:Int):=by omega
        have hg0:gk=0:=by omega
        subst hg0;rw [shortL] at hS;replace hdw:=Hz hdw;go_wp2;go_ret
        exact ⟨p,rfl,by rw [hS.out];exact hdw.out,FL.out.trans hF.out⟩
     ·have hN:=hB.norm;have hla:=hB.la;have hln:=hB.len;have hhi:=hB.hi;have hlo:=hB.lo;have hNL:=hBL.norm;have hlaL:=hBL.la;have hlnL:=hBL.len;have hhiL:=hBL.hi;have hNU:=hB2.norm;have hlaU:=hB2.la;have hlnU:=hB2.len;have hhiU:=hB2.hi;have e2:Hid (shortR m (ex-52) true=shortL (digs m (ex-52)).1 (digs m (ex-52)).2 (dV (digs (4*m-1) (ex-52-2)).1 (digs (4*m-1) (ex-52-2)).2) (dV (digs (2*m+1) (ex-52-1)).1 (digs (2*m+1) (ex-52-1)).2) true (digs m (ex-52)).1.length 0):=e1;clear e1;generalize (digs (4*m-1) (ex-52-2))=lr at *
      generalize (digs (2*m+1) (ex-52-1))=hr at *
      generalize digs m (ex-52)=r at *
      generalize shortR m (ex-52) true=RR at *
      obtain ⟨d,dp⟩:=r;obtain ⟨dl,pl⟩:=lr;obtain ⟨du,pu⟩:=hr;dsimp only at *
      replace hN:=Hz hN;replace hNL:=Hz hNL;replace hNU:=Hz hNU;replace hd:=Hz hd;replace hDL:=Hz hDL;replace hU:=Hz hU;replace FL:=Hz FL;clear hD1 hN1 hV1 hD2 hD3 hN3 hV3 hD4 h hB hBL hB2 hB4 hb1 hb2 hb3 hb4 hF1 hF2 hF3 hF4 F02 F24 F04 K1 K2 K4;go_wp2
      go_loopg [12] d.length (fun gk v12 wr=> ∃i:Nat,v12= .int .i64 (i:Int)∧i+gk=d.length∧Hid (RR=shortL d dp (dV dl pl) (dV du pu) true gk i)∧Hid (Fr [] wL wr))
      case atStart=>exact ⟨0,by go_num,by omega,e2,Hz (Fr.refl _ _)⟩
      case round=>
       obtain ⟨i,rfl,hig,hS,hF⟩:=hrel;have hdw:=hd.out.fr hF.out;obtain ⟨ao,cc,c0,_,_,_⟩:=hdw.cells hN.out.lt;by_cases hi:i<d.length
       ·obtain ⟨g,rfl⟩: ∃g,gk=g+1:=⟨gk-1,by omega⟩
        have t1:(i:Int)<(d.length:Int):=by omega
        obtain ⟨xd1,xd2,xd3,xd4⟩:=down_b hN.out hla hln hhi i;obtain ⟨xu1,xu2,xu3,xu4⟩:=up_b hN.out hla hln hhi i hi;have KD:=Hz (downD hdw hN.out (by omega) i (by omega))
        replace hdw:=Hz hdw;rw [shortL] at hS;go_wp2_with fail
        refine KD.out.mono ?_
        rintro e wA ⟨qa,rfl,hA,hFA⟩;go_wp2_with fail
        refine (upD (hdw.out.fr hFA) hN.out (by omega) (by omega) (by omega) i (by omega)).mono ?_
        rintro e wB ⟨qb,rfl,hBd,hFB⟩;have hFAB:=hFA.trans hFB;have hA2:=hA.fr hFB;go_wp2_with fail
        refine (cmpD (hDL.out.fr (hF.out.trans hFAB)) hA2 hNL.out xd1 hlaL xd2 (by omega) xd4 (by omega) xd3).mono ?_
        rintro e wC ⟨ca,rfl,hca,ka,rfl⟩;have x1:=cmp_in hca true;go_wp2_with fail
        refine (cmpD (hBd.fr ((Fr.refl [] _).drewN ka)) (hU.out.fr ((hF.out.trans hFAB).drewN ka)) xu1 hNU.out xu2 hlaU xu4 (by omega) xu3 (by omega)).mono ?_
        rintro e wD ⟨cb,rfl,hcb,kb,rfl⟩;have x2:=cmp_in hcb true;simp only [if_true,Bool.false_eq_true,if_false] at x1 x2;have FW:Fr [] wr (wB.drewN (ka+kb)):=hFAB.drewN (ka+kb);cases hx1:inE true (dV dl pl) (dV (downF d dp i).1 (downF d dp i).2)
        all_goals cases hx2:inE true (dV (upF d dp i).1 (upF d dp i).2) (dV du pu)
        all_goals rw [hx1] at x1 hS
        all_goals rw [hx2] at x2 hS
        all_goals simp only [if_true,Bool.false_eq_true,if_false] at hS
        ·go_wp2
         go_roundg g
         case measure=>omega
         case rel=>exact ⟨i+1,by go_num,by omega,hS,Hz (hF.out.trans FW)⟩
        ·go_wp2;go_ret
         exact ⟨qb,rfl,by rw [hS.out];exact hBd.fr ((Fr.refl [] _).drewN (ka+kb)),(FL.out.trans hF.out).trans FW⟩
        ·go_wp2;go_ret
         exact ⟨qa,rfl,by rw [hS.out];exact hA2.fr ((Fr.refl [] _).drewN (ka+kb)),(FL.out.trans hF.out).trans FW⟩
        ·go_wp2_with fail
         refine (roundD (hdw.out.fr FW) hN.out (by omega) (by omega) (by omega) i (by omega)).mono ?_
         rintro e wE ⟨qe,rfl,hE,hFE⟩;go_wp2;go_ret
         exact ⟨qe,rfl,by rw [hS.out];exact hE,((FL.out.trans hF.out).trans FW).trans hFE⟩
       ·have t1: ¬(i:Int)<(d.length:Int):=by omega
        have hg0:gk=0:=by omega
        subst hg0;rw [shortL] at hS;replace hdw:=Hz hdw;go_wp2;go_ret
        exact ⟨p,rfl,by rw [hS.out];exact hdw.out,FL.out.trans hF.out⟩
    ·have hl:low=false:=by rw [hlow.out];simp [c2]
     subst hl;have u1:((m:Int)==4503599627370496)=true:=by simp;omega
     have u2: ¬ -1022<ex:=c2;have hDL:=hD4;have hBL:=hB4;have FL:=F04;clear c1 c2 hlow;cases pb
     ·have hN:=hB.norm;have hla:=hB.la;have hln:=hB.len;have hhi:=hB.hi;have hlo:=hB.lo;have hNL:=hBL.norm;have hlaL:=hBL.la;have hlnL:=hBL.len;have hhiL:=hBL.hi;have hNU:=hB2.norm;have hlaU:=hB2.la;have hlnU:=hB2.len;have hhiU:=hB2.hi;have e2:Hid (shortR m (ex-52) false=shortL (digs m (ex-52)).1 (digs m (ex-52)).2 (dV (digs (2*m-1) (ex-52-1)).1 (digs (2*m-1) (ex-52-1)).2) (dV (digs (2*m+1) (ex-52-1)).1 (digs (2*m+1) (ex-52-1)).2) false (digs m (ex-52)).1.length 0):=e1;clear e1;generalize (digs (2*m-1) (ex-52-1))=lr at *
      generalize (digs (2*m+1) (ex-52-1))=hr at *
      generalize digs m (ex-52)=r at *
      generalize shortR m (ex-52) false=RR at *
      obtain ⟨d,dp⟩:=r;obtain ⟨dl,pl⟩:=lr;obtain ⟨du,pu⟩:=hr;dsimp only at *
      replace hN:=Hz hN;replace hNL:=Hz hNL;replace hNU:=Hz hNU;replace hd:=Hz hd;replace hDL:=Hz hDL;replace hU:=Hz hU;replace FL:=Hz FL;clear hD1 hN1 hV1 hD2 hD3 hN3 hV3 hD4 h hB hBL hB2 hB4 hb1 hb2 hb3 hb4 hF1 hF2 hF3 hF4 F02 F24 F04 K1 K2 K4;go_wp2
      go_loopg [12] d.length (fun gk v12 wr=> ∃i:Nat,v12= .int .i64 (i:Int)∧i+gk=d.length∧Hid (RR=shortL d dp (dV dl pl) (dV du pu) false gk i)∧Hid (Fr [] w4 wr))
      case atStart=>exact ⟨0,by go_num,by omega,e2,Hz (Fr.refl _ _)⟩
      case round=>
       obtain ⟨i,rfl,hig,hS,hF⟩:=hrel;have hdw:=hd.out.fr hF.out;obtain ⟨ao,cc,c0,_,_,_⟩:=hdw.cells hN.out.lt;by_cases hi:i<d.length
       ·obtain ⟨g,rfl⟩: ∃g,gk=g+1:=⟨gk-1,by omega⟩
        have t1:(i:Int)<(d.length:Int):=by omega
        obtain ⟨xd1,xd2,xd3,xd4⟩:=down_b hN.out hla hln hhi i;obtain ⟨xu1,xu2,xu3,xu4⟩:=up_b hN.out hla hln hhi i hi;have KD:=Hz (downD hdw hN.out (by omega) i (by omega))
        replace hdw:=Hz hdw;rw [shortL] at hS;go_wp2_with fail
        refine KD.out.mono ?_
        rintro e wA ⟨qa,rfl,hA,hFA⟩;go_wp2_with fail
        refine (upD (hdw.out.fr hFA) hN.out (by omega) (by omega) (by omega) i (by omega)).mono ?_
        rintro e wB ⟨qb,rfl,hBd,hFB⟩;have hFAB:=hFA.trans hFB;have hA2:=hA.fr hFB;go_wp2_with fail
        refine (cmpD (hDL.out.fr (hF.out.trans hFAB)) hA2 hNL.out xd1 hlaL xd2 (by omega) xd4 (by omega) xd3).mono ?_
        rintro e wC ⟨ca,rfl,hca,ka,rfl⟩;have x1:=cmp_in hca false;go_wp2_with fail
        refine (cmpD (hBd.fr ((Fr.refl [] _).drewN ka)) (hU.out.fr ((hF.out.trans hFAB).drewN ka)) xu1 hNU.out xu2 hlaU xu4 (by omega) xu3 (by omega)).mono ?_
        rintro e wD ⟨cb,rfl,hcb,kb,rfl⟩;have x2:=cmp_in hcb false;simp only [if_true,Bool.false_eq_true,if_false] at x1 x2;have FW:Fr [] wr (wB.drewN (ka+kb)):=hFAB.drewN (ka+kb);cases hx1:inE false (dV dl pl) (dV (downF d dp i).1 (downF d dp i).2)
        all_goals cases hx2:inE false (dV (upF d dp i).1 (upF d dp i).2) (dV du pu)
        all_goals rw [hx1] at x1 hS
        all_goals rw [hx2] at x2 hS
        all_goals simp only [if_true,Bool.false_eq_true,if_false] at hS
        ·go_wp2
         go_roundg g
         case measure=>omega
         case rel=>exact ⟨i+1,by go_num,by omega,hS,Hz (hF.out.trans FW)⟩
        ·go_wp2;go_ret
         exact ⟨qb,rfl,by rw [hS.out];exact hBd.fr ((Fr.refl [] _).drewN (ka+kb)),(FL.out.trans hF.out).trans FW⟩
        ·go_wp2;go_ret
         exact ⟨qa,rfl,by rw [hS.out];exact hA2.fr ((Fr.refl [] _).drewN (ka+kb)),(FL.out.trans hF.out).trans FW⟩
        ·go_wp2_with fail
         refine (roundD (hdw.out.fr FW) hN.out (by omega) (by omega) (by omega) i (by omega)).mono ?_
         rintro e wE ⟨qe,rfl,hE,hFE⟩;go_wp2;go_ret
         exact ⟨qe,rfl,by rw [hS.out];exact hE,((FL.out.trans hF.out).trans FW).trans hFE⟩
       ·have t1: ¬(i:Int)<(d.length:Int):=by omega
        have hg0:gk=0:=by omega
        subst hg0;rw [shortL] at hS;replace hdw:=Hz hdw;go_wp2;go_ret
        exact ⟨p,rfl,by rw [hS.out];exact hdw.out,FL.out.trans hF.out⟩
     ·have hN:=hB.norm;have hla:=hB.la;have hln:=hB.len;have hhi:=hB.hi;have hlo:=hB.lo;have hNL:=hBL.norm;have hlaL:=hBL.la;have hlnL:=hBL.len;have hhiL:=hBL.hi;have hNU:=hB2.norm;have hlaU:=hB2.la;have hlnU:=hB2.len;have hhiU:=hB2.hi;have e2:Hid (shortR m (ex-52) false=shortL (digs m (ex-52)).1 (digs m (ex-52)).2 (dV (digs (2*m-1) (ex-52-1)).1 (digs (2*m-1) (ex-52-1)).2) (dV (digs (2*m+1) (ex-52-1)).1 (digs (2*m+1) (ex-52-1)).2) true (digs m (ex-52)).1.length 0):=e1;clear e1;generalize (digs (2*m-1) (ex-52-1))=lr at *
      generalize (digs (2*m+1) (ex-52-1))=hr at *
      generalize digs m (ex-52)=r at *
      generalize shortR m (ex-52) false=RR at *
      obtain ⟨d,dp⟩:=r;obtain ⟨dl,pl⟩:=lr;obtain ⟨du,pu⟩:=hr;dsimp only at *
      replace hN:=Hz hN;replace hNL:=Hz hNL;replace hNU:=Hz hNU;replace hd:=Hz hd;replace hDL:=Hz hDL;replace hU:=Hz hU;replace FL:=Hz FL;clear hD1 hN1 hV1 hD2 hD3 hN3 hV3 hD4 h hB hBL hB2 hB4 hb1 hb2 hb3 hb4 hF1 hF2 hF3 hF4 F02 F24 F04 K1 K2 K4;go_wp2
      go_loopg [12] d.length (fun gk v12 wr=> ∃i:Nat,v12= .int .i64 (i:Int)∧i+gk=d.length∧Hid (RR=shortL d dp (dV dl pl) (dV du pu) true gk i)∧Hid (Fr [] w4 wr))
      case atStart=>exact ⟨0,by go_num,by omega,e2,Hz (Fr.refl _ _)⟩
      case round=>
       obtain ⟨i,rfl,hig,hS,hF⟩:=hrel;have hdw:=hd.out.fr hF.out;obtain ⟨ao,cc,c0,_,_,_⟩:=hdw.cells hN.out.lt;by_cases hi:i<d.length
       ·obtain ⟨g,rfl⟩: ∃g,gk=g+1:=⟨gk-1,by omega⟩
        have t1:(i:Int)<(d.length:Int):=by omega
        obtain ⟨xd1,xd2,xd3,xd4⟩:=down_b hN.out hla hln hhi i;obtain ⟨xu1,xu2,xu3,xu4⟩:=up_b hN.out hla hln hhi i hi;have KD:=Hz (downD hdw hN.out (by omega) i (by omega))
        replace hdw:=Hz hdw;rw [shortL] at hS;go_wp2_with fail
        refine KD.out.mono ?_
        rintro e wA ⟨qa,rfl,hA,hFA⟩;go_wp2_with fail
        refine (upD (hdw.out.fr hFA) hN.out (by omega) (by omega) (by omega) i (by omega)).mono ?_
        rintro e wB ⟨qb,rfl,hBd,hFB⟩;have hFAB:=hFA.trans hFB;have hA2:=hA.fr hFB;go_wp2_with fail
        refine (cmpD (hDL.out.fr (hF.out.trans hFAB)) hA2 hNL.out xd1 hlaL xd2 (by omega) xd4 (by omega) xd3).mono ?_
        rintro e wC ⟨ca,rfl,hca,ka,rfl⟩;have x1:=cmp_in hca true;go_wp2_with fail
        refine (cmpD (hBd.fr ((Fr.refl [] _).drewN ka)) (hU.out.fr ((hF.out.trans hFAB).drewN ka)) xu1 hNU.out xu2 hlaU xu4 (by omega) xu3 (by omega)).mono ?_
        rintro e wD ⟨cb,rfl,hcb,kb,rfl⟩;have x2:=cmp_in hcb true;simp only [if_true,Bool.false_eq_true,if_false] at x1 x2;have FW:Fr [] wr (wB.drewN (ka+kb)):=hFAB.drewN (ka+kb);cases hx1:inE true (dV dl pl) (dV (downF d dp i).1 (downF d dp i).2)
        all_goals cases hx2:inE true (dV (upF d dp i).1 (upF d dp i).2) (dV du pu)
        all_goals rw [hx1] at x1 hS
        all_goals rw [hx2] at x2 hS
        all_goals simp only [if_true,Bool.false_eq_true,if_false] at hS
        ·go_wp2
         go_roundg g
         case measure=>omega
         case rel=>exact ⟨i+1,by go_num,by omega,hS,Hz (hF.out.trans FW)⟩
        ·go_wp2;go_ret
         exact ⟨qb,rfl,by rw [hS.out];exact hBd.fr ((Fr.refl [] _).drewN (ka+kb)),(FL.out.trans hF.out).trans FW⟩
        ·go_wp2;go_ret
         exact ⟨qa,rfl,by rw [hS.out];exact hA2.fr ((Fr.refl [] _).drewN (ka+kb)),(FL.out.trans hF.out).trans FW⟩
        ·go_wp2_with fail
         refine (roundD (hdw.out.fr FW) hN.out (by omega) (by omega) (by omega) i (by omega)).mono ?_
         rintro e wE ⟨qe,rfl,hE,hFE⟩;go_wp2;go_ret
         exact ⟨qe,rfl,by rw [hS.out];exact hE,((FL.out.trans hF.out).trans FW).trans hFE⟩
       ·have t1: ¬(i:Int)<(d.length:Int):=by omega
        have hg0:gk=0:=by omega
        subst hg0;rw [shortL] at hS;replace hdw:=Hz hdw;go_wp2;go_ret
        exact ⟨p,rfl,by rw [hS.out];exact hdw.out,FL.out.trans hF.out⟩
   ·have hl:low=false:=by rw [hlow.out];simp [c1]
    subst hl;have u1:((m:Int)==4503599627370496)=false:=by simp;omega
    have hDL:=hD4;have hBL:=hB4;have FL:=F04;clear c1 hlow;cases pb
    ·have hN:=hB.norm;have hla:=hB.la;have hln:=hB.len;have hhi:=hB.hi;have hlo:=hB.lo;have hNL:=hBL.norm;have hlaL:=hBL.la;have hlnL:=hBL.len;have hhiL:=hBL.hi;have hNU:=hB2.norm;have hlaU:=hB2.la;have hlnU:=hB2.len;have hhiU:=hB2.hi;have e2:Hid (shortR m (ex-52) false=shortL (digs m (ex-52)).1 (digs m (ex-52)).2 (dV (digs (2*m-1) (ex-52-1)).1 (digs (2*m-1) (ex-52-1)).2) (dV (digs (2*m+1) (ex-52-1)).1 (digs (2*m+1) (ex-52-1)).2) false (digs m (ex-52)).1.length 0):=e1;clear e1;generalize (digs (2*m-1) (ex-52-1))=lr at *
     generalize (digs (2*m+1) (ex-52-1))=hr at *
     generalize digs m (ex-52)=r at *
     generalize shortR m (ex-52) false=RR at *
     obtain ⟨d,dp⟩:=r;obtain ⟨dl,pl⟩:=lr;obtain ⟨du,pu⟩:=hr;dsimp only at *
     replace hN:=Hz hN;replace hNL:=Hz hNL;replace hNU:=Hz hNU;replace hd:=Hz hd;replace hDL:=Hz hDL;replace hU:=Hz hU;replace FL:=Hz FL;clear hD1 hN1 hV1 hD2 hD3 hN3 hV3 hD4 h hB hBL hB2 hB4 hb1 hb2 hb3 hb4 hF1 hF2 hF3 hF4 F02 F24 F04 K1 K2 K4;go_wp2
     go_loopg [12] d.length (fun gk v12 wr=> ∃i:Nat,v12= .int .i64 (i:Int)∧i+gk=d.length∧Hid (RR=shortL d dp (dV dl pl) (dV du pu) false gk i)∧Hid (Fr [] w4 wr))
     case atStart=>exact ⟨0,by go_num,by omega,e2,Hz (Fr.refl _ _)⟩
     case round=>
      obtain ⟨i,rfl,hig,hS,hF⟩:=hrel;have hdw:=hd.out.fr hF.out;obtain ⟨ao,cc,c0,_,_,_⟩:=hdw.cells hN.out.lt;by_cases hi:i<d.length
      ·obtain ⟨g,rfl⟩: ∃g,gk=g+1:=⟨gk-1,by omega⟩
       have t1:(i:Int)<(d.length:Int):=by omega
       obtain ⟨xd1,xd2,xd3,xd4⟩:=down_b hN.out hla hln hhi i;obtain ⟨xu1,xu2,xu3,xu4⟩:=up_b hN.out hla hln hhi i hi;have KD:=Hz (downD hdw hN.out (by omega) i (by omega))
       replace hdw:=Hz hdw;rw [shortL] at hS;go_wp2_with fail
       refine KD.out.mono ?_
       rintro e wA ⟨qa,rfl,hA,hFA⟩;go_wp2_with fail
       refine (upD (hdw.out.fr hFA) hN.out (by omega) (by omega) (by omega) i (by omega)).mono ?_
       rintro e wB ⟨qb,rfl,hBd,hFB⟩;have hFAB:=hFA.trans hFB;have hA2:=hA.fr hFB;go_wp2_with fail
       refine (cmpD (hDL.out.fr (hF.out.trans hFAB)) hA2 hNL.out xd1 hlaL xd2 (by omega) xd4 (by omega) xd3).mono ?_
       rintro e wC ⟨ca,rfl,hca,ka,rfl⟩;have x1:=cmp_in hca false;go_wp2_with fail
       refine (cmpD (hBd.fr ((Fr.refl [] _).drewN ka)) (hU.out.fr ((hF.out.trans hFAB).drewN ka)) xu1 hNU.out xu2 hlaU xu4 (by omega) xu3 (by omega)).mono ?_
       rintro e wD ⟨cb,rfl,hcb,kb,rfl⟩;have x2:=cmp_in hcb false;simp only [if_true,Bool.false_eq_true,if_false] at x1 x2;have FW:Fr [] wr (wB.drewN (ka+kb)):=hFAB.drewN (ka+kb);cases hx1:inE false (dV dl pl) (dV (downF d dp i).1 (downF d dp i).2)
       all_goals cases hx2:inE false (dV (upF d dp i).1 (upF d dp i).2) (dV du pu)
       all_goals rw [hx1] at x1 hS
       all_goals rw [hx2] at x2 hS
       all_goals simp only [if_true,Bool.false_eq_true,if_false] at hS
       ·go_wp2
        go_roundg g
        case measure=>omega
        case rel=>exact ⟨i+1,by go_num,by omega,hS,Hz (hF.out.trans FW)⟩
       ·go_wp2;go_ret
        exact ⟨qb,rfl,by rw [hS.out];exact hBd.fr ((Fr.refl [] _).drewN (ka+kb)),(FL.out.trans hF.out).trans FW⟩
       ·go_wp2;go_ret
        exact ⟨qa,rfl,by rw [hS.out];exact hA2.fr ((Fr.refl [] _).drewN (ka+kb)),(FL.out.trans hF.out).trans FW⟩
       ·go_wp2_with fail
        refine (roundD (hdw.out.fr FW) hN.out (by omega) (by omega) (by omega) i (by omega)).mono ?_
        rintro e wE ⟨qe,rfl,hE,hFE⟩;go_wp2;go_ret
        exact ⟨qe,rfl,by rw [hS.out];exact hE,((FL.out.trans hF.out).trans FW).trans hFE⟩
      ·have t1: ¬(i:Int)<(d.length:Int):=by omega
       have hg0:gk=0:=by omega
       subst hg0;rw [shortL] at hS;replace hdw:=Hz hdw;go_wp2;go_ret
       exact ⟨p,rfl,by rw [hS.out];exact hdw.out,FL.out.trans hF.out⟩
    ·have hN:=hB.norm;have hla:=hB.la;have hln:=hB.len;have hhi:=hB.hi;have hlo:=hB.lo;have hNL:=hBL.norm;have hlaL:=hBL.la;have hlnL:=hBL.len;have hhiL:=hBL.hi;have hNU:=hB2.norm;have hlaU:=hB2.la;have hlnU:=hB2.len;have hhiU:=hB2.hi;have e2:Hid (shortR m (ex-52) false=shortL (digs m (ex-52)).1 (digs m (ex-52)).2 (dV (digs (2*m-1) (ex-52-1)).1 (digs (2*m-1) (ex-52-1)).2) (dV (digs (2*m+1) (ex-52-1)).1 (digs (2*m+1) (ex-52-1)).2) true (digs m (ex-52)).1.length 0):=e1;clear e1;generalize (digs (2*m-1) (ex-52-1))=lr at *
     generalize (digs (2*m+1) (ex-52-1))=hr at *
     generalize digs m (ex-52)=r at *
     generalize shortR m (ex-52) false=RR at *
     obtain ⟨d,dp⟩:=r;obtain ⟨dl,pl⟩:=lr;obtain ⟨du,pu⟩:=hr;dsimp only at *
     replace hN:=Hz hN;replace hNL:=Hz hNL;replace hNU:=Hz hNU;replace hd:=Hz hd;replace hDL:=Hz hDL;replace hU:=Hz hU;replace FL:=Hz FL;clear hD1 hN1 hV1 hD2 hD3 hN3 hV3 hD4 h hB hBL hB2 hB4 hb1 hb2 hb3 hb4 hF1 hF2 hF3 hF4 F02 F24 F04 K1 K2 K4;go_wp2
     go_loopg [12] d.length (fun gk v12 wr=> ∃i:Nat,v12= .int .i64 (i:Int)∧i+gk=d.length∧Hid (RR=shortL d dp (dV dl pl) (dV du pu) true gk i)∧Hid (Fr [] w4 wr))
     case atStart=>exact ⟨0,by go_num,by omega,e2,Hz (Fr.refl _ _)⟩
     case round=>
      obtain ⟨i,rfl,hig,hS,hF⟩:=hrel;have hdw:=hd.out.fr hF.out;obtain ⟨ao,cc,c0,_,_,_⟩:=hdw.cells hN.out.lt;by_cases hi:i<d.length
      ·obtain ⟨g,rfl⟩: ∃g,gk=g+1:=⟨gk-1,by omega⟩
       have t1:(i:Int)<(d.length:Int):=by omega
       obtain ⟨xd1,xd2,xd3,xd4⟩:=down_b hN.out hla hln hhi i;obtain ⟨xu1,xu2,xu3,xu4⟩:=up_b hN.out hla hln hhi i hi;have KD:=Hz (downD hdw hN.out (by omega) i (by omega))
       replace hdw:=Hz hdw;rw [shortL] at hS;go_wp2_with fail
       refine KD.out.mono ?_
       rintro e wA ⟨qa,rfl,hA,hFA⟩;go_wp2_with fail
       refine (upD (hdw.out.fr hFA) hN.out (by omega) (by omega) (by omega) i (by omega)).mono ?_
       rintro e wB ⟨qb,rfl,hBd,hFB⟩;have hFAB:=hFA.trans hFB;have hA2:=hA.fr hFB;go_wp2_with fail
       refine (cmpD (hDL.out.fr (hF.out.trans hFAB)) hA2 hNL.out xd1 hlaL xd2 (by omega) xd4 (by omega) xd3).mono ?_
       rintro e wC ⟨ca,rfl,hca,ka,rfl⟩;have x1:=cmp_in hca true;go_wp2_with fail
       refine (cmpD (hBd.fr ((Fr.refl [] _).drewN ka)) (hU.out.fr ((hF.out.trans hFAB).drewN ka)) xu1 hNU.out xu2 hlaU xu4 (by omega) xu3 (by omega)).mono ?_
       rintro e wD ⟨cb,rfl,hcb,kb,rfl⟩;have x2:=cmp_in hcb true;simp only [if_true,Bool.false_eq_true,if_false] at x1 x2;have FW:Fr [] wr (wB.drewN (ka+kb)):=hFAB.drewN (ka+kb);cases hx1:inE true (dV dl pl) (dV (downF d dp i).1 (downF d dp i).2)
       all_goals cases hx2:inE true (dV (upF d dp i).1 (upF d dp i).2) (dV du pu)
       all_goals rw [hx1] at x1 hS
       all_goals rw [hx2] at x2 hS
       all_goals simp only [if_true,Bool.false_eq_true,if_false] at hS
       ·go_wp2
        go_roundg g
        case measure=>omega
        case rel=>exact ⟨i+1,by go_num,by omega,hS,Hz (hF.out.trans FW)⟩
       ·go_wp2;go_ret
        exact ⟨qb,rfl,by rw [hS.out];exact hBd.fr ((Fr.refl [] _).drewN (ka+kb)),(FL.out.trans hF.out).trans FW⟩
       ·go_wp2;go_ret
        exact ⟨qa,rfl,by rw [hS.out];exact hA2.fr ((Fr.refl [] _).drewN (ka+kb)),(FL.out.trans hF.out).trans FW⟩
       ·go_wp2_with fail
        refine (roundD (hdw.out.fr FW) hN.out (by omega) (by omega) (by omega) i (by omega)).mono ?_
        rintro e wE ⟨qe,rfl,hE,hFE⟩;go_wp2;go_ret
        exact ⟨qe,rfl,by rw [hS.out];exact hE,((FL.out.trans hF.out).trans FW).trans hFE⟩
      ·have t1: ¬(i:Int)<(d.length:Int):=by omega
       have hg0:gk=0:=by omega
       subst hg0;rw [shortL] at hS;replace hdw:=Hz hdw;go_wp2;go_ret
       exact ⟨p,rfl,by rw [hS.out];exact hdw.out,FL.out.trans hF.out⟩
end
end Go.Proofs.YteodinhkhhaafaaGreatDoor
