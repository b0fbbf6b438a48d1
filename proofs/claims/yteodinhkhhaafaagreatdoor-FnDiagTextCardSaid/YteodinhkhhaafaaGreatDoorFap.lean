/- Walks of the program, and plain facts. -/
import Derived.Test.YteodinhkhhaafaaGreatDoorFao
set_option linter.unusedVariables false
set_option linter.unusedSimpArgs false
set_option maxRecDepth 100000
set_option maxHeartbeats 6400000
namespace Go.Proofs.YteodinhkhhaafaaGreatDoor
section
open Go.RowKit
section
variable {w:World} {d db o c dm off dep:Nat} {L:Lim} {xs:List UInt8}
theorem item_deep4 (h:Dec w d db o c dm xs off) (hM:DecM w dm L.nest L.el L.pa) (hmd:dm≠d) (hdep:dep≤65535) {ai v o1:Nat} (hh:hd xs off= .ok (4,ai,v,o1)) (hs:L.nest<dep+1):
  Calls Tryz.prog 114 #[.pointer (some ⟨d,0,none⟩),.int .i64 (dep:Int),.bool false] w (WPost w d db o c dm xs (.error 5)):=by
 have KI:=ihead h hM hmd;rw [hh] at KI;have hv:=hd_val hh;have hm:=h.len;have n3: ¬dm=d:=hmd;have n4: ¬d=dm:=fun e=>hmd e.symm
 have g2:(L.nest:Int)<(dep:Int)+1:=by omega
 replace KI:=Hz KI;replace hh:=Hz hh;clear hv;go_enter Tryz.func114,Tryz.ntmps114
 go_wp2_with fail
 refine KI.out.mono ?_
 rintro e w1 ⟨rfl,hD,hf⟩;have hM1:=hM.fr hf (by simpa using hmd)
 have k0:=hD.c0;have k1:=hD.c1;have k2:=hD.c2;have kf:=hD.f1;have m1:w1.cell? ⟨dm,1,none⟩=some (.int .i64 (L.nest:Int)):=hM1.cell 1;have m2:w1.cell? ⟨dm,2,none⟩=some (.int .i64 (L.el:Int)):=hM1.cell 2;have m3:w1.cell? ⟨dm,3,none⟩=some (.int .i64 (L.pa:Int)):=hM1.cell 3;have m4:w1.cell? ⟨dm,4,none⟩=some (.int .i64 0):=hM1.cell 4;have m5:w1.cell? ⟨dm,5,none⟩=some (.int .i64 0):=hM1.cell 5;have m11:w1.cell? ⟨dm,11,none⟩=some (.pointer none):=hM1.cell 11;have m14:w1.cell? ⟨dm,14,none⟩=some (.int .i64 0):=hM1.cell 14;go_wp2
 go_region
 all_goals
  go_wp2
  go_ret2
  refine ⟨_,rfl,errv_ptr 5 (by omega) _,?_,hf.trans ?_⟩
  ·apply Exists.intro
   repeat (first|with_reducible exact hD.v|with_reducible apply DecV.set|with_reducible apply DecV.drewN|with_reducible apply DecV.alloc|with_reducible apply DecV.drew)
  ·repeat (first|with_reducible exact Fr.refl _ _|with_reducible refine Fr.setCell ?_ (by simp) _|with_reducible refine Fr.drewN ?_ _|with_reducible refine Fr.alloc ?_ _|with_reducible refine Fr.drew ?_)
theorem item_open4 (h:Dec w d db o c dm xs off) (hM:DecM w dm L.nest L.el L.pa) (hmd:dm≠d) (hdep:dep≤65535) {v o1 f:Nat} (hn:L.nest≤65535) (hel:L.el≤2147483647) (hpa:L.pa≤2147483647) (IH: ∀g,g<f→Item L xs g) (r:Except Nat (Nat×Nat)) (hh:hd xs off= .ok (4,31,v,o1)) (hs: ¬L.nest<dep+1) (hr:wfO L xs f 4 0 o1 (dep+1)=some r):
  Calls Tryz.prog 114 #[.pointer (some ⟨d,0,none⟩),.int .i64 (dep:Int),.bool false] w (WPost w d db o c dm xs r):=by
 have KI:=ihead h hM hmd;rw [hh] at KI;have hv:=hd_val hh;have hm:=h.len;have n3: ¬dm=d:=hmd;have n4: ¬d=dm:=fun e=>hmd e.symm
 replace hr:=Hz hr;replace IH:=Hz IH;have g2: ¬(L.nest:Int)<(dep:Int)+1:=by omega
 replace KI:=Hz KI;replace hh:=Hz hh;clear hv;go_enter Tryz.func114,Tryz.ntmps114
 go_wp2_with fail
 refine KI.out.mono ?_
 rintro e w1 ⟨rfl,hD,hf⟩;have hM1:=hM.fr hf (by simpa using hmd)
 have k0:=hD.c0;have k1:=hD.c1;have k2:=hD.c2;have kf:=hD.f1;have m1:w1.cell? ⟨dm,1,none⟩=some (.int .i64 (L.nest:Int)):=hM1.cell 1;have m2:w1.cell? ⟨dm,2,none⟩=some (.int .i64 (L.el:Int)):=hM1.cell 2;have m3:w1.cell? ⟨dm,3,none⟩=some (.int .i64 (L.pa:Int)):=hM1.cell 3;have m4:w1.cell? ⟨dm,4,none⟩=some (.int .i64 0):=hM1.cell 4;have m5:w1.cell? ⟨dm,5,none⟩=some (.int .i64 0):=hM1.cell 5;have m11:w1.cell? ⟨dm,11,none⟩=some (.pointer none):=hM1.cell 11;have m14:w1.cell? ⟨dm,14,none⟩=some (.int .i64 0):=hM1.cell 14;have K:=Hz (open_any hn hel hpa f IH.out 4 (by omega) (dep+1) r hD hM1 hmd (by omega) hr.out)
 go_wp2_with fail
 refine K.out.mono ?_
 rintro e w2 h2;rcases r with k|⟨D,o'⟩
 ·obtain ⟨v2,rfl,hv2,hu2,hf2⟩:=h2;go_wp2
  go_ret2
  exact ⟨_,rfl,hv2,hu2,hf.trans hf2⟩
 ·obtain ⟨rfl,hD2,hf2⟩:=h2;go_wp2
  go_ret2
  exact ⟨rfl,hD2,hf.trans hf2⟩
theorem item_list_neg4 (h:Dec w d db o c dm xs off) (hM:DecM w dm L.nest L.el L.pa) (hmd:dm≠d) (hdep:dep≤65535) {ai v o1:Nat} (hh:hd xs off= .ok (4,ai,v,o1)) (hs: ¬L.nest<dep+1) (h31:ai≠31) (h63:9223372036854775808≤v):
  Calls Tryz.prog 114 #[.pointer (some ⟨d,0,none⟩),.int .i64 (dep:Int),.bool false] w (WPost w d db o c dm xs (.error 16)):=by
 have KI:=ihead h hM hmd;rw [hh] at KI;have hv:=hd_val hh;have hm:=h.len;have n3: ¬dm=d:=hmd;have n4: ¬d=dm:=fun e=>hmd e.symm
 have g0:((ai:Int)==31)=false:=by simp;omega
 have gd: ¬(L.nest:Int)<(dep:Int)+1:=by omega
 obtain ⟨z,g1,g2⟩:=wrap_neg v h63 hv.1;have K1:=Hz (typeName 4 (by omega))
 have K2:=Hz (formatUint v hv.1);have K3:=dec_length v 20 (by omega) (by omega)
 clear h63;replace KI:=Hz KI;replace hh:=Hz hh;clear hv;go_enter Tryz.func114,Tryz.ntmps114
 go_wp2_with fail
 refine KI.out.mono ?_
 rintro e w1 ⟨rfl,hD,hf⟩;have hM1:=hM.fr hf (by simpa using hmd)
 have k0:=hD.c0;have k1:=hD.c1;have k2:=hD.c2;have kf:=hD.f1;have m1:w1.cell? ⟨dm,1,none⟩=some (.int .i64 (L.nest:Int)):=hM1.cell 1;have m2:w1.cell? ⟨dm,2,none⟩=some (.int .i64 (L.el:Int)):=hM1.cell 2;have m3:w1.cell? ⟨dm,3,none⟩=some (.int .i64 (L.pa:Int)):=hM1.cell 3;have m4:w1.cell? ⟨dm,4,none⟩=some (.int .i64 0):=hM1.cell 4;have m5:w1.cell? ⟨dm,5,none⟩=some (.int .i64 0):=hM1.cell 5;have m11:w1.cell? ⟨dm,11,none⟩=some (.pointer none):=hM1.cell 11;have m14:w1.cell? ⟨dm,14,none⟩=some (.int .i64 0):=hM1.cell 14;go_wp2_with fail
 refine (K1.out _).mono ?_
 rintro e w2 ⟨s1,rfl,hs1,rfl⟩;go_wp2_with fail
 refine (K2.out _).mono ?_
 rintro e w3 ⟨rfl,hf9⟩;go_wp2
 go_ret2
 refine ⟨_,rfl,err16 _ (size_last _ _ (by decide)),?_,hf.trans ?_⟩
 ·apply Exists.intro
  repeat (first|with_reducible exact hD.v|with_reducible apply DecV.set|with_reducible apply DecV.drewN|with_reducible apply DecV.alloc|with_reducible apply DecV.drew|with_reducible apply DecV.fr0 hf9)
 ·repeat (first|with_reducible exact Fr.refl _ _|with_reducible refine Fr.setCell ?_ (by simp) _|with_reducible refine Fr.drewN ?_ _|with_reducible refine Fr.alloc ?_ _|with_reducible refine Fr.drew ?_|with_reducible refine Fr.then0 ?_ hf9)
theorem item_many4 (h:Dec w d db o c dm xs off) (hM:DecM w dm L.nest L.el L.pa) (hmd:dm≠d) (hdep:dep≤65535) {ai v o1:Nat} (hh:hd xs off= .ok (4,ai,v,o1)) (hs: ¬L.nest<dep+1) (h31:ai≠31) (h63: ¬9223372036854775808≤v) (hm2:L.el<v):
  Calls Tryz.prog 114 #[.pointer (some ⟨d,0,none⟩),.int .i64 (dep:Int),.bool false] w (WPost w d db o c dm xs (.error 6)):=by
 have KI:=ihead h hM hmd;rw [hh] at KI;have hv:=hd_val hh;have hm:=h.len;have n3: ¬dm=d:=hmd;have n4: ¬d=dm:=fun e=>hmd e.symm
 have g0:((ai:Int)==31)=false:=by simp;omega
 have gd: ¬(L.nest:Int)<(dep:Int)+1:=by omega
 have g1:=wrap_pos v h63;have g3:(L.el:Int)<(v:Int):=by omega
 clear h63;replace KI:=Hz KI;replace hh:=Hz hh;clear hv;go_enter Tryz.func114,Tryz.ntmps114
 go_wp2_with fail
 refine KI.out.mono ?_
 rintro e w1 ⟨rfl,hD,hf⟩;have hM1:=hM.fr hf (by simpa using hmd)
 have k0:=hD.c0;have k1:=hD.c1;have k2:=hD.c2;have kf:=hD.f1;have m1:w1.cell? ⟨dm,1,none⟩=some (.int .i64 (L.nest:Int)):=hM1.cell 1;have m2:w1.cell? ⟨dm,2,none⟩=some (.int .i64 (L.el:Int)):=hM1.cell 2;have m3:w1.cell? ⟨dm,3,none⟩=some (.int .i64 (L.pa:Int)):=hM1.cell 3;have m4:w1.cell? ⟨dm,4,none⟩=some (.int .i64 0):=hM1.cell 4;have m5:w1.cell? ⟨dm,5,none⟩=some (.int .i64 0):=hM1.cell 5;have m11:w1.cell? ⟨dm,11,none⟩=some (.pointer none):=hM1.cell 11;have m14:w1.cell? ⟨dm,14,none⟩=some (.int .i64 0):=hM1.cell 14;go_wp2
 go_region
 all_goals
  go_wp2
  go_ret2
  refine ⟨_,rfl,errv_ptr 6 (by omega) _,?_,hf.trans ?_⟩
  ·apply Exists.intro
   repeat (first|with_reducible exact hD.v|with_reducible apply DecV.set|with_reducible apply DecV.drewN|with_reducible apply DecV.alloc|with_reducible apply DecV.drew)
  ·repeat (first|with_reducible exact Fr.refl _ _|with_reducible refine Fr.setCell ?_ (by simp) _|with_reducible refine Fr.drewN ?_ _|with_reducible refine Fr.alloc ?_ _|with_reducible refine Fr.drew ?_)
theorem item_list4 (h:Dec w d db o c dm xs off) (hM:DecM w dm L.nest L.el L.pa) (hmd:dm≠d) (hdep:dep≤65535) {ai v o1 f:Nat} (hn:L.nest≤65535) (hlim:L.el≤2147483647) (IH: ∀g,g<f→Item L xs g) (r:Except Nat (Nat×Nat)) (hh:hd xs off= .ok (4,ai,v,o1)) (hs: ¬L.nest<dep+1) (h31:ai≠31) (hm2: ¬L.el<v) (hr:wfN L xs f (v*1) o1 (dep+1)=some r):
  Calls Tryz.prog 114 #[.pointer (some ⟨d,0,none⟩),.int .i64 (dep:Int),.bool false] w (WPost w d db o c dm xs r):=by
 have KI:=ihead h hM hmd;rw [hh] at KI;have hv:=hd_val hh;have hm:=h.len;have n3: ¬dm=d:=hmd;have n4: ¬d=dm:=fun e=>hmd e.symm
 have g0:((ai:Int)==31)=false:=by simp;omega
 have gd: ¬(L.nest:Int)<(dep:Int)+1:=by omega
 have g1:=wrap_pos v (by omega)
 have g3: ¬(L.el:Int)<(v:Int):=by omega
 have gv:v≤2147483647:=by omega
 have hr:joinD (dep+1) (wfN L xs f (v*1) o1 (dep+1))=some r:=by
  rw [hr];rcases r with k|⟨D,o'⟩
  ·rfl
  ·have:=((wfI_dep L xs hn f).2.2.2.1 _ _ _ _ _ (by omega) hr).2
   simp only [joinD];rw [Nat.max_eq_right this]
 replace hr:=Hz hr;replace IH:=Hz IH;replace KI:=Hz KI;replace hh:=Hz hh;clear hv;go_enter Tryz.func114,Tryz.ntmps114
 go_wp2_with fail
 refine KI.out.mono ?_
 rintro e w1 ⟨rfl,hD,hf⟩;have hM1:=hM.fr hf (by simpa using hmd)
 have k0:=hD.c0;have k1:=hD.c1;have k2:=hD.c2;have kf:=hD.f1;have m1:w1.cell? ⟨dm,1,none⟩=some (.int .i64 (L.nest:Int)):=hM1.cell 1;have m2:w1.cell? ⟨dm,2,none⟩=some (.int .i64 (L.el:Int)):=hM1.cell 2;have m3:w1.cell? ⟨dm,3,none⟩=some (.int .i64 (L.pa:Int)):=hM1.cell 3;have m4:w1.cell? ⟨dm,4,none⟩=some (.int .i64 0):=hM1.cell 4;have m5:w1.cell? ⟨dm,5,none⟩=some (.int .i64 0):=hM1.cell 5;have m11:w1.cell? ⟨dm,11,none⟩=some (.pointer none):=hM1.cell 11;have m14:w1.cell? ⟨dm,14,none⟩=some (.int .i64 0):=hM1.cell 14;go_wp2
 go_loopg [16,17] 1 (fun k v16 v17 wr=> ∃M j off fu:Nat,v16= .int .i64 (M:Int)∧v17= .int .i64 (j:Int)∧j+k=1∧fu≤f∧dep+1≤M∧M≤65535∧Hid (joinD M (wfN L xs fu (v*k) off (dep+1))=some r)∧Dec wr d db o c dm xs off∧Fr [d] w1 wr)
 case atStart=>exact ⟨dep+1,0,o1,f,by go_num,rfl,by omega,Nat.le_refl _,Nat.le_refl _,by omega,hr,hD,Fr.refl _ _⟩
 case round=>
  obtain ⟨M,j,off2,fu,rfl,rfl,hj,hfu,hdM,hM5,hr2,hD2,hf2⟩:=hrel;clear k0 k1 k2 kf m1 m2 m3 m4 m5 m11 m14;obtain ⟨wo,rfl⟩: ∃wo:World,wo=wr:=⟨_,rfl⟩;by_cases hk:gk=0
  ·subst hk;have t1: ¬(j:Int)<1:=by omega
   have fin:r= .ok (M,off2):=by
    have:=hr2.out;rcases fu with _|fu
    ·simp [wfN,joinD] at this
    ·unfold wfN at this;simp only [Nat.mul_zero,joinD,Option.some.injEq] at this;rw [←this,Nat.max_eq_left hdM]
   subst fin;go_wp2
   go_ret2
   exact ⟨rfl,hD2,hf.trans hf2⟩
  ·have t1:(j:Int)<1:=by omega
   have hj64:j≤2:=by omega
   obtain ⟨kk,rfl⟩: ∃g,gk=g+1:=⟨gk-1,by omega⟩
   replace hj:=Hz hj;clear hk;go_wp2
   go_loopg [16,18] v (fun k v16 v18 wr=> ∃M i off fu:Nat,v16= .int .i64 (M:Int)∧v18= .int .i64 (i:Int)∧Hid (i+k=v)∧fu≤f∧dep+1≤M∧M≤65535∧Hid (joinD M (wfN L xs fu (v*kk+k) off (dep+1))=some r)∧Dec wr d db o c dm xs off∧Fr [d] wo wr)
   case atStart=>exact ⟨M,0,off2,fu,rfl,rfl,Nat.zero_add v,hfu,hdM,hM5,hr2,hD2,Fr.refl _ _⟩
   case round=>
    obtain ⟨M,i,off3,fu,rfl,rfl,hi,hfu,hdM,hM5,hr3,hD3,hf3⟩:=hrel;have hM3:DecM wr dm L.nest L.el L.pa:=hM1.fr (hf2.trans hf3) (by simpa using hmd)
    by_cases hk:gk=0
    ·subst hk;have t2: ¬(i:Int)<(v:Int):=by have:=hi.out;omega
     go_wp2
     go_roundg kk
     case measure=>omega
     case rel=>exact ⟨M,j+1,off3,fu,rfl,by go_num,by have:=hj.out;omega,hfu,hdM,hM5,hr3,hD3,hf2.trans hf3⟩
    ·have t2:(i:Int)<(v:Int):=by have:=hi.out;omega
     have hi64:i≤2147483647:=by omega
     obtain ⟨g,rfl⟩: ∃g,gk=g+1:=⟨gk-1,by omega⟩
     have hr4:=hr3.out;rcases fu with _|fu
     ·simp [wfN,joinD] at hr4
     unfold wfN at hr4;rw [show v*kk+(g+1)=(v*kk+g)+1 from rfl] at hr4
     dsimp only at hr4;cases hI:wfI L xs fu off3 (dep+1) with
     |none=>rw [hI] at hr4;cases hr4
     |some q=>
      rw [hI] at hr4;have C:=IH.out fu (by omega) wr d db o c dm off3 (dep+1) q hD3 hM3 hmd (by omega) hI
      replace C:=Hz C;clear hk;cases q with
      |error k=>
       cases hr4
       clear hI hr3 hr2;go_wp2_with fail
       refine C.out.mono ?_
       rintro e w2 ⟨v2,rfl,hv2,hu2,hf4⟩;obtain ⟨t,x,rfl⟩:=hv2.iface;go_wp2
       go_ret2
       exact ⟨_,rfl,hv2,hu2,((hf.trans hf2).trans hf3).trans hf4⟩
      |ok p=>
       obtain ⟨D,o'⟩:=p;dsimp only at hr4;have hDd:=((wfI_dep L xs hn fu).1 _ _ _ _ (by omega) hI).1
       rw [joinD_joinD] at hr4;replace hr4:=Hz hr4;have hM65:max M D≤65535:=by omega
       have hdM':dep+1≤max M D:=by omega
       clear hI hr3 hr2;by_cases hMD:(M:Int)<(D:Int)
       ·have hmax:Value.int .i64 (D:Int)= .int .i64 ((max M D:Nat):Int):=by congr 1;omega
        go_wp2_with fail
        refine C.out.mono ?_
        rintro e w2 ⟨rfl,hD4,hf4⟩;go_wp2
        go_roundg g
        case measure=>omega
        case rel=>exact ⟨max M D,i+1,o',fu,rfl,by go_num,(show i+1+g=v by have:=hi.out;omega),by omega,hdM',hM65,hr4,hD4,hf3.trans hf4⟩
       ·have hmax:Value.int .i64 (M:Int)= .int .i64 ((max M D:Nat):Int):=by congr 1;omega
        go_wp2_with fail
        refine C.out.mono ?_
        rintro e w2 ⟨rfl,hD4,hf4⟩;go_wp2
        go_roundg g
        case measure=>omega
        case rel=>exact ⟨max M D,i+1,o',fu,rfl,by go_num,(show i+1+g=v by have:=hi.out;omega),by omega,hdM',hM65,hr4,hD4,hf3.trans hf4⟩
theorem item_deep5 (h:Dec w d db o c dm xs off) (hM:DecM w dm L.nest L.el L.pa) (hmd:dm≠d) (hdep:dep≤65535) {ai v o1:Nat} (hh:hd xs off= .ok (5,ai,v,o1)) (hs:L.nest<dep+1):
  Calls Tryz.prog 114 #[.pointer (some ⟨d,0,none⟩),.int .i64 (dep:Int),.bool false] w (WPost w d db o c dm xs (.error 5)):=by
 have KI:=ihead h hM hmd;rw [hh] at KI;have hv:=hd_val hh;have hm:=h.len;have n3: ¬dm=d:=hmd;have n4: ¬d=dm:=fun e=>hmd e.symm
 have g2:(L.nest:Int)<(dep:Int)+1:=by omega
 replace KI:=Hz KI;replace hh:=Hz hh;clear hv;go_enter Tryz.func114,Tryz.ntmps114
 go_wp2_with fail
 refine KI.out.mono ?_
 rintro e w1 ⟨rfl,hD,hf⟩;have hM1:=hM.fr hf (by simpa using hmd)
 have k0:=hD.c0;have k1:=hD.c1;have k2:=hD.c2;have kf:=hD.f1;have m1:w1.cell? ⟨dm,1,none⟩=some (.int .i64 (L.nest:Int)):=hM1.cell 1;have m2:w1.cell? ⟨dm,2,none⟩=some (.int .i64 (L.el:Int)):=hM1.cell 2;have m3:w1.cell? ⟨dm,3,none⟩=some (.int .i64 (L.pa:Int)):=hM1.cell 3;have m4:w1.cell? ⟨dm,4,none⟩=some (.int .i64 0):=hM1.cell 4;have m5:w1.cell? ⟨dm,5,none⟩=some (.int .i64 0):=hM1.cell 5;have m11:w1.cell? ⟨dm,11,none⟩=some (.pointer none):=hM1.cell 11;have m14:w1.cell? ⟨dm,14,none⟩=some (.int .i64 0):=hM1.cell 14;go_wp2
 go_region
 all_goals
  go_wp2
  go_ret2
  refine ⟨_,rfl,errv_ptr 5 (by omega) _,?_,hf.trans ?_⟩
  ·apply Exists.intro
   repeat (first|with_reducible exact hD.v|with_reducible apply DecV.set|with_reducible apply DecV.drewN|with_reducible apply DecV.alloc|with_reducible apply DecV.drew)
  ·repeat (first|with_reducible exact Fr.refl _ _|with_reducible refine Fr.setCell ?_ (by simp) _|with_reducible refine Fr.drewN ?_ _|with_reducible refine Fr.alloc ?_ _|with_reducible refine Fr.drew ?_)
theorem item_open5 (h:Dec w d db o c dm xs off) (hM:DecM w dm L.nest L.el L.pa) (hmd:dm≠d) (hdep:dep≤65535) {v o1 f:Nat} (hn:L.nest≤65535) (hel:L.el≤2147483647) (hpa:L.pa≤2147483647) (IH: ∀g,g<f→Item L xs g) (r:Except Nat (Nat×Nat)) (hh:hd xs off= .ok (5,31,v,o1)) (hs: ¬L.nest<dep+1) (hr:wfO L xs f 5 0 o1 (dep+1)=some r):
  Calls Tryz.prog 114 #[.pointer (some ⟨d,0,none⟩),.int .i64 (dep:Int),.bool false] w (WPost w d db o c dm xs r):=by
 have KI:=ihead h hM hmd;rw [hh] at KI;have hv:=hd_val hh;have hm:=h.len;have n3: ¬dm=d:=hmd;have n4: ¬d=dm:=fun e=>hmd e.symm
 replace hr:=Hz hr;replace IH:=Hz IH;have g2: ¬(L.nest:Int)<(dep:Int)+1:=by omega
 replace KI:=Hz KI;replace hh:=Hz hh;clear hv;go_enter Tryz.func114,Tryz.ntmps114
 go_wp2_with fail
 refine KI.out.mono ?_
 rintro e w1 ⟨rfl,hD,hf⟩;have hM1:=hM.fr hf (by simpa using hmd)
 have k0:=hD.c0;have k1:=hD.c1;have k2:=hD.c2;have kf:=hD.f1;have m1:w1.cell? ⟨dm,1,none⟩=some (.int .i64 (L.nest:Int)):=hM1.cell 1;have m2:w1.cell? ⟨dm,2,none⟩=some (.int .i64 (L.el:Int)):=hM1.cell 2;have m3:w1.cell? ⟨dm,3,none⟩=some (.int .i64 (L.pa:Int)):=hM1.cell 3;have m4:w1.cell? ⟨dm,4,none⟩=some (.int .i64 0):=hM1.cell 4;have m5:w1.cell? ⟨dm,5,none⟩=some (.int .i64 0):=hM1.cell 5;have m11:w1.cell? ⟨dm,11,none⟩=some (.pointer none):=hM1.cell 11;have m14:w1.cell? ⟨dm,14,none⟩=some (.int .i64 0):=hM1.cell 14;have K:=Hz (open_any hn hel hpa f IH.out 5 (by omega) (dep+1) r hD hM1 hmd (by omega) hr.out)
 go_wp2_with fail
 refine K.out.mono ?_
 rintro e w2 h2;rcases r with k|⟨D,o'⟩
 ·obtain ⟨v2,rfl,hv2,hu2,hf2⟩:=h2;go_wp2
  go_ret2
  exact ⟨_,rfl,hv2,hu2,hf.trans hf2⟩
 ·obtain ⟨rfl,hD2,hf2⟩:=h2;go_wp2
  go_ret2
  exact ⟨rfl,hD2,hf.trans hf2⟩
theorem item_list_neg5 (h:Dec w d db o c dm xs off) (hM:DecM w dm L.nest L.el L.pa) (hmd:dm≠d) (hdep:dep≤65535) {ai v o1:Nat} (hh:hd xs off= .ok (5,ai,v,o1)) (hs: ¬L.nest<dep+1) (h31:ai≠31) (h63:9223372036854775808≤v):
  Calls Tryz.prog 114 #[.pointer (some ⟨d,0,none⟩),.int .i64 (dep:Int),.bool false] w (WPost w d db o c dm xs (.error 16)):=by
 have KI:=ihead h hM hmd;rw [hh] at KI;have hv:=hd_val hh;have hm:=h.len;have n3: ¬dm=d:=hmd;have n4: ¬d=dm:=fun e=>hmd e.symm
 have g0:((ai:Int)==31)=false:=by simp;omega
 have gd: ¬(L.nest:Int)<(dep:Int)+1:=by omega
 obtain ⟨z,g1,g2⟩:=wrap_neg v h63 hv.1;have K1:=Hz (typeName 5 (by omega))
 have K2:=Hz (formatUint v hv.1);have K3:=dec_length v 20 (by omega) (by omega)
 clear h63;replace KI:=Hz KI;replace hh:=Hz hh;clear hv;go_enter Tryz.func114,Tryz.ntmps114
 go_wp2_with fail
 refine KI.out.mono ?_
 rintro e w1 ⟨rfl,hD,hf⟩;have hM1:=hM.fr hf (by simpa using hmd)
 have k0:=hD.c0;have k1:=hD.c1;have k2:=hD.c2;have kf:=hD.f1;have m1:w1.cell? ⟨dm,1,none⟩=some (.int .i64 (L.nest:Int)):=hM1.cell 1;have m2:w1.cell? ⟨dm,2,none⟩=some (.int .i64 (L.el:Int)):=hM1.cell 2;have m3:w1.cell? ⟨dm,3,none⟩=some (.int .i64 (L.pa:Int)):=hM1.cell 3;have m4:w1.cell? ⟨dm,4,none⟩=some (.int .i64 0):=hM1.cell 4;have m5:w1.cell? ⟨dm,5,none⟩=some (.int .i64 0):=hM1.cell 5;have m11:w1.cell? ⟨dm,11,none⟩=some (.pointer none):=hM1.cell 11;have m14:w1.cell? ⟨dm,14,none⟩=some (.int .i64 0):=hM1.cell 14;go_wp2_with fail
 refine (K1.out _).mono ?_
 rintro e w2 ⟨s1,rfl,hs1,rfl⟩;go_wp2_with fail
 refine (K2.out _).mono ?_
 rintro e w3 ⟨rfl,hf9⟩;go_wp2
 go_ret2
 refine ⟨_,rfl,err16 _ (size_last _ _ (by decide)),?_,hf.trans ?_⟩
 ·apply Exists.intro
  repeat (first|with_reducible exact hD.v|with_reducible apply DecV.set|with_reducible apply DecV.drewN|with_reducible apply DecV.alloc|with_reducible apply DecV.drew|with_reducible apply DecV.fr0 hf9)
 ·repeat (first|with_reducible exact Fr.refl _ _|with_reducible refine Fr.setCell ?_ (by simp) _|with_reducible refine Fr.drewN ?_ _|with_reducible refine Fr.alloc ?_ _|with_reducible refine Fr.drew ?_|with_reducible refine Fr.then0 ?_ hf9)
theorem item_many5 (h:Dec w d db o c dm xs off) (hM:DecM w dm L.nest L.el L.pa) (hmd:dm≠d) (hdep:dep≤65535) {ai v o1:Nat} (hh:hd xs off= .ok (5,ai,v,o1)) (hs: ¬L.nest<dep+1) (h31:ai≠31) (h63: ¬9223372036854775808≤v) (hm2:L.pa<v):
  Calls Tryz.prog 114 #[.pointer (some ⟨d,0,none⟩),.int .i64 (dep:Int),.bool false] w (WPost w d db o c dm xs (.error 7)):=by
 have KI:=ihead h hM hmd;rw [hh] at KI;have hv:=hd_val hh;have hm:=h.len;have n3: ¬dm=d:=hmd;have n4: ¬d=dm:=fun e=>hmd e.symm
 have g0:((ai:Int)==31)=false:=by simp;omega
 have gd: ¬(L.nest:Int)<(dep:Int)+1:=by omega
 have g1:=wrap_pos v h63;have g3:(L.pa:Int)<(v:Int):=by omega
 clear h63;replace KI:=Hz KI;replace hh:=Hz hh;clear hv;go_enter Tryz.func114,Tryz.ntmps114
 go_wp2_with fail
 refine KI.out.mono ?_
 rintro e w1 ⟨rfl,hD,hf⟩;have hM1:=hM.fr hf (by simpa using hmd)
 have k0:=hD.c0;have k1:=hD.c1;have k2:=hD.c2;have kf:=hD.f1;have m1:w1.cell? ⟨dm,1,none⟩=some (.int .i64 (L.nest:Int)):=hM1.cell 1;have m2:w1.cell? ⟨dm,2,none⟩=some (.int .i64 (L.el:Int)):=hM1.cell 2;have m3:w1.cell? ⟨dm,3,none⟩=some (.int .i64 (L.pa:Int)):=hM1.cell 3;have m4:w1.cell? ⟨dm,4,none⟩=some (.int .i64 0):=hM1.cell 4;have m5:w1.cell? ⟨dm,5,none⟩=some (.int .i64 0):=hM1.cell 5;have m11:w1.cell? ⟨dm,11,none⟩=some (.pointer none):=hM1.cell 11;have m14:w1.cell? ⟨dm,14,none⟩=some (.int .i64 0):=hM1.cell 14;go_wp2
 go_region
 all_goals
  go_wp2
  go_ret2
  refine ⟨_,rfl,errv_ptr 7 (by omega) _,?_,hf.trans ?_⟩
  ·apply Exists.intro
   repeat (first|with_reducible exact hD.v|with_reducible apply DecV.set|with_reducible apply DecV.drewN|with_reducible apply DecV.alloc|with_reducible apply DecV.drew)
  ·repeat (first|with_reducible exact Fr.refl _ _|with_reducible refine Fr.setCell ?_ (by simp) _|with_reducible refine Fr.drewN ?_ _|with_reducible refine Fr.alloc ?_ _|with_reducible refine Fr.drew ?_)
theorem item_list5 (h:Dec w d db o c dm xs off) (hM:DecM w dm L.nest L.el L.pa) (hmd:dm≠d) (hdep:dep≤65535) {ai v o1 f:Nat} (hn:L.nest≤65535) (hlim:L.pa≤2147483647) (IH: ∀g,g<f→Item L xs g) (r:Except Nat (Nat×Nat)) (hh:hd xs off= .ok (5,ai,v,o1)) (hs: ¬L.nest<dep+1) (h31:ai≠31) (hm2: ¬L.pa<v) (hr:wfN L xs f (v*2) o1 (dep+1)=some r):
  Calls Tryz.prog 114 #[.pointer (some ⟨d,0,none⟩),.int .i64 (dep:Int),.bool false] w (WPost w d db o c dm xs r):=by
 have KI:=ihead h hM hmd;rw [hh] at KI;have hv:=hd_val hh;have hm:=h.len;have n3: ¬dm=d:=hmd;have n4: ¬d=dm:=fun e=>hmd e.symm
 have g0:((ai:Int)==31)=false:=by simp;omega
 have gd: ¬(L.nest:Int)<(dep:Int)+1:=by omega
 have g1:=wrap_pos v (by omega)
 have g3: ¬(L.pa:Int)<(v:Int):=by omega
 have gv:v≤2147483647:=by omega
 have hr:joinD (dep+1) (wfN L xs f (v*2) o1 (dep+1))=some r:=by
  rw [hr];rcases r with k|⟨D,o'⟩
  ·rfl
  ·have:=((wfI_dep L xs hn f).2.2.2.1 _ _ _ _ _ (by omega) hr).2
   simp only [joinD];rw [Nat.max_eq_right this]
 replace hr:=Hz hr;replace IH:=Hz IH;replace KI:=Hz KI;replace hh:=Hz hh;clear hv;go_enter Tryz.func114,Tryz.ntmps114
 go_wp2_with fail
 refine KI.out.mono ?_
 rintro e w1 ⟨rfl,hD,hf⟩;have hM1:=hM.fr hf (by simpa using hmd)
 have k0:=hD.c0;have k1:=hD.c1;have k2:=hD.c2;have kf:=hD.f1;have m1:w1.cell? ⟨dm,1,none⟩=some (.int .i64 (L.nest:Int)):=hM1.cell 1;have m2:w1.cell? ⟨dm,2,none⟩=some (.int .i64 (L.el:Int)):=hM1.cell 2;have m3:w1.cell? ⟨dm,3,none⟩=some (.int .i64 (L.pa:Int)):=hM1.cell 3;have m4:w1.cell? ⟨dm,4,none⟩=some (.int .i64 0):=hM1.cell 4;have m5:w1.cell? ⟨dm,5,none⟩=some (.int .i64 0):=hM1.cell 5;have m11:w1.cell? ⟨dm,11,none⟩=some (.pointer none):=hM1.cell 11;have m14:w1.cell? ⟨dm,14,none⟩=some (.int .i64 0):=hM1.cell 14;go_wp2
 go_loopg [16,17] 2 (fun k v16 v17 wr=> ∃M j off fu:Nat,v16= .int .i64 (M:Int)∧v17= .int .i64 (j:Int)∧j+k=2∧fu≤f∧dep+1≤M∧M≤65535∧Hid (joinD M (wfN L xs fu (v*k) off (dep+1))=some r)∧Dec wr d db o c dm xs off∧Fr [d] w1 wr)
 case atStart=>exact ⟨dep+1,0,o1,f,by go_num,rfl,by omega,Nat.le_refl _,Nat.le_refl _,by omega,hr,hD,Fr.refl _ _⟩
 case round=>
  obtain ⟨M,j,off2,fu,rfl,rfl,hj,hfu,hdM,hM5,hr2,hD2,hf2⟩:=hrel;clear k0 k1 k2 kf m1 m2 m3 m4 m5 m11 m14;obtain ⟨wo,rfl⟩: ∃wo:World,wo=wr:=⟨_,rfl⟩;by_cases hk:gk=0
  ·subst hk;have t1: ¬(j:Int)<2:=by omega
   have fin:r= .ok (M,off2):=by
    have:=hr2.out;rcases fu with _|fu
    ·simp [wfN,joinD] at this
    ·unfold wfN at this;simp only [Nat.mul_zero,joinD,Option.some.injEq] at this;rw [←this,Nat.max_eq_left hdM]
   subst fin;go_wp2
   go_ret2
   exact ⟨rfl,hD2,hf.trans hf2⟩
  ·have t1:(j:Int)<2:=by omega
   have hj64:j≤2:=by omega
   obtain ⟨kk,rfl⟩: ∃g,gk=g+1:=⟨gk-1,by omega⟩
   replace hj:=Hz hj;clear hk;go_wp2
   go_loopg [16,18] v (fun k v16 v18 wr=> ∃M i off fu:Nat,v16= .int .i64 (M:Int)∧v18= .int .i64 (i:Int)∧Hid (i+k=v)∧fu≤f∧dep+1≤M∧M≤65535∧Hid (joinD M (wfN L xs fu (v*kk+k) off (dep+1))=some r)∧Dec wr d db o c dm xs off∧Fr [d] wo wr)
   case atStart=>exact ⟨M,0,off2,fu,rfl,rfl,Nat.zero_add v,hfu,hdM,hM5,hr2,hD2,Fr.refl _ _⟩
   case round=>
    obtain ⟨M,i,off3,fu,rfl,rfl,hi,hfu,hdM,hM5,hr3,hD3,hf3⟩:=hrel;have hM3:DecM wr dm L.nest L.el L.pa:=hM1.fr (hf2.trans hf3) (by simpa using hmd)
    by_cases hk:gk=0
    ·subst hk;have t2: ¬(i:Int)<(v:Int):=by have:=hi.out;omega
     go_wp2
     go_roundg kk
     case measure=>omega
     case rel=>exact ⟨M,j+1,off3,fu,rfl,by go_num,by have:=hj.out;omega,hfu,hdM,hM5,hr3,hD3,hf2.trans hf3⟩
    ·have t2:(i:Int)<(v:Int):=by have:=hi.out;omega
     have hi64:i≤2147483647:=by omega
     obtain ⟨g,rfl⟩: ∃g,gk=g+1:=⟨gk-1,by omega⟩
     have hr4:=hr3.out;rcases fu with _|fu
     ·simp [wfN,joinD] at hr4
     unfold wfN at hr4;rw [show v*kk+(g+1)=(v*kk+g)+1 from rfl] at hr4
     dsimp only at hr4;cases hI:wfI L xs fu off3 (dep+1) with
     |none=>rw [hI] at hr4;cases hr4
     |some q=>
      rw [hI] at hr4;have C:=IH.out fu (by omega) wr d db o c dm off3 (dep+1) q hD3 hM3 hmd (by omega) hI
      replace C:=Hz C;clear hk;cases q with
      |error k=>
       cases hr4
       clear hI hr3 hr2;go_wp2_with fail
       refine C.out.mono ?_
       rintro e w2 ⟨v2,rfl,hv2,hu2,hf4⟩;obtain ⟨t,x,rfl⟩:=hv2.iface;go_wp2
       go_ret2
       exact ⟨_,rfl,hv2,hu2,((hf.trans hf2).trans hf3).trans hf4⟩
      |ok p=>
       obtain ⟨D,o'⟩:=p;dsimp only at hr4;have hDd:=((wfI_dep L xs hn fu).1 _ _ _ _ (by omega) hI).1
       rw [joinD_joinD] at hr4;replace hr4:=Hz hr4;have hM65:max M D≤65535:=by omega
       have hdM':dep+1≤max M D:=by omega
       clear hI hr3 hr2;by_cases hMD:(M:Int)<(D:Int)
       ·have hmax:Value.int .i64 (D:Int)= .int .i64 ((max M D:Nat):Int):=by congr 1;omega
        go_wp2_with fail
        refine C.out.mono ?_
        rintro e w2 ⟨rfl,hD4,hf4⟩;go_wp2
        go_roundg g
        case measure=>omega
        case rel=>exact ⟨max M D,i+1,o',fu,rfl,by go_num,(show i+1+g=v by have:=hi.out;omega),by omega,hdM',hM65,hr4,hD4,hf3.trans hf4⟩
       ·have hmax:Value.int .i64 (M:Int)= .int .i64 ((max M D:Nat):Int):=by congr 1;omega
        go_wp2_with fail
        refine C.out.mono ?_
        rintro e w2 ⟨rfl,hD4,hf4⟩;go_wp2
        go_roundg g
        case measure=>omega
        case rel=>exact ⟨max M D,i+1,o',fu,rfl,by go_num,(show i+1+g=v by have:=hi.out;omega),by omega,hdM',hM65,hr4,hD4,hf3.trans hf4⟩
end
end
end Go.Proofs.YteodinhkhhaafaaGreatDoor
