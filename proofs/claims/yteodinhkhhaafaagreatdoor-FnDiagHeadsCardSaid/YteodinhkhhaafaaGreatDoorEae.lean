/- Walks of the program, and plain facts. -/
import Derived.Test.YteodinhkhhaafaaGreatDoorEad
import Derived.RegionTactic
import Derived.BigRegion
set_option linter.unusedVariables false
set_option linter.unusedSimpArgs false
set_option maxRecDepth 100000
set_option maxHeartbeats 6400000
namespace Go.Proofs.YteodinhkhhaafaaGreatDoor
section
open Go.RowKit
theorem hd_off {xs:List UInt8} {off m ai v o:Nat} (h:hd xs off= .ok (m,ai,v,o)):off<o∧m<8∧ai≤31∧(ai=31→2≤m∧m≤5):=by
 unfold hd at h
 split at h
 ·cases h
 ·rename_i b _;have hb:=u8lt b
  split at h
  ·cases h;omega
  ·split at h
   ·split at h
    ·cases h
    ·split at h
     ·cases h
     ·have:=Nat.two_pow_pos (b.toNat%32-24);cases h
      refine ⟨by omega,by omega,by omega,by omega⟩
   ·split at h
    ·split at h
     ·cases h
     ·cases h;omega
    ·cases h
theorem joinD_ok {D:Nat} {r:Option (Except Nat (Nat×Nat))} {D' o:Nat} (h:joinD D r=some (.ok (D',o))): ∃D1,r=some (.ok (D1,o))∧D'=max D D1:=by
 unfold joinD at h
 split at h
 ·cases h;exact ⟨_,rfl,rfl⟩
 ·exact ⟨D',h,by rename_i hx;exact absurd h (hx _ _)⟩
theorem joinD_joinD (M D:Nat) (r:Option (Except Nat (Nat×Nat))):joinD M (joinD D r)=joinD (max M D) r:=by
 unfold joinD;rcases r with _|(_|⟨D',o⟩)
 ·rfl
 ·rfl
 ·simp only [Nat.max_assoc]
theorem wfI_off (L:Lim) (xs:List UInt8): ∀f,(∀off dep D o,wfI L xs f off dep=some (.ok (D,o))→off<o)∧(∀m off dep D o,wfS L xs f m off dep=some (.ok (D,o))→off<o)∧
  (∀m i off dep D o,wfO L xs f m i off dep=some (.ok (D,o))→off<o)∧(∀n off dep D o,wfN L xs f n off dep=some (.ok (D,o))→off≤o)∧(∀off dep D o,wfT L xs f off dep=some (.ok (D,o))→off<o):=by
 intro f
 induction f with
 |zero=>simp [wfI,wfS,wfO,wfN,wfT]
 |succ f ih=>
  obtain ⟨i1,i2,i3,i4,i5⟩:=ih;refine ⟨?_,?_,?_,?_,?_⟩
  ·intro off dep D o h;unfold wfI at h
   split at h
   ·cases h
   ·rename_i hh;have ho:=(hd_off hh).1
    split at h
    ·split at h
     ·have:=i2 _ _ _ _ _ h;omega
     ·split at h
      ·cases h
      ·split at h
       ·cases h
       ·cases h;omega
    ·split at h
     ·split at h
      ·cases h
      ·split at h
       ·have:=i3 _ _ _ _ _ _ h;omega
       ·split at h
        ·cases h
        ·split at h
         ·cases h
         ·split at h
          ·cases h
          ·have:=i4 _ _ _ _ _ h;omega
     ·split at h
      ·have:=i5 _ _ _ _ h;omega
      ·cases h;omega
  ·intro m off dep D o h;unfold wfS at h
   split at h
   ·cases h
   ·split at h
    ·cases h;omega
    ·split at h
     ·cases h
     ·split at h
      ·cases h
      ·split at h
       ·rename_i D1 o1 h1;have a:=i1 _ _ _ _ h1;have b:=i2 _ _ _ _ _ h;omega
       ·exact i1 _ _ _ _ h
  ·intro m i off dep D o h;unfold wfO at h
   split at h
   ·cases h
   ·split at h
    ·split at h
     ·cases h
     ·cases h;omega
    ·split at h
     ·rename_i D1 o1 h1
      split at h
      ·cases h
      ·split at h
       ·cases h
       ·obtain ⟨D2,h2,rfl⟩:=joinD_ok h;have a:=i1 _ _ _ _ h1;have b:=i3 _ _ _ _ _ _ h2;omega
     ·exact i1 _ _ _ _ h
  ·intro n off dep D o h;unfold wfN at h
   split at h
   ·cases h;omega
   ·split at h
    ·rename_i D1 o1 h1;obtain ⟨D2,h2,rfl⟩:=joinD_ok h;have a:=i1 _ _ _ _ h1;have b:=i4 _ _ _ _ _ h2;omega
    ·have:=i1 _ _ _ _ h;omega
  ·intro off dep D o h;unfold wfT at h
   split at h
   ·cases h
   ·split at h
    ·exact i1 _ _ _ _ h
    ·split at h
     ·cases h
     ·rename_i hh;have ho:=(hd_off hh).1
      split at h
      ·cases h
      ·have:=i5 _ _ _ _ h;omega
section
variable {w:World} {d db o c dm off:Nat} {L:Lim} {xs:List UInt8}
theorem open_any (hn:L.nest≤65535) (hel:L.el≤2147483647) (hpa:L.pa≤2147483647) (f:Nat) (IH: ∀g,g<f→Item L xs g) (m:Nat) (hm:m=4∨m=5) (dep:Nat) (r:Except Nat (Nat×Nat)) (h:Dec w d db o c dm xs off) (hM:DecM w dm L.nest L.el L.pa) (hmd:dm≠d) (hdep:dep≤65535)
  (hr:wfO L xs f m 0 off dep=some r):
  Calls Tryz.prog 156 #[.pointer (some ⟨d,0,none⟩),.int .u8 ((m*32:Nat):Int),.int .i64 (dep:Int),.bool false] w (WPost w d db o c dm xs r):=by
 have hr:joinD dep (wfO L xs f m 0 off dep)=some r:=by
  rw [hr];rcases r with k|⟨D,o'⟩
  ·rfl
  ·have:=((wfI_dep L xs hn f).2.2.1 _ _ _ _ _ _ hdep hr).2;simp only [joinD];rw [Nat.max_eq_right this]
 replace hr:=Hz hr;replace IH:=Hz IH;go_enter Tryz.func156,Tryz.ntmps156
 go_wp2
 go_loopg [11,12] f (fun k v11 v12 wr=> ∃M i off:Nat,v11= .int .i64 (M:Int)∧v12= .int .i64 (i:Int)∧k≤f∧i≤off∧dep≤M∧M≤65535∧Hid (joinD M (wfO L xs k m i off dep)=some r)∧Dec wr d db o c dm xs off∧Fr [d] w wr)
 case atStart=>exact ⟨dep,0,off,rfl,rfl,Nat.le_refl _,Nat.zero_le _,Nat.le_refl _,hdep,hr,h,Fr.refl _ _⟩
 case round=>
  obtain ⟨M,i,off,rfl,rfl,hk,hio,hdM,hM5,hr,hD,hf⟩:=hrel;have hr:=hr.out;rcases gk with _|g
  ·simp [wfO,joinD] at hr
  unfold wfO at hr;have h0:=hD.c0;have h1:=hD.c1;have h2:=hD.c2;have f1:=hD.f1;have hlen:=hD.len;have hole:=hD.le;have n1: ¬db=d:=hD.ne;have n2: ¬d=db:=fun e=>hD.ne e.symm
  have n3: ¬dm=d:=hmd;have n4: ¬d=dm:=fun e=>hmd e.symm
  have hMr:DecM wr dm L.nest L.el L.pa:=hM.fr hf (by simpa using hmd)
  cases hx:xs[off]? with
  |none=>
   rw [hx] at hr;cases hr
   have hoff:off=xs.length:=Nat.le_antisymm hD.le (by simpa using List.getElem?_eq_none_iff.1 hx)
   have g1:((xs.length:Int)==(off:Int))=true:=by simp;omega
   have g2:(xs.length==off)=true:=by simp;omega
   clear hx;replace hoff:=Hz hoff;go_wp2
   go_quiet (fail)
   go_wp2
   go_ret2
   exact ⟨_,rfl,rfl,⟨_,hD.v.drewN _⟩,hf.drewN _⟩
  |some b=>
   obtain ⟨hl,rfl⟩:=getElem?_lt hx;rw [hx] at hr;dsimp only at hr;have ha:=hD.at_ off hl;have hb8:=u8lt xs[off];have g1:((xs.length:Int)==(off:Int))=false:=by simp;omega
   have g2:(xs.length==off)=false:=by simp;omega
   clear hx;by_cases h255:xs[off].toNat=255
   ·rw [if_pos h255] at hr;have g3:((xs[off].toNat:Int)==255)=true:=by simp;omega
    clear h255;by_cases h5:m=5∧i%2=1
    ·rw [if_pos h5] at hr;cases hr
     obtain ⟨rfl,h52⟩:=h5;have g4:((i:Int)%2==1)=true:=by simp;omega
     clear h52;go_wp2
     go_quiet (fail)
     go_wp2
     go_quiet ((go_at_call 117;exact quiet2 (quiet_same (isBreakFlag _ _))))
     go_wp2
     go_ret2
     refine ⟨_,rfl,errv_ptr 3 (.inl rfl) _,?_,hf.trans ?_⟩
     ·apply Exists.intro
      repeat (first|with_reducible exact hD.v|with_reducible apply DecV.set|with_reducible apply DecV.alloc|with_reducible apply DecV.drewN)
     ·repeat (first|with_reducible exact Fr.refl _ _|with_reducible refine Fr.setCell ?_ (by simp) _|with_reducible refine Fr.alloc ?_ _|with_reducible refine Fr.drewN ?_ _)
    ·rw [if_neg h5] at hr;have fin:r= .ok (M,off+1):=by
      simp only [joinD,Option.some.injEq] at hr;rw [←hr,Nat.max_eq_left hdM]
     subst fin;have g4:((m:Int)*32==160)=false∨(((m:Int)*32==160)=true∧((i:Int)%2==1)=false):=by
      rcases hm with rfl|rfl
      ·exact .inl (by decide)
      ·exact .inr ⟨by decide,by simp;omega⟩
     clear hr h5;rcases g4 with g4|⟨g4,g5⟩
     all_goals
      go_wp2
      go_quiet (fail)
      go_wp2
      go_quiet ((go_at_call 117;exact quiet2 (quiet_same (isBreakFlag _ _))))
      go_wp2
      go_ret2
      refine ⟨rfl,DecV.dec (x:=(off:Int)+1) ?_ _ (by omega) (by omega),hf.trans ?_⟩
      ·repeat (first|with_reducible exact hD.v|with_reducible apply DecV.set|with_reducible apply DecV.drewN)
      ·repeat (first|with_reducible exact Fr.refl _ _|with_reducible refine Fr.setCell ?_ (by simp) _|with_reducible refine Fr.drewN ?_ _)
   ·rw [if_neg h255] at hr;have g3:((xs[off].toNat:Int)==255)=false:=by simp;omega
    clear h255;cases hI:wfI L xs g off dep with
    |none=>rw [hI] at hr;cases hr
    |some q=>
     rw [hI] at hr;have C:=fun n:Nat=>IH.out g (by omega) (wr.drewN n) d db o c dm off dep q (hD.drewN n) hMr hmd hdep hI
     replace C:=Hz C;cases q with
     |error k=>
      cases hr
      clear hI;go_wp2
      go_quiet (fail)
      go_wp2
      go_quiet ((go_at_call 117;exact quiet2 (quiet_same (isBreakFlag _ _))))
      go_wp2_with fail
      refine (C.out _).mono ?_
      rintro e w2 ⟨v,rfl,hv,hu,hf2⟩;obtain ⟨t,x,rfl⟩:=hv.iface;go_wp2
      go_ret2
      exact ⟨_,rfl,hv,hu,hf.trans ⟨hf2.os,hf2.tape,hf2.output,hf2.size,hf2.block⟩⟩
     |ok p=>
      obtain ⟨D,o'⟩:=p;dsimp only at hr;have hDd:=((wfI_dep L xs hn g).1 _ _ _ _ hdep hI).1;have hof:=(wfI_off L xs g).1 _ _ _ _ hI;clear hI;have hM65:max M D≤65535:=by omega
      have hdM':dep≤max M D:=by omega
      by_cases h4:m=4
      ·subst h4;by_cases he:L.el<i+1
       ·rw [if_pos ⟨rfl,he⟩] at hr;cases hr
        have t1:(L.el:Int)<(i:Int)+1:=by omega
        clear he;by_cases hMD:(M:Int)<(D:Int)
        all_goals
         go_wp2
         go_quiet (fail)
         go_wp2
         go_quiet ((go_at_call 117;exact quiet2 (quiet_same (isBreakFlag _ _))))
         go_wp2_with fail
         refine (C.out _).mono ?_
         rintro e w2 ⟨rfl,hD2,hf2⟩;have hf2':Fr [d] wr w2:=⟨hf2.os,hf2.tape,hf2.output,hf2.size,hf2.block⟩;clear hf2;have k2:=hD2.c2;have hM2:=hMr.fr hf2' (by simpa using hmd)
         have m2:w2.cell? ⟨dm,2,none⟩=some (.int .i64 (L.el:Int)):=hM2.cell 2;have m3:w2.cell? ⟨dm,3,none⟩=some (.int .i64 (L.pa:Int)):=hM2.cell 3;go_wp2
         go_region
         all_goals
          go_wp2
          go_ret2
          refine ⟨_,rfl,errv_ptr 6 (by omega) _,?_,(hf.trans hf2').trans ?_⟩
          ·apply Exists.intro
           repeat (first|with_reducible exact hD2.v|with_reducible apply DecV.alloc|with_reducible apply DecV.drewN|with_reducible apply DecV.drew)
          ·repeat (first|with_reducible exact Fr.refl _ _|with_reducible refine Fr.alloc ?_ _|with_reducible refine Fr.drewN ?_ _|with_reducible refine Fr.drew ?_)
       ·rw [if_neg (fun hh=>he hh.2),if_neg (fun hh=>hh.1 rfl),joinD_joinD] at hr
        replace hr:=Hz hr;have t1: ¬(L.el:Int)<(i:Int)+1:=by omega
        clear he;by_cases hMD:(M:Int)<(D:Int)
        ·have hmax:Value.int .i64 (D:Int)= .int .i64 ((max M D:Nat):Int):=by congr 1;omega
         go_wp2
         go_quiet (fail)
         go_wp2
         go_quiet ((go_at_call 117;exact quiet2 (quiet_same (isBreakFlag _ _))))
         go_wp2_with fail
         refine (C.out _).mono ?_
         rintro e w2 ⟨rfl,hD2,hf2⟩;have hf2':Fr [d] wr w2:=⟨hf2.os,hf2.tape,hf2.output,hf2.size,hf2.block⟩;clear hf2;have k2:=hD2.c2;have hM2:=hMr.fr hf2' (by simpa using hmd)
         have m2:w2.cell? ⟨dm,2,none⟩=some (.int .i64 (L.el:Int)):=hM2.cell 2;have m3:w2.cell? ⟨dm,3,none⟩=some (.int .i64 (L.pa:Int)):=hM2.cell 3;go_wp2
         go_roundg g
         case measure=>omega
         case rel=>exact ⟨max M D,i+1,o',rfl,by go_num,by omega,by omega,hdM',hM65,hr,hD2,hf.trans hf2'⟩
        ·have hmax:Value.int .i64 (M:Int)= .int .i64 ((max M D:Nat):Int):=by congr 1;omega
         go_wp2
         go_quiet (fail)
         go_wp2
         go_quiet ((go_at_call 117;exact quiet2 (quiet_same (isBreakFlag _ _))))
         go_wp2_with fail
         refine (C.out _).mono ?_
         rintro e w2 ⟨rfl,hD2,hf2⟩;have hf2':Fr [d] wr w2:=⟨hf2.os,hf2.tape,hf2.output,hf2.size,hf2.block⟩;clear hf2;have k2:=hD2.c2;have hM2:=hMr.fr hf2' (by simpa using hmd)
         have m2:w2.cell? ⟨dm,2,none⟩=some (.int .i64 (L.el:Int)):=hM2.cell 2;have m3:w2.cell? ⟨dm,3,none⟩=some (.int .i64 (L.pa:Int)):=hM2.cell 3;go_wp2
         go_roundg g
         case measure=>omega
         case rel=>exact ⟨max M D,i+1,o',rfl,by go_num,by omega,by omega,hdM',hM65,hr,hD2,hf.trans hf2'⟩
      ·obtain rfl:m=5:=by omega
       by_cases he:(i+1)%2=0∧L.pa<(i+1)/2
       ·rw [if_neg (fun hh=>h4 hh.1),if_pos ⟨h4,he⟩] at hr
        cases hr
        have t1:(((i:Int)+1)%2==0)=true:=by simp;omega
        have t2:(L.pa:Int)<((i:Int)+1)/2:=by omega
        clear he h4;by_cases hMD:(M:Int)<(D:Int)
        all_goals
         go_wp2
         go_quiet (fail)
         go_wp2
         go_quiet ((go_at_call 117;exact quiet2 (quiet_same (isBreakFlag _ _))))
         go_wp2_with fail
         refine (C.out _).mono ?_
         rintro e w2 ⟨rfl,hD2,hf2⟩;have hf2':Fr [d] wr w2:=⟨hf2.os,hf2.tape,hf2.output,hf2.size,hf2.block⟩;clear hf2;have k2:=hD2.c2;have hM2:=hMr.fr hf2' (by simpa using hmd)
         have m2:w2.cell? ⟨dm,2,none⟩=some (.int .i64 (L.el:Int)):=hM2.cell 2;have m3:w2.cell? ⟨dm,3,none⟩=some (.int .i64 (L.pa:Int)):=hM2.cell 3;go_wp2
         go_region
         all_goals
          go_wp2
          go_ret2
          refine ⟨_,rfl,errv_ptr 7 (by omega) _,?_,(hf.trans hf2').trans ?_⟩
          ·apply Exists.intro
           repeat (first|with_reducible exact hD2.v|with_reducible apply DecV.alloc|with_reducible apply DecV.drewN|with_reducible apply DecV.drew)
          ·repeat (first|with_reducible exact Fr.refl _ _|with_reducible refine Fr.alloc ?_ _|with_reducible refine Fr.drewN ?_ _|with_reducible refine Fr.drew ?_)
       ·rw [if_neg (fun hh=>h4 hh.1),if_neg (fun hh=>he hh.2),joinD_joinD] at hr
        replace hr:=Hz hr;by_cases he2:(i+1)%2=0
        ·have t1:(((i:Int)+1)%2==0)=true:=by simp;omega
         have t2: ¬(L.pa:Int)<((i:Int)+1)/2:=by omega
         clear he h4 he2;by_cases hMD:(M:Int)<(D:Int)
         ·have hmax:Value.int .i64 (D:Int)= .int .i64 ((max M D:Nat):Int):=by congr 1;omega
          go_wp2
          go_quiet (fail)
          go_wp2
          go_quiet ((go_at_call 117;exact quiet2 (quiet_same (isBreakFlag _ _))))
          go_wp2_with fail
          refine (C.out _).mono ?_
          rintro e w2 ⟨rfl,hD2,hf2⟩;have hf2':Fr [d] wr w2:=⟨hf2.os,hf2.tape,hf2.output,hf2.size,hf2.block⟩;clear hf2;have k2:=hD2.c2;have hM2:=hMr.fr hf2' (by simpa using hmd)
          have m2:w2.cell? ⟨dm,2,none⟩=some (.int .i64 (L.el:Int)):=hM2.cell 2;have m3:w2.cell? ⟨dm,3,none⟩=some (.int .i64 (L.pa:Int)):=hM2.cell 3;go_wp2
          go_roundg g
          case measure=>omega
          case rel=>exact ⟨max M D,i+1,o',rfl,by go_num,by omega,by omega,hdM',hM65,hr,hD2,hf.trans hf2'⟩
         ·have hmax:Value.int .i64 (M:Int)= .int .i64 ((max M D:Nat):Int):=by congr 1;omega
          go_wp2
          go_quiet (fail)
          go_wp2
          go_quiet ((go_at_call 117;exact quiet2 (quiet_same (isBreakFlag _ _))))
          go_wp2_with fail
          refine (C.out _).mono ?_
          rintro e w2 ⟨rfl,hD2,hf2⟩;have hf2':Fr [d] wr w2:=⟨hf2.os,hf2.tape,hf2.output,hf2.size,hf2.block⟩;clear hf2;have k2:=hD2.c2;have hM2:=hMr.fr hf2' (by simpa using hmd)
          have m2:w2.cell? ⟨dm,2,none⟩=some (.int .i64 (L.el:Int)):=hM2.cell 2;have m3:w2.cell? ⟨dm,3,none⟩=some (.int .i64 (L.pa:Int)):=hM2.cell 3;go_wp2
          go_roundg g
          case measure=>omega
          case rel=>exact ⟨max M D,i+1,o',rfl,by go_num,by omega,by omega,hdM',hM65,hr,hD2,hf.trans hf2'⟩
        ·have t1:(((i:Int)+1)%2==0)=false:=by simp;omega
         clear he h4 he2;by_cases hMD:(M:Int)<(D:Int)
         ·have hmax:Value.int .i64 (D:Int)= .int .i64 ((max M D:Nat):Int):=by congr 1;omega
          go_wp2
          go_quiet (fail)
          go_wp2
          go_quiet ((go_at_call 117;exact quiet2 (quiet_same (isBreakFlag _ _))))
          go_wp2_with fail
          refine (C.out _).mono ?_
          rintro e w2 ⟨rfl,hD2,hf2⟩;have hf2':Fr [d] wr w2:=⟨hf2.os,hf2.tape,hf2.output,hf2.size,hf2.block⟩;clear hf2;have k2:=hD2.c2;have hM2:=hMr.fr hf2' (by simpa using hmd)
          have m2:w2.cell? ⟨dm,2,none⟩=some (.int .i64 (L.el:Int)):=hM2.cell 2;have m3:w2.cell? ⟨dm,3,none⟩=some (.int .i64 (L.pa:Int)):=hM2.cell 3;go_wp2
          go_roundg g
          case measure=>omega
          case rel=>exact ⟨max M D,i+1,o',rfl,by go_num,by omega,by omega,hdM',hM65,hr,hD2,hf.trans hf2'⟩
         ·have hmax:Value.int .i64 (M:Int)= .int .i64 ((max M D:Nat):Int):=by congr 1;omega
          go_wp2
          go_quiet (fail)
          go_wp2
          go_quiet ((go_at_call 117;exact quiet2 (quiet_same (isBreakFlag _ _))))
          go_wp2_with fail
          refine (C.out _).mono ?_
          rintro e w2 ⟨rfl,hD2,hf2⟩;have hf2':Fr [d] wr w2:=⟨hf2.os,hf2.tape,hf2.output,hf2.size,hf2.block⟩;clear hf2;have k2:=hD2.c2;have hM2:=hMr.fr hf2' (by simpa using hmd)
          have m2:w2.cell? ⟨dm,2,none⟩=some (.int .i64 (L.el:Int)):=hM2.cell 2;have m3:w2.cell? ⟨dm,3,none⟩=some (.int .i64 (L.pa:Int)):=hM2.cell 3;go_wp2
          go_roundg g
          case measure=>omega
          case rel=>exact ⟨max M D,i+1,o',rfl,by go_num,by omega,by omega,hdM',hM65,hr,hD2,hf.trans hf2'⟩
end
end
section
open Go.RowKit
theorem wrap_neg (v:Nat) (h:9223372036854775808≤v) (h2:v<18446744073709551616): ∃z:Int,IntKind.i64.wrap (v:Int)=z∧z<0:=by
 refine ⟨_,rfl,?_⟩
 rw [IntKind.wrap_i64];omega
theorem wrap_pos (v:Nat) (h: ¬9223372036854775808≤v):IntKind.i64.wrap (v:Int)=(v:Int):=by
 rw [IntKind.wrap_i64];omega
theorem err16 (s:ByteArray) (h:14<s.size):ErrV 16 (.iface 141 (.string s)):=by
 unfold ErrV;rw [if_neg (by omega),if_neg (by omega),if_pos rfl]
 refine ⟨s,rfl,?_,?_⟩
 ·rintro rfl;exact absurd h (by decide)
 ·rintro rfl;exact absurd h (by decide)
theorem size_last (a b:ByteArray) (h:14<b.size):14<(a++b).size:=by rw [ByteArray.size_append];omega
theorem be_lt: ∀(l:List UInt8),be l<256^l.length:=by
 intro l;unfold be;have key: ∀(l:List UInt8) (a n:Nat),a<256^n→l.foldl (fun a b=>a*256+b.toNat) a<256^(n+l.length):=by
  intro l
  induction l with
  |nil=>intro a n h;simpa using h
  |cons b l ih=>
   intro a n h;have hb:=u8lt b;have:=ih (a*256+b.toNat) (n+1) (by rw [Nat.pow_succ];omega)
   simpa [Nat.add_assoc,Nat.add_comm 1] using this
 simpa using key l 0 0 (by simp)
theorem hd_val {xs:List UInt8} {off m ai v o:Nat} (h:hd xs off= .ok (m,ai,v,o)):v<18446744073709551616∧o≤xs.length:=by
 unfold hd at h
 split at h
 ·cases h
 ·rename_i b e;obtain ⟨hl,rfl⟩:=getElem?_lt e;have hb:=u8lt xs[off]
  split at h
  ·cases h;omega
  ·split at h
   ·split at h
    ·cases h
    ·split at h
     ·cases h
     ·rename_i h24 h28 hlen hs;have h4:xs[off].toNat%32=24∨xs[off].toNat%32=25∨xs[off].toNat%32=26∨xs[off].toNat%32=27:=by omega
      rcases h4 with h4|h4|h4|h4<;>rw [h4] at h hlen<;>simp only [Nat.reduceSub,Nat.reducePow] at h hlen<;>cases h<;>refine ⟨?_,by omega⟩
      ·exact Nat.lt_of_lt_of_le (be_lt _) (by simp;exact Nat.le_trans (Nat.pow_le_pow_right (by omega) (Nat.min_le_left _ _)) (by decide))
      ·exact Nat.lt_of_lt_of_le (be_lt _) (by simp;exact Nat.le_trans (Nat.pow_le_pow_right (by omega) (Nat.min_le_left _ _)) (by decide))
      ·exact Nat.lt_of_lt_of_le (be_lt _) (by simp;exact Nat.le_trans (Nat.pow_le_pow_right (by omega) (Nat.min_le_left _ _)) (by decide))
      ·exact Nat.lt_of_lt_of_le (be_lt _) (by simp;exact Nat.le_trans (Nat.pow_le_pow_right (by omega) (Nat.min_le_left _ _)) (by decide))
   ·split at h
    ·split at h
     ·cases h
     ·cases h;omega
    ·cases h
section
variable {w:World} {d db o c dm off dep:Nat} {L:Lim} {xs:List UInt8}
theorem item_err (h:Dec w d db o c dm xs off) (hM:DecM w dm L.nest L.el L.pa) (hmd:dm≠d) {k:Nat} (hh:hd xs off= .error k):
  Calls Tryz.prog 114 #[.pointer (some ⟨d,0,none⟩),.int .i64 (dep:Int),.bool false] w (WPost w d db o c dm xs (.error k)):=by
 have KI:=ihead h hM hmd;rw [hh] at KI;replace KI:=Hz KI;clear hh;go_enter Tryz.func114,Tryz.ntmps114
 go_wp2_with fail
 refine KI.out.mono ?_
 rintro e w1 ⟨v,rfl,hv,hu,hf⟩;obtain ⟨t,x,rfl⟩:=hv.iface;go_wp2
 go_ret2
 exact ⟨_,rfl,hv,hu,hf⟩
theorem item_int0 (h:Dec w d db o c dm xs off) (hM:DecM w dm L.nest L.el L.pa) (hmd:dm≠d) (hdep:dep≤65535) {ai v o1:Nat} (hh:hd xs off= .ok (0,ai,v,o1)):
  Calls Tryz.prog 114 #[.pointer (some ⟨d,0,none⟩),.int .i64 (dep:Int),.bool false] w (WPost w d db o c dm xs (.ok (dep,o1))):=by
 have KI:=ihead h hM hmd;rw [hh] at KI;have hv:=hd_val hh;have hm:=h.len;have n3: ¬dm=d:=hmd;have n4: ¬d=dm:=fun e=>hmd e.symm
 have g0:((ai:Int)==31)=false:=by have:=(hd_off hh).2.2.2;simp;omega
 replace KI:=Hz KI;replace hh:=Hz hh;clear hv;go_enter Tryz.func114,Tryz.ntmps114
 go_wp2_with fail
 refine KI.out.mono ?_
 rintro e w1 ⟨rfl,hD,hf⟩;have hM1:=hM.fr hf (by simpa using hmd)
 have k0:=hD.c0;have k1:=hD.c1;have k2:=hD.c2;have kf:=hD.f1;have m1:w1.cell? ⟨dm,1,none⟩=some (.int .i64 (L.nest:Int)):=hM1.cell 1;have m2:w1.cell? ⟨dm,2,none⟩=some (.int .i64 (L.el:Int)):=hM1.cell 2;have m3:w1.cell? ⟨dm,3,none⟩=some (.int .i64 (L.pa:Int)):=hM1.cell 3;have m4:w1.cell? ⟨dm,4,none⟩=some (.int .i64 0):=hM1.cell 4;have m5:w1.cell? ⟨dm,5,none⟩=some (.int .i64 0):=hM1.cell 5;have m11:w1.cell? ⟨dm,11,none⟩=some (.pointer none):=hM1.cell 11;have m14:w1.cell? ⟨dm,14,none⟩=some (.int .i64 0):=hM1.cell 14;go_wp2
 go_ret2
 exact ⟨rfl,hD,hf⟩
theorem item_int1 (h:Dec w d db o c dm xs off) (hM:DecM w dm L.nest L.el L.pa) (hmd:dm≠d) (hdep:dep≤65535) {ai v o1:Nat} (hh:hd xs off= .ok (1,ai,v,o1)):
  Calls Tryz.prog 114 #[.pointer (some ⟨d,0,none⟩),.int .i64 (dep:Int),.bool false] w (WPost w d db o c dm xs (.ok (dep,o1))):=by
 have KI:=ihead h hM hmd;rw [hh] at KI;have hv:=hd_val hh;have hm:=h.len;have n3: ¬dm=d:=hmd;have n4: ¬d=dm:=fun e=>hmd e.symm
 have g0:((ai:Int)==31)=false:=by have:=(hd_off hh).2.2.2;simp;omega
 replace KI:=Hz KI;replace hh:=Hz hh;clear hv;go_enter Tryz.func114,Tryz.ntmps114
 go_wp2_with fail
 refine KI.out.mono ?_
 rintro e w1 ⟨rfl,hD,hf⟩;have hM1:=hM.fr hf (by simpa using hmd)
 have k0:=hD.c0;have k1:=hD.c1;have k2:=hD.c2;have kf:=hD.f1;have m1:w1.cell? ⟨dm,1,none⟩=some (.int .i64 (L.nest:Int)):=hM1.cell 1;have m2:w1.cell? ⟨dm,2,none⟩=some (.int .i64 (L.el:Int)):=hM1.cell 2;have m3:w1.cell? ⟨dm,3,none⟩=some (.int .i64 (L.pa:Int)):=hM1.cell 3;have m4:w1.cell? ⟨dm,4,none⟩=some (.int .i64 0):=hM1.cell 4;have m5:w1.cell? ⟨dm,5,none⟩=some (.int .i64 0):=hM1.cell 5;have m11:w1.cell? ⟨dm,11,none⟩=some (.pointer none):=hM1.cell 11;have m14:w1.cell? ⟨dm,14,none⟩=some (.int .i64 0):=hM1.cell 14;go_wp2
 go_ret2
 exact ⟨rfl,hD,hf⟩
theorem item_prim (h:Dec w d db o c dm xs off) (hM:DecM w dm L.nest L.el L.pa) (hmd:dm≠d) (hdep:dep≤65535) {ai v o1:Nat} (hh:hd xs off= .ok (7,ai,v,o1)):
  Calls Tryz.prog 114 #[.pointer (some ⟨d,0,none⟩),.int .i64 (dep:Int),.bool false] w (WPost w d db o c dm xs (.ok (dep,o1))):=by
 have KI:=ihead h hM hmd;rw [hh] at KI;have hv:=hd_val hh;have hm:=h.len;have n3: ¬dm=d:=hmd;have n4: ¬d=dm:=fun e=>hmd e.symm
 have g0:((ai:Int)==31)=false:=by have:=(hd_off hh).2.2.2;simp;omega
 replace KI:=Hz KI;replace hh:=Hz hh;clear hv;go_enter Tryz.func114,Tryz.ntmps114
 go_wp2_with fail
 refine KI.out.mono ?_
 rintro e w1 ⟨rfl,hD,hf⟩;have hM1:=hM.fr hf (by simpa using hmd)
 have k0:=hD.c0;have k1:=hD.c1;have k2:=hD.c2;have kf:=hD.f1;have m1:w1.cell? ⟨dm,1,none⟩=some (.int .i64 (L.nest:Int)):=hM1.cell 1;have m2:w1.cell? ⟨dm,2,none⟩=some (.int .i64 (L.el:Int)):=hM1.cell 2;have m3:w1.cell? ⟨dm,3,none⟩=some (.int .i64 (L.pa:Int)):=hM1.cell 3;have m4:w1.cell? ⟨dm,4,none⟩=some (.int .i64 0):=hM1.cell 4;have m5:w1.cell? ⟨dm,5,none⟩=some (.int .i64 0):=hM1.cell 5;have m11:w1.cell? ⟨dm,11,none⟩=some (.pointer none):=hM1.cell 11;have m14:w1.cell? ⟨dm,14,none⟩=some (.int .i64 0):=hM1.cell 14;by_cases g24:(ai:Int)≤24
 all_goals
  go_wp2
  go_ret2
  exact ⟨rfl,hD,hf⟩
theorem item_str_short2 (h:Dec w d db o c dm xs off) (hM:DecM w dm L.nest L.el L.pa) (hmd:dm≠d) (hdep:dep≤65535) {ai v o1:Nat} (hh:hd xs off= .ok (2,ai,v,o1)) (h31:ai≠31) (h63: ¬9223372036854775808≤v) (hs:xs.length-o1<v):
  Calls Tryz.prog 114 #[.pointer (some ⟨d,0,none⟩),.int .i64 (dep:Int),.bool false] w (WPost w d db o c dm xs (.error 2)):=by
 have KI:=ihead h hM hmd;rw [hh] at KI;have hv:=hd_val hh;have hm:=h.len;have n3: ¬dm=d:=hmd;have n4: ¬d=dm:=fun e=>hmd e.symm
 have g0:((ai:Int)==31)=false:=by simp;omega
 have g1:=wrap_pos v h63;have g2:(xs.length:Int)-(o1:Int)<(v:Int):=by omega
 have g3:IntKind.i64.wrap ((xs.length:Int)-(o1:Int))=(xs.length:Int)-(o1:Int):=IntWalk.i64_in _ (by omega)
 have g4:(o1:Int)≤(xs.length:Int):=by omega
 clear h63;replace KI:=Hz KI;replace hh:=Hz hh;clear hv;go_enter Tryz.func114,Tryz.ntmps114
 go_wp2_with fail
 refine KI.out.mono ?_
 rintro e w1 ⟨rfl,hD,hf⟩;have hM1:=hM.fr hf (by simpa using hmd)
 have k0:=hD.c0;have k1:=hD.c1;have k2:=hD.c2;have kf:=hD.f1;have m1:w1.cell? ⟨dm,1,none⟩=some (.int .i64 (L.nest:Int)):=hM1.cell 1;have m2:w1.cell? ⟨dm,2,none⟩=some (.int .i64 (L.el:Int)):=hM1.cell 2;have m3:w1.cell? ⟨dm,3,none⟩=some (.int .i64 (L.pa:Int)):=hM1.cell 3;have m4:w1.cell? ⟨dm,4,none⟩=some (.int .i64 0):=hM1.cell 4;have m5:w1.cell? ⟨dm,5,none⟩=some (.int .i64 0):=hM1.cell 5;have m11:w1.cell? ⟨dm,11,none⟩=some (.pointer none):=hM1.cell 11;have m14:w1.cell? ⟨dm,14,none⟩=some (.int .i64 0):=hM1.cell 14;go_wp2
 go_quiet (fail)
 go_wp2
 go_ret2
 refine ⟨_,rfl,rfl,?_,hf.trans ?_⟩
 ·apply Exists.intro
  repeat (first|with_reducible exact hD.v|with_reducible apply DecV.set|with_reducible apply DecV.drewN|with_reducible apply DecV.alloc|with_reducible apply DecV.drew)
 ·repeat (first|with_reducible exact Fr.refl _ _|with_reducible refine Fr.setCell ?_ (by simp) _|with_reducible refine Fr.drewN ?_ _|with_reducible refine Fr.alloc ?_ _|with_reducible refine Fr.drew ?_)
theorem item_str2 (h:Dec w d db o c dm xs off) (hM:DecM w dm L.nest L.el L.pa) (hmd:dm≠d) (hdep:dep≤65535) {ai v o1:Nat} (hh:hd xs off= .ok (2,ai,v,o1)) (h31:ai≠31) (hs: ¬xs.length-o1<v):
  Calls Tryz.prog 114 #[.pointer (some ⟨d,0,none⟩),.int .i64 (dep:Int),.bool false] w (WPost w d db o c dm xs (.ok (dep,o1+v))):=by
 have KI:=ihead h hM hmd;rw [hh] at KI;have hv:=hd_val hh;have hm:=h.len;have n3: ¬dm=d:=hmd;have n4: ¬d=dm:=fun e=>hmd e.symm
 have g0:((ai:Int)==31)=false:=by simp;omega
 have g1:=wrap_pos v (by omega)
 have g2: ¬(xs.length:Int)-(o1:Int)<(v:Int):=by omega
 have g3:IntKind.i64.wrap ((xs.length:Int)-(o1:Int))=(xs.length:Int)-(o1:Int):=IntWalk.i64_in _ (by omega)
 have g4:(o1:Int)≤(xs.length:Int):=by omega
 have g5:o1+v≤xs.length:=by omega
 replace KI:=Hz KI;replace hh:=Hz hh;clear hv;go_enter Tryz.func114,Tryz.ntmps114
 go_wp2_with fail
 refine KI.out.mono ?_
 rintro e w1 ⟨rfl,hD,hf⟩;have hM1:=hM.fr hf (by simpa using hmd)
 have k0:=hD.c0;have k1:=hD.c1;have k2:=hD.c2;have kf:=hD.f1;have m1:w1.cell? ⟨dm,1,none⟩=some (.int .i64 (L.nest:Int)):=hM1.cell 1;have m2:w1.cell? ⟨dm,2,none⟩=some (.int .i64 (L.el:Int)):=hM1.cell 2;have m3:w1.cell? ⟨dm,3,none⟩=some (.int .i64 (L.pa:Int)):=hM1.cell 3;have m4:w1.cell? ⟨dm,4,none⟩=some (.int .i64 0):=hM1.cell 4;have m5:w1.cell? ⟨dm,5,none⟩=some (.int .i64 0):=hM1.cell 5;have m11:w1.cell? ⟨dm,11,none⟩=some (.pointer none):=hM1.cell 11;have m14:w1.cell? ⟨dm,14,none⟩=some (.int .i64 0):=hM1.cell 14;go_wp2
 go_quiet (fail)
 go_wp2
 go_ret2
 refine ⟨rfl,DecV.dec (x:=(o1:Int)+(v:Int)) ?_ _ (by omega) (by omega),hf.trans ?_⟩
 ·repeat (first|with_reducible exact hD.v|with_reducible apply DecV.set|with_reducible apply DecV.drewN|with_reducible apply DecV.alloc|with_reducible apply DecV.drew)
 ·repeat (first|with_reducible exact Fr.refl _ _|with_reducible refine Fr.setCell ?_ (by simp) _|with_reducible refine Fr.drewN ?_ _|with_reducible refine Fr.alloc ?_ _|with_reducible refine Fr.drew ?_)
theorem item_str_neg2 (h:Dec w d db o c dm xs off) (hM:DecM w dm L.nest L.el L.pa) (hmd:dm≠d) (hdep:dep≤65535) {ai v o1:Nat} (hh:hd xs off= .ok (2,ai,v,o1)) (h31:ai≠31) (h63:9223372036854775808≤v):
  Calls Tryz.prog 114 #[.pointer (some ⟨d,0,none⟩),.int .i64 (dep:Int),.bool false] w (WPost w d db o c dm xs (.error 16)):=by
 have KI:=ihead h hM hmd;rw [hh] at KI;have hv:=hd_val hh;have hm:=h.len;have n3: ¬dm=d:=hmd;have n4: ¬d=dm:=fun e=>hmd e.symm
 have g0:((ai:Int)==31)=false:=by simp;omega
 obtain ⟨z,g1,g2⟩:=wrap_neg v h63 hv.1;have K1:=Hz (typeName 2 (by omega))
 have K2:=Hz (formatUint v hv.1);have K3:=dec_length v 20 (by omega) (by omega)
 clear h63;replace KI:=Hz KI;replace hh:=Hz hh;clear hv;go_enter Tryz.func114,Tryz.ntmps114
 go_wp2_with fail
 refine KI.out.mono ?_
 rintro e w1 ⟨rfl,hD,hf⟩;have hM1:=hM.fr hf (by simpa using hmd)
 have k0:=hD.c0;have k1:=hD.c1;have k2:=hD.c2;have kf:=hD.f1;have m1:w1.cell? ⟨dm,1,none⟩=some (.int .i64 (L.nest:Int)):=hM1.cell 1;have m2:w1.cell? ⟨dm,2,none⟩=some (.int .i64 (L.el:Int)):=hM1.cell 2;have m3:w1.cell? ⟨dm,3,none⟩=some (.int .i64 (L.pa:Int)):=hM1.cell 3;have m4:w1.cell? ⟨dm,4,none⟩=some (.int .i64 0):=hM1.cell 4;have m5:w1.cell? ⟨dm,5,none⟩=some (.int .i64 0):=hM1.cell 5;have m11:w1.cell? ⟨dm,11,none⟩=some (.pointer none):=hM1.cell 11;have m14:w1.cell? ⟨dm,14,none⟩=some (.int .i64 0):=hM1.cell 14;go_wp2_with fail
 refine (K1.out _).mono ?_
 rintro e w2 ⟨s1,rfl,hs1,rfl⟩;go_wp2_with fail
 refine (K2.out _).mono ?_
 rintro e w3 ⟨rfl,hf9⟩;go_wp2
 go_ret2
 refine ⟨_,rfl,err16 _ (size_last _ _ (by decide)),?_,hf.trans ?_⟩
 ·apply Exists.intro
  repeat (first|with_reducible exact hD.v|with_reducible apply DecV.set|with_reducible apply DecV.drewN|with_reducible apply DecV.alloc|with_reducible apply DecV.drew|with_reducible apply DecV.fr0 hf9)
 ·repeat (first|with_reducible exact Fr.refl _ _|with_reducible refine Fr.setCell ?_ (by simp) _|with_reducible refine Fr.drewN ?_ _|with_reducible refine Fr.alloc ?_ _|with_reducible refine Fr.drew ?_|with_reducible refine Fr.then0 ?_ hf9)
theorem item_chunks2 (h:Dec w d db o c dm xs off) (hM:DecM w dm L.nest L.el L.pa) (hmd:dm≠d) (hdep:dep≤65535) {v o1 f:Nat} (hn:L.nest≤65535) (IH: ∀g,g<f→Item L xs g) (r:Except Nat (Nat×Nat)) (hh:hd xs off= .ok (2,31,v,o1)) (hr:wfS L xs f 2 o1 dep=some r):
  Calls Tryz.prog 114 #[.pointer (some ⟨d,0,none⟩),.int .i64 (dep:Int),.bool false] w (WPost w d db o c dm xs r):=by
 have KI:=ihead h hM hmd;rw [hh] at KI;have hv:=hd_val hh;have hm:=h.len;have n3: ¬dm=d:=hmd;have n4: ¬d=dm:=fun e=>hmd e.symm
 replace hr:=Hz hr;replace IH:=Hz IH;replace KI:=Hz KI;replace hh:=Hz hh;clear hv;go_enter Tryz.func114,Tryz.ntmps114
 go_wp2_with fail
 refine KI.out.mono ?_
 rintro e w1 ⟨rfl,hD,hf⟩;have hM1:=hM.fr hf (by simpa using hmd)
 have k0:=hD.c0;have k1:=hD.c1;have k2:=hD.c2;have kf:=hD.f1;have m1:w1.cell? ⟨dm,1,none⟩=some (.int .i64 (L.nest:Int)):=hM1.cell 1;have m2:w1.cell? ⟨dm,2,none⟩=some (.int .i64 (L.el:Int)):=hM1.cell 2;have m3:w1.cell? ⟨dm,3,none⟩=some (.int .i64 (L.pa:Int)):=hM1.cell 3;have m4:w1.cell? ⟨dm,4,none⟩=some (.int .i64 0):=hM1.cell 4;have m5:w1.cell? ⟨dm,5,none⟩=some (.int .i64 0):=hM1.cell 5;have m11:w1.cell? ⟨dm,11,none⟩=some (.pointer none):=hM1.cell 11;have m14:w1.cell? ⟨dm,14,none⟩=some (.int .i64 0):=hM1.cell 14;have K:=Hz (chunks_any hn f IH.out 2 (by omega) dep r hD hM1 hmd hdep hr.out)
 go_wp2_with fail
 refine K.out.mono ?_
 rintro e w2 h2;rcases r with k|⟨D,o'⟩
 ·obtain ⟨v2,rfl,hv2,hu2,hf2⟩:=h2;go_wp2
  go_ret2
  exact ⟨_,rfl,hv2,hu2,hf.trans hf2⟩
 ·obtain ⟨rfl,hD2,hf2⟩:=h2;go_wp2
  go_ret2
  exact ⟨rfl,hD2,hf.trans hf2⟩
theorem item_str_short3 (h:Dec w d db o c dm xs off) (hM:DecM w dm L.nest L.el L.pa) (hmd:dm≠d) (hdep:dep≤65535) {ai v o1:Nat} (hh:hd xs off= .ok (3,ai,v,o1)) (h31:ai≠31) (h63: ¬9223372036854775808≤v) (hs:xs.length-o1<v):
  Calls Tryz.prog 114 #[.pointer (some ⟨d,0,none⟩),.int .i64 (dep:Int),.bool false] w (WPost w d db o c dm xs (.error 2)):=by
 have KI:=ihead h hM hmd;rw [hh] at KI;have hv:=hd_val hh;have hm:=h.len;have n3: ¬dm=d:=hmd;have n4: ¬d=dm:=fun e=>hmd e.symm
 have g0:((ai:Int)==31)=false:=by simp;omega
 have g1:=wrap_pos v h63;have g2:(xs.length:Int)-(o1:Int)<(v:Int):=by omega
 have g3:IntKind.i64.wrap ((xs.length:Int)-(o1:Int))=(xs.length:Int)-(o1:Int):=IntWalk.i64_in _ (by omega)
 have g4:(o1:Int)≤(xs.length:Int):=by omega
 clear h63;replace KI:=Hz KI;replace hh:=Hz hh;clear hv;go_enter Tryz.func114,Tryz.ntmps114
 go_wp2_with fail
 refine KI.out.mono ?_
 rintro e w1 ⟨rfl,hD,hf⟩;have hM1:=hM.fr hf (by simpa using hmd)
 have k0:=hD.c0;have k1:=hD.c1;have k2:=hD.c2;have kf:=hD.f1;have m1:w1.cell? ⟨dm,1,none⟩=some (.int .i64 (L.nest:Int)):=hM1.cell 1;have m2:w1.cell? ⟨dm,2,none⟩=some (.int .i64 (L.el:Int)):=hM1.cell 2;have m3:w1.cell? ⟨dm,3,none⟩=some (.int .i64 (L.pa:Int)):=hM1.cell 3;have m4:w1.cell? ⟨dm,4,none⟩=some (.int .i64 0):=hM1.cell 4;have m5:w1.cell? ⟨dm,5,none⟩=some (.int .i64 0):=hM1.cell 5;have m11:w1.cell? ⟨dm,11,none⟩=some (.pointer none):=hM1.cell 11;have m14:w1.cell? ⟨dm,14,none⟩=some (.int .i64 0):=hM1.cell 14;go_wp2
 go_quiet (fail)
 go_wp2
 go_ret2
 refine ⟨_,rfl,rfl,?_,hf.trans ?_⟩
 ·apply Exists.intro
  repeat (first|with_reducible exact hD.v|with_reducible apply DecV.set|with_reducible apply DecV.drewN|with_reducible apply DecV.alloc|with_reducible apply DecV.drew)
 ·repeat (first|with_reducible exact Fr.refl _ _|with_reducible refine Fr.setCell ?_ (by simp) _|with_reducible refine Fr.drewN ?_ _|with_reducible refine Fr.alloc ?_ _|with_reducible refine Fr.drew ?_)
theorem item_str3 (h:Dec w d db o c dm xs off) (hM:DecM w dm L.nest L.el L.pa) (hmd:dm≠d) (hdep:dep≤65535) {ai v o1:Nat} (hh:hd xs off= .ok (3,ai,v,o1)) (h31:ai≠31) (hs: ¬xs.length-o1<v):
  Calls Tryz.prog 114 #[.pointer (some ⟨d,0,none⟩),.int .i64 (dep:Int),.bool false] w (WPost w d db o c dm xs (.ok (dep,o1+v))):=by
 have KI:=ihead h hM hmd;rw [hh] at KI;have hv:=hd_val hh;have hm:=h.len;have n3: ¬dm=d:=hmd;have n4: ¬d=dm:=fun e=>hmd e.symm
 have g0:((ai:Int)==31)=false:=by simp;omega
 have g1:=wrap_pos v (by omega)
 have g2: ¬(xs.length:Int)-(o1:Int)<(v:Int):=by omega
 have g3:IntKind.i64.wrap ((xs.length:Int)-(o1:Int))=(xs.length:Int)-(o1:Int):=IntWalk.i64_in _ (by omega)
 have g4:(o1:Int)≤(xs.length:Int):=by omega
 have g5:o1+v≤xs.length:=by omega
 replace KI:=Hz KI;replace hh:=Hz hh;clear hv;go_enter Tryz.func114,Tryz.ntmps114
 go_wp2_with fail
 refine KI.out.mono ?_
 rintro e w1 ⟨rfl,hD,hf⟩;have hM1:=hM.fr hf (by simpa using hmd)
 have k0:=hD.c0;have k1:=hD.c1;have k2:=hD.c2;have kf:=hD.f1;have m1:w1.cell? ⟨dm,1,none⟩=some (.int .i64 (L.nest:Int)):=hM1.cell 1;have m2:w1.cell? ⟨dm,2,none⟩=some (.int .i64 (L.el:Int)):=hM1.cell 2;have m3:w1.cell? ⟨dm,3,none⟩=some (.int .i64 (L.pa:Int)):=hM1.cell 3;have m4:w1.cell? ⟨dm,4,none⟩=some (.int .i64 0):=hM1.cell 4;have m5:w1.cell? ⟨dm,5,none⟩=some (.int .i64 0):=hM1.cell 5;have m11:w1.cell? ⟨dm,11,none⟩=some (.pointer none):=hM1.cell 11;have m14:w1.cell? ⟨dm,14,none⟩=some (.int .i64 0):=hM1.cell 14;go_wp2
 go_quiet (fail)
 go_wp2
 go_ret2
 refine ⟨rfl,DecV.dec (x:=(o1:Int)+(v:Int)) ?_ _ (by omega) (by omega),hf.trans ?_⟩
 ·repeat (first|with_reducible exact hD.v|with_reducible apply DecV.set|with_reducible apply DecV.drewN|with_reducible apply DecV.alloc|with_reducible apply DecV.drew)
 ·repeat (first|with_reducible exact Fr.refl _ _|with_reducible refine Fr.setCell ?_ (by simp) _|with_reducible refine Fr.drewN ?_ _|with_reducible refine Fr.alloc ?_ _|with_reducible refine Fr.drew ?_)
theorem item_str_neg3 (h:Dec w d db o c dm xs off) (hM:DecM w dm L.nest L.el L.pa) (hmd:dm≠d) (hdep:dep≤65535) {ai v o1:Nat} (hh:hd xs off= .ok (3,ai,v,o1)) (h31:ai≠31) (h63:9223372036854775808≤v):
  Calls Tryz.prog 114 #[.pointer (some ⟨d,0,none⟩),.int .i64 (dep:Int),.bool false] w (WPost w d db o c dm xs (.error 16)):=by
 have KI:=ihead h hM hmd;rw [hh] at KI;have hv:=hd_val hh;have hm:=h.len;have n3: ¬dm=d:=hmd;have n4: ¬d=dm:=fun e=>hmd e.symm
 have g0:((ai:Int)==31)=false:=by simp;omega
 obtain ⟨z,g1,g2⟩:=wrap_neg v h63 hv.1;have K1:=Hz (typeName 3 (by omega))
 have K2:=Hz (formatUint v hv.1);have K3:=dec_length v 20 (by omega) (by omega)
 clear h63;replace KI:=Hz KI;replace hh:=Hz hh;clear hv;go_enter Tryz.func114,Tryz.ntmps114
 go_wp2_with fail
 refine KI.out.mono ?_
 rintro e w1 ⟨rfl,hD,hf⟩;have hM1:=hM.fr hf (by simpa using hmd)
 have k0:=hD.c0;have k1:=hD.c1;have k2:=hD.c2;have kf:=hD.f1;have m1:w1.cell? ⟨dm,1,none⟩=some (.int .i64 (L.nest:Int)):=hM1.cell 1;have m2:w1.cell? ⟨dm,2,none⟩=some (.int .i64 (L.el:Int)):=hM1.cell 2;have m3:w1.cell? ⟨dm,3,none⟩=some (.int .i64 (L.pa:Int)):=hM1.cell 3;have m4:w1.cell? ⟨dm,4,none⟩=some (.int .i64 0):=hM1.cell 4;have m5:w1.cell? ⟨dm,5,none⟩=some (.int .i64 0):=hM1.cell 5;have m11:w1.cell? ⟨dm,11,none⟩=some (.pointer none):=hM1.cell 11;have m14:w1.cell? ⟨dm,14,none⟩=some (.int .i64 0):=hM1.cell 14;go_wp2_with fail
 refine (K1.out _).mono ?_
 rintro e w2 ⟨s1,rfl,hs1,rfl⟩;go_wp2_with fail
 refine (K2.out _).mono ?_
 rintro e w3 ⟨rfl,hf9⟩;go_wp2
 go_ret2
 refine ⟨_,rfl,err16 _ (size_last _ _ (by decide)),?_,hf.trans ?_⟩
 ·apply Exists.intro
  repeat (first|with_reducible exact hD.v|with_reducible apply DecV.set|with_reducible apply DecV.drewN|with_reducible apply DecV.alloc|with_reducible apply DecV.drew|with_reducible apply DecV.fr0 hf9)
 ·repeat (first|with_reducible exact Fr.refl _ _|with_reducible refine Fr.setCell ?_ (by simp) _|with_reducible refine Fr.drewN ?_ _|with_reducible refine Fr.alloc ?_ _|with_reducible refine Fr.drew ?_|with_reducible refine Fr.then0 ?_ hf9)
theorem item_chunks3 (h:Dec w d db o c dm xs off) (hM:DecM w dm L.nest L.el L.pa) (hmd:dm≠d) (hdep:dep≤65535) {v o1 f:Nat} (hn:L.nest≤65535) (IH: ∀g,g<f→Item L xs g) (r:Except Nat (Nat×Nat)) (hh:hd xs off= .ok (3,31,v,o1)) (hr:wfS L xs f 3 o1 dep=some r):
  Calls Tryz.prog 114 #[.pointer (some ⟨d,0,none⟩),.int .i64 (dep:Int),.bool false] w (WPost w d db o c dm xs r):=by
 have KI:=ihead h hM hmd;rw [hh] at KI;have hv:=hd_val hh;have hm:=h.len;have n3: ¬dm=d:=hmd;have n4: ¬d=dm:=fun e=>hmd e.symm
 replace hr:=Hz hr;replace IH:=Hz IH;replace KI:=Hz KI;replace hh:=Hz hh;clear hv;go_enter Tryz.func114,Tryz.ntmps114
 go_wp2_with fail
 refine KI.out.mono ?_
 rintro e w1 ⟨rfl,hD,hf⟩;have hM1:=hM.fr hf (by simpa using hmd)
 have k0:=hD.c0;have k1:=hD.c1;have k2:=hD.c2;have kf:=hD.f1;have m1:w1.cell? ⟨dm,1,none⟩=some (.int .i64 (L.nest:Int)):=hM1.cell 1;have m2:w1.cell? ⟨dm,2,none⟩=some (.int .i64 (L.el:Int)):=hM1.cell 2;have m3:w1.cell? ⟨dm,3,none⟩=some (.int .i64 (L.pa:Int)):=hM1.cell 3;have m4:w1.cell? ⟨dm,4,none⟩=some (.int .i64 0):=hM1.cell 4;have m5:w1.cell? ⟨dm,5,none⟩=some (.int .i64 0):=hM1.cell 5;have m11:w1.cell? ⟨dm,11,none⟩=some (.pointer none):=hM1.cell 11;have m14:w1.cell? ⟨dm,14,none⟩=some (.int .i64 0):=hM1.cell 14;have K:=Hz (chunks_any hn f IH.out 3 (by omega) dep r hD hM1 hmd hdep hr.out)
 go_wp2_with fail
 refine K.out.mono ?_
 rintro e w2 h2;rcases r with k|⟨D,o'⟩
 ·obtain ⟨v2,rfl,hv2,hu2,hf2⟩:=h2;go_wp2
  go_ret2
  exact ⟨_,rfl,hv2,hu2,hf.trans hf2⟩
 ·obtain ⟨rfl,hD2,hf2⟩:=h2;go_wp2
  go_ret2
  exact ⟨rfl,hD2,hf.trans hf2⟩
end
end
end Go.Proofs.YteodinhkhhaafaaGreatDoor
