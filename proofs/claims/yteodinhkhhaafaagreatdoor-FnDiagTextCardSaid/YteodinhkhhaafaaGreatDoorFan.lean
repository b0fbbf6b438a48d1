/- Walks of the program, and plain facts. -/
import Derived.Test.YteodinhkhhaafaaGreatDoorFam
import Derived.BigRegion
set_option linter.unusedVariables false
set_option linter.unusedSimpArgs false
set_option maxRecDepth 100000
set_option maxHeartbeats 6400000
namespace Go.Proofs.YteodinhkhhaafaaGreatDoor
section
open Go.RowKit
theorem hd_off {xs:List UInt8} {off m ai v o:Nat} (h:hd xs off= .ok (m,ai,v,o)):off<o∧m<8∧ai≤31∧(ai=31→2≤m∧m≤5):=by
 unfold hd at h
 split at h
 ·cases h
 ·rename_i b _;have hb:=u8lt b
  split at h
  ·cases h;omega
  ·split at h
   ·split at h
    ·cases h
    ·split at h
     ·cases h
     ·have:=Nat.two_pow_pos (b.toNat%32-24);cases h
      refine ⟨by omega,by omega,by omega,by omega⟩
   ·split at h
    ·split at h
     ·cases h
     ·cases h;omega
    ·cases h
theorem joinD_ok {D:Nat} {r:Option (Except Nat (Nat×Nat))} {D' o:Nat} (h:joinD D r=some (.ok (D',o))): ∃D1,r=some (.ok (D1,o))∧D'=max D D1:=by
 unfold joinD at h
 split at h
 ·cases h;exact ⟨_,rfl,rfl⟩
 ·exact ⟨D',h,by rename_i hx;exact absurd h (hx _ _)⟩
theorem joinD_joinD (M D:Nat) (r:Option (Except Nat (Nat×Nat))):joinD M (joinD D r)=joinD (max M D) r:=by
 unfold joinD;rcases r with _|(_|⟨D',o⟩)
 ·rfl
 ·rfl
 ·simp only [Nat.max_assoc]
theorem wfI_off (L:Lim) (xs:List UInt8): ∀f,(∀off dep D o,wfI L xs f off dep=some (.ok (D,o))→off<o)∧(∀m off dep D o,wfS L xs f m off dep=some (.ok (D,o))→off<o)∧
  (∀m i off dep D o,wfO L xs f m i off dep=some (.ok (D,o))→off<o)∧(∀n off dep D o,wfN L xs f n off dep=some (.ok (D,o))→off≤o)∧(∀off dep D o,wfT L xs f off dep=some (.ok (D,o))→off<o):=by
 intro f
 induction f with
 |zero=>simp [wfI,wfS,wfO,wfN,wfT]
 |succ f ih=>
  obtain ⟨i1,i2,i3,i4,i5⟩:=ih;refine ⟨?_,?_,?_,?_,?_⟩
  ·intro off dep D o h;unfold wfI at h
   split at h
   ·cases h
   ·rename_i hh;have ho:=(hd_off hh).1
    split at h
    ·split at h
     ·have:=i2 _ _ _ _ _ h;omega
     ·split at h
      ·cases h
      ·split at h
       ·cases h
       ·cases h;omega
    ·split at h
     ·split at h
      ·cases h
      ·split at h
       ·have:=i3 _ _ _ _ _ _ h;omega
       ·split at h
        ·cases h
        ·split at h
         ·cases h
         ·split at h
          ·cases h
          ·have:=i4 _ _ _ _ _ h;omega
     ·split at h
      ·have:=i5 _ _ _ _ h;omega
      ·cases h;omega
  ·intro m off dep D o h;unfold wfS at h
   split at h
   ·cases h
   ·split at h
    ·cases h;omega
    ·split at h
     ·cases h
     ·split at h
      ·cases h
      ·split at h
       ·rename_i D1 o1 h1;have a:=i1 _ _ _ _ h1;have b:=i2 _ _ _ _ _ h;omega
       ·exact i1 _ _ _ _ h
  ·intro m i off dep D o h;unfold wfO at h
   split at h
   ·cases h
   ·split at h
    ·split at h
     ·cases h
     ·cases h;omega
    ·split at h
     ·rename_i D1 o1 h1
      split at h
      ·cases h
      ·split at h
       ·cases h
       ·obtain ⟨D2,h2,rfl⟩:=joinD_ok h;have a:=i1 _ _ _ _ h1;have b:=i3 _ _ _ _ _ _ h2;omega
     ·exact i1 _ _ _ _ h
  ·intro n off dep D o h;unfold wfN at h
   split at h
   ·cases h;omega
   ·split at h
    ·rename_i D1 o1 h1;obtain ⟨D2,h2,rfl⟩:=joinD_ok h;have a:=i1 _ _ _ _ h1;have b:=i4 _ _ _ _ _ h2;omega
    ·have:=i1 _ _ _ _ h;omega
  ·intro off dep D o h;unfold wfT at h
   split at h
   ·cases h
   ·split at h
    ·exact i1 _ _ _ _ h
    ·split at h
     ·cases h
     ·rename_i hh;have ho:=(hd_off hh).1
      split at h
      ·cases h
      ·have:=i5 _ _ _ _ h;omega
section
variable {w:World} {d db o c dm off:Nat} {L:Lim} {xs:List UInt8}
theorem open_any (hn:L.nest≤65535) (hel:L.el≤2147483647) (hpa:L.pa≤2147483647) (f:Nat) (IH: ∀g,g<f→Item L xs g) (m:Nat) (hm:m=4∨m=5) (dep:Nat) (r:Except Nat (Nat×Nat)) (h:Dec w d db o c dm xs off) (hM:DecM w dm L.nest L.el L.pa) (hmd:dm≠d) (hdep:dep≤65535)
  (hr:wfO L xs f m 0 off dep=some r):
  Calls Tryz.prog 156 #[.pointer (some ⟨d,0,none⟩),.int .u8 ((m*32:Nat):Int),.int .i64 (dep:Int),.bool false] w (WPost w d db o c dm xs r):=by
 have hr:joinD dep (wfO L xs f m 0 off dep)=some r:=by
  rw [hr];rcases r with k|⟨D,o'⟩
  ·rfl
  ·have:=((wfI_dep L xs hn f).2.2.1 _ _ _ _ _ _ hdep hr).2;simp only [joinD];rw [Nat.max_eq_right this]
 replace hr:=Hz hr;replace IH:=Hz IH;go_enter Tryz.func156,Tryz.ntmps156
 go_wp2
 go_loopg [11,12] f (fun k v11 v12 wr=> ∃M i off:Nat,v11= .int .i64 (M:Int)∧v12= .int .i64 (i:Int)∧k≤f∧i≤off∧dep≤M∧M≤65535∧Hid (joinD M (wfO L xs k m i off dep)=some r)∧Dec wr d db o c dm xs off∧Fr [d] w wr)
 case atStart=>exact ⟨dep,0,off,rfl,rfl,Nat.le_refl _,Nat.zero_le _,Nat.le_refl _,hdep,hr,h,Fr.refl _ _⟩
 case round=>
  obtain ⟨M,i,off,rfl,rfl,hk,hio,hdM,hM5,hr,hD,hf⟩:=hrel;have hr:=hr.out;rcases gk with _|g
  ·simp [wfO,joinD] at hr
  unfold wfO at hr;have h0:=hD.c0;have h1:=hD.c1;have h2:=hD.c2;have f1:=hD.f1;have hlen:=hD.len;have hole:=hD.le;have n1: ¬db=d:=hD.ne;have n2: ¬d=db:=fun e=>hD.ne e.symm
  have n3: ¬dm=d:=hmd;have n4: ¬d=dm:=fun e=>hmd e.symm
  have hMr:DecM wr dm L.nest L.el L.pa:=hM.fr hf (by simpa using hmd)
  cases hx:xs[off]? with
  |none=>
   rw [hx] at hr;cases hr
   have hoff:off=xs.length:=Nat.le_antisymm hD.le (by simpa using List.getElem?_eq_none_iff.1 hx)
   have g1:((xs.length:Int)==(off:Int))=true:=by simp;omega
   have g2:(xs.length==off)=true:=by simp;omega
   clear hx;replace hoff:=Hz hoff;go_wp2
   go_quiet (fail)
   go_wp2
   go_ret2
   exact ⟨_,rfl,rfl,⟨_,hD.v.drewN _⟩,hf.drewN _⟩
  |some b=>
   obtain ⟨hl,rfl⟩:=getElem?_lt hx;rw [hx] at hr;dsimp only at hr;have ha:=hD.at_ off hl;have hb8:=u8lt xs[off];have g1:((xs.length:Int)==(off:Int))=false:=by simp;omega
   have g2:(xs.length==off)=false:=by simp;omega
   clear hx;by_cases h255:xs[off].toNat=255
   ·rw [if_pos h255] at hr;have g3:((xs[off].toNat:Int)==255)=true:=by simp;omega
    clear h255;by_cases h5:m=5∧i%2=1
    ·rw [if_pos h5] at hr;cases hr
     obtain ⟨rfl,h52⟩:=h5;have g4:((i:Int)%2==1)=true:=by simp;omega
     clear h52;go_wp2
     go_quiet (fail)
     go_wp2
     go_quiet ((go_at_call 117;exact quiet2 (quiet_same (isBreakFlag _ _))))
     go_wp2
     go_ret2
     refine ⟨_,rfl,errv_ptr 3 (.inl rfl) _,?_,hf.trans ?_⟩
     ·apply Exists.intro
      repeat (first|with_reducible exact hD.v|with_reducible apply DecV.set|with_reducible apply DecV.alloc|with_reducible apply DecV.drewN)
     ·repeat (first|with_reducible exact Fr.refl _ _|with_reducible refine Fr.setCell ?_ (by simp) _|with_reducible refine Fr.alloc ?_ _|with_reducible refine Fr.drewN ?_ _)
    ·rw [if_neg h5] at hr;have fin:r= .ok (M,off+1):=by
      simp only [joinD,Option.some.injEq] at hr;rw [←hr,Nat.max_eq_left hdM]
     subst fin;have g4:((m:Int)*32==160)=false∨(((m:Int)*32==160)=true∧((i:Int)%2==1)=false):=by
      rcases hm with rfl|rfl
      ·exact .inl (by decide)
      ·exact .inr ⟨by decide,by simp;omega⟩
     clear hr h5;rcases g4 with g4|⟨g4,g5⟩
     all_goals
      go_wp2
      go_quiet (fail)
      go_wp2
      go_quiet ((go_at_call 117;exact quiet2 (quiet_same (isBreakFlag _ _))))
      go_wp2
      go_ret2
      refine ⟨rfl,DecV.dec (x:=(off:Int)+1) ?_ _ (by omega) (by omega),hf.trans ?_⟩
      ·repeat (first|with_reducible exact hD.v|with_reducible apply DecV.set|with_reducible apply DecV.drewN)
      ·repeat (first|with_reducible exact Fr.refl _ _|with_reducible refine Fr.setCell ?_ (by simp) _|with_reducible refine Fr.drewN ?_ _)
   ·rw [if_neg h255] at hr;have g3:((xs[off].toNat:Int)==255)=false:=by simp;omega
    clear h255;cases hI:wfI L xs g off dep with
    |none=>rw [hI] at hr;cases hr
    |some q=>
     rw [hI] at hr;have C:=fun n:Nat=>IH.out g (by omega) (wr.drewN n) d db o c dm off dep q (hD.drewN n) hMr hmd hdep hI
     replace C:=Hz C;cases q with
     |error k=>
      cases hr
      clear hI;go_wp2
      go_quiet (fail)
      go_wp2
      go_quiet ((go_at_call 117;exact quiet2 (quiet_same (isBreakFlag _ _))))
      go_wp2_with fail
      refine (C.out _).mono ?_
      rintro e w2 ⟨v,rfl,hv,hu,hf2⟩;obtain ⟨t,x,rfl⟩:=hv.iface;go_wp2
      go_ret2
      exact ⟨_,rfl,hv,hu,hf.trans ⟨hf2.os,hf2.tape,hf2.output,hf2.size,hf2.block⟩⟩
     |ok p=>
      obtain ⟨D,o'⟩:=p;dsimp only at hr;have hDd:=((wfI_dep L xs hn g).1 _ _ _ _ hdep hI).1;have hof:=(wfI_off L xs g).1 _ _ _ _ hI;clear hI;have hM65:max M D≤65535:=by omega
      have hdM':dep≤max M D:=by omega
      by_cases h4:m=4
      ·subst h4;by_cases he:L.el<i+1
       ·rw [if_pos ⟨rfl,he⟩] at hr;cases hr
        have t1:(L.el:Int)<(i:Int)+1:=by omega
        clear he;by_cases hMD:(M:Int)<(D:Int)
        all_goals
         go_wp2
         go_quiet (fail)
         go_wp2
         go_quiet ((go_at_call 117;exact quiet2 (quiet_same (isBreakFlag _ _))))
         go_wp2_with fail
         refine (C.out _).mono ?_
         rintro e w2 ⟨rfl,hD2,hf2⟩;have hf2':Fr [d] wr w2:=⟨hf2.os,hf2.tape,hf2.output,hf2.size,hf2.block⟩;clear hf2;have k2:=hD2.c2;have hM2:=hMr.fr hf2' (by simpa using hmd)
         have m2:w2.cell? ⟨dm,2,none⟩=some (.int .i64 (L.el:Int)):=hM2.cell 2;have m3:w2.cell? ⟨dm,3,none⟩=some (.int .i64 (L.pa:Int)):=hM2.cell 3;go_wp2
         go_region
         all_goals
          go_wp2
          go_ret2
          refine ⟨_,rfl,errv_ptr 6 (by omega) _,?_,(hf.trans hf2').trans ?_⟩
          ·apply Exists.intro
           repeat (first|with_reducible exact hD2.v|with_reducible apply DecV.alloc|with_reducible apply DecV.drewN|with_reducible apply DecV.drew)
          ·repeat (first|with_reducible exact Fr.refl _ _|with_reducible refine Fr.alloc ?_ _|with_reducible refine Fr.drewN ?_ _|with_reducible refine Fr.drew ?_)
       ·rw [if_neg (fun hh=>he hh.2),if_neg (fun hh=>hh.1 rfl),joinD_joinD] at hr
        replace hr:=Hz hr;have t1: ¬(L.el:Int)<(i:Int)+1:=by omega
        clear he;by_cases hMD:(M:Int)<(D:Int)
        ·have hmax:Value.int .i64 (D:Int)= .int .i64 ((max M D:Nat):Int):=by congr 1;omega
         go_wp2
         go_quiet (fail)
         go_wp2
         go_quiet ((go_at_call 117;exact quiet2 (quiet_same (isBreakFlag _ _))))
         go_wp2_with fail
         refine (C.out _).mono ?_
         rintro e w2 ⟨rfl,hD2,hf2⟩;have hf2':Fr [d] wr w2:=⟨hf2.os,hf2.tape,hf2.output,hf2.size,hf2.block⟩;clear hf2;have k2:=hD2.c2;have hM2:=hMr.fr hf2' (by simpa using hmd)
         have m2:w2.cell? ⟨dm,2,none⟩=some (.int .i64 (L.el:Int)):=hM2.cell 2;have m3:w2.cell? ⟨dm,3,none⟩=some (.int .i64 (L.pa:Int)):=hM2.cell 3;go_wp2
         go_roundg g
         case measure=>omega
         case rel=>exact ⟨max M D,i+1,o',rfl,by go_num,by omega,by omega,hdM',hM65,hr,hD2,hf.trans hf2'⟩
        ·have hmax:Value.int .i64 (M:Int)= .int .i64 ((max M D:Nat):Int):=by congr 1;omega
         go_wp2
         go_quiet (fail)
         go_wp2
         go_quiet ((go_at_call 117;exact quiet2 (quiet_same (isBreakFlag _ _))))
         go_wp2_with fail
         refine (C.out _).mono ?_
         rintro e w2 ⟨rfl,hD2,hf2⟩;have hf2':Fr [d] wr w2:=⟨hf2.os,hf2.tape,hf2.output,hf2.size,hf2.block⟩;clear hf2;have k2:=hD2.c2;have hM2:=hMr.fr hf2' (by simpa using hmd)
         have m2:w2.cell? ⟨dm,2,none⟩=some (.int .i64 (L.el:Int)):=hM2.cell 2;have m3:w2.cell? ⟨dm,3,none⟩=some (.int .i64 (L.pa:Int)):=hM2.cell 3;go_wp2
         go_roundg g
         case measure=>omega
         case rel=>exact ⟨max M D,i+1,o',rfl,by go_num,by omega,by omega,hdM',hM65,hr,hD2,hf.trans hf2'⟩
      ·obtain rfl:m=5:=by omega
       by_cases he:(i+1)%2=0∧L.pa<(i+1)/2
       ·rw [if_neg (fun hh=>h4 hh.1),if_pos ⟨h4,he⟩] at hr
        cases hr
        have t1:(((i:Int)+1)%2==0)=true:=by simp;omega
        have t2:(L.pa:Int)<((i:Int)+1)/2:=by omega
        clear he h4;by_cases hMD:(M:Int)<(D:Int)
        all_goals
         go_wp2
         go_quiet (fail)
         go_wp2
         go_quiet ((go_at_call 117;exact quiet2 (quiet_same (isBreakFlag _ _))))
         go_wp2_with fail
         refine (C.out _).mono ?_
         rintro e w2 ⟨rfl,hD2,hf2⟩;have hf2':Fr [d] wr w2:=⟨hf2.os,hf2.tape,hf2.output,hf2.size,hf2.block⟩;clear hf2;have k2:=hD2.c2;have hM2:=hMr.fr hf2' (by simpa using hmd)
         have m2:w2.cell? ⟨dm,2,none⟩=some (.int .i64 (L.el:Int)):=hM2.cell 2;have m3:w2.cell? ⟨dm,3,none⟩=some (.int .i64 (L.pa:Int)):=hM2.cell 3;go_wp2
         go_region
         all_goals
          go_wp2
          go_ret2
          refine ⟨_,rfl,errv_ptr 7 (by omega) _,?_,(hf.trans hf2').trans ?_⟩
          ·apply Exists.intro
           repeat (first|with_reducible exact hD2.v|with_reducible apply DecV.alloc|with_reducible apply DecV.drewN|with_reducible apply DecV.drew)
          ·repeat (first|with_reducible exact Fr.refl _ _|with_reducible refine Fr.alloc ?_ _|with_reducible refine Fr.drewN ?_ _|with_reducible refine Fr.drew ?_)
       ·rw [if_neg (fun hh=>h4 hh.1),if_neg (fun hh=>he hh.2),joinD_joinD] at hr
        replace hr:=Hz hr;by_cases he2:(i+1)%2=0
        ·have t1:(((i:Int)+1)%2==0)=true:=by simp;omega
         have t2: ¬(L.pa:Int)<((i:Int)+1)/2:=by omega
         clear he h4 he2;by_cases hMD:(M:Int)<(D:Int)
         ·have hmax:Value.int .i64 (D:Int)= .int .i64 ((max M D:Nat):Int):=by congr 1;omega
          go_wp2
          go_quiet (fail)
          go_wp2
          go_quiet ((go_at_call 117;exact quiet2 (quiet_same (isBreakFlag _ _))))
          go_wp2_with fail
          refine (C.out _).mono ?_
          rintro e w2 ⟨rfl,hD2,hf2⟩;have hf2':Fr [d] wr w2:=⟨hf2.os,hf2.tape,hf2.output,hf2.size,hf2.block⟩;clear hf2;have k2:=hD2.c2;have hM2:=hMr.fr hf2' (by simpa using hmd)
          have m2:w2.cell? ⟨dm,2,none⟩=some (.int .i64 (L.el:Int)):=hM2.cell 2;have m3:w2.cell? ⟨dm,3,none⟩=some (.int .i64 (L.pa:Int)):=hM2.cell 3;go_wp2
          go_roundg g
          case measure=>omega
          case rel=>exact ⟨max M D,i+1,o',rfl,by go_num,by omega,by omega,hdM',hM65,hr,hD2,hf.trans hf2'⟩
         ·have hmax:Value.int .i64 (M:Int)= .int .i64 ((max M D:Nat):Int):=by congr 1;omega
          go_wp2
          go_quiet (fail)
          go_wp2
          go_quiet ((go_at_call 117;exact quiet2 (quiet_same (isBreakFlag _ _))))
          go_wp2_with fail
          refine (C.out _).mono ?_
          rintro e w2 ⟨rfl,hD2,hf2⟩;have hf2':Fr [d] wr w2:=⟨hf2.os,hf2.tape,hf2.output,hf2.size,hf2.block⟩;clear hf2;have k2:=hD2.c2;have hM2:=hMr.fr hf2' (by simpa using hmd)
          have m2:w2.cell? ⟨dm,2,none⟩=some (.int .i64 (L.el:Int)):=hM2.cell 2;have m3:w2.cell? ⟨dm,3,none⟩=some (.int .i64 (L.pa:Int)):=hM2.cell 3;go_wp2
          go_roundg g
          case measure=>omega
          case rel=>exact ⟨max M D,i+1,o',rfl,by go_num,by omega,by omega,hdM',hM65,hr,hD2,hf.trans hf2'⟩
        ·have t1:(((i:Int)+1)%2==0)=false:=by simp;omega
         clear he h4 he2;by_cases hMD:(M:Int)<(D:Int)
         ·have hmax:Value.int .i64 (D:Int)= .int .i64 ((max M D:Nat):Int):=by congr 1;omega
          go_wp2
          go_quiet (fail)
          go_wp2
          go_quiet ((go_at_call 117;exact quiet2 (quiet_same (isBreakFlag _ _))))
          go_wp2_with fail
          refine (C.out _).mono ?_
          rintro e w2 ⟨rfl,hD2,hf2⟩;have hf2':Fr [d] wr w2:=⟨hf2.os,hf2.tape,hf2.output,hf2.size,hf2.block⟩;clear hf2;have k2:=hD2.c2;have hM2:=hMr.fr hf2' (by simpa using hmd)
          have m2:w2.cell? ⟨dm,2,none⟩=some (.int .i64 (L.el:Int)):=hM2.cell 2;have m3:w2.cell? ⟨dm,3,none⟩=some (.int .i64 (L.pa:Int)):=hM2.cell 3;go_wp2
          go_roundg g
          case measure=>omega
          case rel=>exact ⟨max M D,i+1,o',rfl,by go_num,by omega,by omega,hdM',hM65,hr,hD2,hf.trans hf2'⟩
         ·have hmax:Value.int .i64 (M:Int)= .int .i64 ((max M D:Nat):Int):=by congr 1;omega
          go_wp2
          go_quiet (fail)
          go_wp2
          go_quiet ((go_at_call 117;exact quiet2 (quiet_same (isBreakFlag _ _))))
          go_wp2_with fail
          refine (C.out _).mono ?_
          rintro e w2 ⟨rfl,hD2,hf2⟩;have hf2':Fr [d] wr w2:=⟨hf2.os,hf2.tape,hf2.output,hf2.size,hf2.block⟩;clear hf2;have k2:=hD2.c2;have hM2:=hMr.fr hf2' (by simpa using hmd)
          have m2:w2.cell? ⟨dm,2,none⟩=some (.int .i64 (L.el:Int)):=hM2.cell 2;have m3:w2.cell? ⟨dm,3,none⟩=some (.int .i64 (L.pa:Int)):=hM2.cell 3;go_wp2
          go_roundg g
          case measure=>omega
          case rel=>exact ⟨max M D,i+1,o',rfl,by go_num,by omega,by omega,hdM',hM65,hr,hD2,hf.trans hf2'⟩
end
end
end Go.Proofs.YteodinhkhhaafaaGreatDoor
