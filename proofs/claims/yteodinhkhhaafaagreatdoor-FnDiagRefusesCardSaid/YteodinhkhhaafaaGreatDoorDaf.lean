/- Walks of the program, and plain facts. -/
import Derived.Test.YteodinhkhhaafaaGreatDoorDae
set_option linter.unusedVariables false
set_option linter.unusedSimpArgs false
set_option maxRecDepth 100000
set_option maxHeartbeats 6400000
namespace Go.Proofs.YteodinhkhhaafaaGreatDoor
section
open Go.RowKit
def Item (L:Lim) (xs:List UInt8) (f:Nat):Prop:=
 ∀(w:World) (d db o c dm off dep:Nat) (r:Except Nat (Nat×Nat)),Dec w d db o c dm xs off→DecM w dm L.nest L.el L.pa→dm≠d→dep≤65535→wfI L xs f off dep=some r→
  Calls Tryz.prog 114 #[.pointer (some ⟨d,0,none⟩),.int .i64 (dep:Int),.bool false] w (WPost w d db o c dm xs r)
theorem wfI_dep (L:Lim) (xs:List UInt8) (hn:L.nest≤65535): ∀f,(∀off dep D o,dep≤65535→wfI L xs f off dep=some (.ok (D,o))→D≤65535∧dep≤D)∧(∀m off dep D o,dep≤65535→wfS L xs f m off dep=some (.ok (D,o))→D≤65535∧dep≤D)∧
  (∀m i off dep D o,dep≤65535→wfO L xs f m i off dep=some (.ok (D,o))→D≤65535∧dep≤D)∧(∀n off dep D o,dep≤65535→wfN L xs f n off dep=some (.ok (D,o))→D≤65535∧dep≤D)∧(∀off dep D o,dep≤65535→wfT L xs f off dep=some (.ok (D,o))→D≤65535∧dep≤D):=by
 intro f
 have hj: ∀D r D' o,joinD D r=some (.ok (D',o))→ ∃D1,r=some (.ok (D1,o))∧D'=max D D1:=by
  intro D r D' o h
  unfold joinD at h
  split at h
  ·cases h;exact ⟨_,rfl,rfl⟩
  ·exact ⟨D',h,by rename_i hx;exact absurd h (hx _ _)⟩
 induction f with
 |zero=>simp [wfI,wfS,wfO,wfN,wfT]
 |succ f ih=>
  obtain ⟨i1,i2,i3,i4,i5⟩:=ih
  refine ⟨?_,?_,?_,?_,?_⟩
  ·intro off dep D o hd h
   unfold wfI at h
   split at h
   ·cases h
   ·split at h
    ·split at h
     ·exact i2 _ _ _ _ _ hd h
     ·split at h
      ·cases h
      ·split at h
       ·cases h
       ·cases h;exact ⟨hd,Nat.le_refl _⟩
    ·split at h
     ·split at h
      ·cases h
      ·split at h
       ·have:=i3 _ _ _ _ _ _ (by omega) h;omega
       ·split at h
        ·cases h
        ·split at h
         ·cases h
         ·split at h
          ·cases h
          ·have:=i4 _ _ _ _ _ (by omega) h;omega
     ·split at h
      ·exact i5 _ _ _ _ hd h
      ·cases h;exact ⟨hd,Nat.le_refl _⟩
  ·intro m off dep D o hd h
   unfold wfS at h
   split at h
   ·cases h
   ·split at h
    ·cases h;exact ⟨hd,Nat.le_refl _⟩
    ·split at h
     ·cases h
     ·split at h
      ·cases h
      ·split at h
       ·rename_i D1 o1 h1
        have a:=i1 _ _ _ _ hd h1
        have b:=i2 _ _ _ _ _ a.1 h
        omega
       ·exact i1 _ _ _ _ hd h
  ·intro m i off dep D o hd h
   unfold wfO at h
   split at h
   ·cases h
   ·split at h
    ·split at h
     ·cases h
     ·cases h;exact ⟨hd,Nat.le_refl _⟩
    ·split at h
     ·rename_i D1 o1 h1
      split at h
      ·cases h
      ·split at h
       ·cases h
       ·obtain ⟨D2,h2,rfl⟩:=hj _ _ _ _ h
        have a:=i1 _ _ _ _ hd h1
        have b:=i3 _ _ _ _ _ _ hd h2
        omega
     ·exact i1 _ _ _ _ hd h
  ·intro n off dep D o hd h
   unfold wfN at h
   split at h
   ·cases h;exact ⟨hd,Nat.le_refl _⟩
   ·split at h
    ·rename_i D1 o1 h1
     obtain ⟨D2,h2,rfl⟩:=hj _ _ _ _ h
     have a:=i1 _ _ _ _ hd h1
     have b:=i4 _ _ _ _ _ hd h2
     omega
    ·exact i1 _ _ _ _ hd h
  ·intro off dep D o hd h
   unfold wfT at h
   split at h
   ·cases h
   ·split at h
    ·exact i1 _ _ _ _ hd h
    ·split at h
     ·cases h
     ·split at h
      ·cases h
      ·have:=i5 _ _ _ _ (by omega) h;omega
section
variable {w:World} {d db o c dm off:Nat} {L:Lim} {xs:List UInt8}
theorem chunks_any (hn:L.nest≤65535) (f:Nat) (IH: ∀g,g<f→Item L xs g) (m:Nat) (hm:m<8) (dep:Nat) (r:Except Nat (Nat×Nat)) (h:Dec w d db o c dm xs off) (hM:DecM w dm L.nest L.el L.pa) (hmd:dm≠d) (hdep:dep≤65535)
  (hr:wfS L xs f m off dep=some r):
  Calls Tryz.prog 155 #[.pointer (some ⟨d,0,none⟩),.int .u8 ((m*32:Nat):Int),.int .i64 (dep:Int),.bool false] w (WPost w d db o c dm xs r):=by
 replace hr:=Hz hr
 replace IH:=Hz IH
 go_enter Tryz.func155,Tryz.ntmps155
 go_wp2
 go_loopg [2] f (fun k v2 wr=> ∃dep off:Nat,v2= .int .i64 (dep:Int)∧k≤f∧dep≤65535∧Hid (wfS L xs k m off dep=some r)∧Dec wr d db o c dm xs off∧Fr [d] w wr)
 case atStart=>exact ⟨dep,off,rfl,Nat.le_refl _,hdep,hr,h,Fr.refl _ _⟩
 case round=>
  obtain ⟨dep,off,rfl,hk,hdep,hr,hD,hf⟩:=hrel
  have hr:=hr.out
  rcases gk with _|g
  ·simp [wfS] at hr
  unfold wfS at hr
  have h0:=hD.c0
  have h1:=hD.c1
  have f1:=hD.f1
  have hlen:=hD.len
  have n1: ¬db=d:=hD.ne
  have n2: ¬d=db:=fun e=>hD.ne e.symm
  cases hx:xs[off]? with
  |none=>
   rw [hx] at hr
   cases hr
   have hoff:off=xs.length:=Nat.le_antisymm hD.le (by simpa using List.getElem?_eq_none_iff.1 hx)
   have g1:((xs.length:Int)==(off:Int))=true:=by simp;omega
   have g2:(xs.length==off)=true:=by simp;omega
   clear hx
   replace hoff:=Hz hoff
   go_wp2
   go_quiet (fail)
   go_wp2
   go_ret2
   exact ⟨_,rfl,rfl,⟨_,hD.v.drewN _⟩,hf.drewN _⟩
  |some b=>
   obtain ⟨hl,rfl⟩:=getElem?_lt hx
   rw [hx] at hr
   dsimp only at hr
   have ha:=hD.at_ off hl
   have hb8:=u8lt xs[off]
   have g1:((xs.length:Int)==(off:Int))=false:=by simp;omega
   have g2:(xs.length==off)=false:=by simp;omega
   clear hx
   by_cases h255:xs[off].toNat=255
   ·rw [if_pos h255] at hr
    cases hr
    have g3:((xs[off].toNat:Int)==255)=true:=by simp;omega
    clear h255
    go_wp2
    go_quiet (fail)
    go_wp2
    go_quiet ((go_at_call 117;exact quiet2 (quiet_same (isBreakFlag _ _))))
    go_wp2
    go_ret2
    refine ⟨rfl,DecV.dec (x:=(off:Int)+1) ?_ _ (by omega) (by omega),hf.trans ?_⟩
    ·repeat (first|with_reducible exact hD.v|with_reducible apply DecV.set|with_reducible apply DecV.drewN)
    ·repeat (first|with_reducible exact Fr.refl _ _|with_reducible refine Fr.setCell ?_ (by simp) _|with_reducible refine Fr.drewN ?_ _)
   ·rw [if_neg h255] at hr
    have g3:((xs[off].toNat:Int)==255)=false:=by simp;omega
    clear h255
    have K:=Hz (parseInitialByte xs[off])
    by_cases hm2:xs[off].toNat/32≠m
    ·rw [if_pos hm2] at hr
     cases hr
     have g4:((m:Int)*32 !=(xs[off].toNat:Int)/32*32)=true:=by rw [bne_iff_ne];omega
     have K1:=Hz (typeName m hm)
     have K2:=Hz (typeName (xs[off].toNat/32) (by omega))
     clear hm2
     go_wp2
     go_quiet (fail)
     go_wp2
     go_quiet ((go_at_call 117;exact quiet2 (quiet_same (isBreakFlag _ _))))
     go_wp2
     go_quiet ((go_at_call 160;exact quiet2 (quiet_same (K.out _))))
     go_wp2_with fail
     refine (K2.out _).mono ?_
     rintro e w1 ⟨s1,rfl,hs1,rfl⟩
     go_wp2_with fail
     refine (K1.out _).mono ?_
     rintro e w2 ⟨s2,rfl,hs2,rfl⟩
     go_wp2
     go_ret2
     refine ⟨_,rfl,errv_ptr 3 (.inl rfl) _,?_,hf.trans ?_⟩
     ·apply Exists.intro
      repeat (first|with_reducible exact hD.v|with_reducible apply DecV.alloc|with_reducible apply DecV.drewN)
     ·repeat (first|with_reducible exact Fr.refl _ _|with_reducible refine Fr.alloc ?_ _|with_reducible refine Fr.drewN ?_ _)
    ·rw [if_neg hm2] at hr
     have g4:((m:Int)*32 !=(xs[off].toNat:Int)/32*32)=false:=by rw [bne_eq_false_iff_eq];omega
     have hm3:xs[off].toNat/32=m:=by omega
     clear hm2
     by_cases h31:xs[off].toNat%32=31
     ·rw [if_pos h31] at hr
      cases hr
      have g5:((xs[off].toNat:Int)%32==31)=true:=by simp;omega
      have K1:=Hz (typeName m hm)
      clear h31 hm3
      go_wp2
      go_quiet (fail)
      go_wp2
      go_quiet ((go_at_call 117;exact quiet2 (quiet_same (isBreakFlag _ _))))
      go_wp2
      go_quiet ((go_at_call 160;exact quiet2 (quiet_same (K.out _))))
      go_wp2_with (go_at_call 190;go_in)
      go_wp2_with fail
      refine (K1.out _).mono ?_
      rintro e w2 ⟨s2,rfl,hs2,rfl⟩
      go_wp2
      go_ret2
      refine ⟨_,rfl,errv_ptr 3 (.inl rfl) _,?_,hf.trans ?_⟩
      ·apply Exists.intro
       repeat (first|with_reducible exact hD.v|with_reducible apply DecV.alloc|with_reducible apply DecV.drewN)
      ·repeat (first|with_reducible exact Fr.refl _ _|with_reducible refine Fr.alloc ?_ _|with_reducible refine Fr.drewN ?_ _)
     ·rw [if_neg h31] at hr
      have g5:((xs[off].toNat:Int)%32==31)=false:=by simp;omega
      clear h31 hm3
      have hMr:DecM wr dm L.nest L.el L.pa:=hM.fr hf (by simpa using hmd)
      cases hI:wfI L xs g off dep with
      |none=>rw [hI] at hr;cases hr
      |some q=>
       rw [hI] at hr
       have C:=fun n:Nat=>IH.out g (by omega) (wr.drewN n) d db o c dm off dep q (hD.drewN n) hMr hmd hdep hI
       replace C:=Hz C
       cases q with
       |error k=>
        cases hr
        clear hI
        go_wp2
        go_quiet (fail)
        go_wp2
        go_quiet ((go_at_call 117;exact quiet2 (quiet_same (isBreakFlag _ _))))
        go_wp2
        go_quiet ((go_at_call 160;exact quiet2 (quiet_same (K.out _))))
        go_wp2_with (go_at_call 190;go_in)
        go_wp2_with fail
        refine (C.out _).mono ?_
        rintro e w2 ⟨v,rfl,hv,hu,hf2⟩
        obtain ⟨t,x,rfl⟩:=hv.iface
        go_wp2
        go_ret2
        exact ⟨_,rfl,hv,hu,hf.trans ⟨hf2.os,hf2.tape,hf2.output,hf2.size,hf2.block⟩⟩
       |ok p=>
        obtain ⟨D,o'⟩:=p
        dsimp only at hr
        have hDd:=((wfI_dep L xs hn g).1 _ _ _ _ hdep hI).1
        clear hI
        replace hr:=Hz hr
        go_wp2
        go_quiet (fail)
        go_wp2
        go_quiet ((go_at_call 117;exact quiet2 (quiet_same (isBreakFlag _ _))))
        go_wp2
        go_quiet ((go_at_call 160;exact quiet2 (quiet_same (K.out _))))
        go_wp2_with (go_at_call 190;go_in)
        go_wp2_with fail
        refine (C.out _).mono ?_
        rintro e w2 ⟨rfl,hD2,hf2⟩
        go_wp2
        go_roundg g
        case measure=>omega
        case rel=>exact ⟨D,o',rfl,by omega,hDd,hr,hD2,hf.trans ⟨hf2.os,hf2.tape,hf2.output,hf2.size,hf2.block⟩⟩
end
end
end Go.Proofs.YteodinhkhhaafaaGreatDoor
