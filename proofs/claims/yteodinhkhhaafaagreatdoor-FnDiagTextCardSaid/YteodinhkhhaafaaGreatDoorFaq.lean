/- Walks of the program, and plain facts. -/
import Derived.Test.YteodinhkhhaafaaGreatDoorFap
import Derived.Shelf.Unicode.DecodeSlow
set_option linter.unusedVariables false
set_option linter.unusedSimpArgs false
set_option maxRecDepth 100000
set_option maxHeartbeats 6400000
namespace Go.Proofs.YteodinhkhhaafaaGreatDoor
section
open Go.RowKit
section
variable {w:World} {d db o c dm off dep:Nat} {L:Lim} {xs:List UInt8}
theorem item_tag (h:Dec w d db o c dm xs off) (hM:DecM w dm L.nest L.el L.pa) (hmd:dm≠d) (hdep:dep≤65535) {ai v o1 f:Nat} (hn:L.nest≤65535) (IH: ∀g,g<f→Item L xs g) (r:Except Nat (Nat×Nat)) (hh:hd xs off= .ok (6,ai,v,o1)) (hr:wfT L xs f o1 dep=some r):
  Calls Tryz.prog 114 #[.pointer (some ⟨d,0,none⟩),.int .i64 (dep:Int),.bool false] w (WPost w d db o c dm xs r):=by
 have KI:=ihead h hM hmd;rw [hh] at KI;have hv:=hd_val hh;have hm:=h.len;have n3: ¬dm=d:=hmd;have n4: ¬d=dm:=fun e=>hmd e.symm
 have g0:((ai:Int)==31)=false:=by have:=(hd_off hh).2.2.2;simp;omega
 replace hr:=Hz hr;replace IH:=Hz IH;replace KI:=Hz KI;replace hh:=Hz hh;clear hv;go_enter Tryz.func114,Tryz.ntmps114
 go_wp2_with fail
 refine KI.out.mono ?_
 rintro e w1 ⟨rfl,hD,hf⟩;have hM1:=hM.fr hf (by simpa using hmd)
 have k0:=hD.c0;have k1:=hD.c1;have k2:=hD.c2;have kf:=hD.f1;have m1:w1.cell? ⟨dm,1,none⟩=some (.int .i64 (L.nest:Int)):=hM1.cell 1;have m2:w1.cell? ⟨dm,2,none⟩=some (.int .i64 (L.el:Int)):=hM1.cell 2;have m3:w1.cell? ⟨dm,3,none⟩=some (.int .i64 (L.pa:Int)):=hM1.cell 3;have m4:w1.cell? ⟨dm,4,none⟩=some (.int .i64 0):=hM1.cell 4;have m5:w1.cell? ⟨dm,5,none⟩=some (.int .i64 0):=hM1.cell 5;have m11:w1.cell? ⟨dm,11,none⟩=some (.pointer none):=hM1.cell 11;have m14:w1.cell? ⟨dm,14,none⟩=some (.int .i64 0):=hM1.cell 14;go_wp2
 go_loopg [1,20] f (fun k v1 v20 wr=> ∃dep off tn:Nat,v1= .int .i64 (dep:Int)∧v20= .int .u64 (tn:Int)∧k≤f∧dep≤65535∧Hid (wfT L xs k off dep=some r)∧Dec wr d db o c dm xs off∧Fr [d] w1 wr)
 case atStart=>exact ⟨dep,o1,v,rfl,rfl,Nat.le_refl _,hdep,hr,hD,Fr.refl _ _⟩
 case round=>
  obtain ⟨dep,off2,tn,rfl,rfl,hk,hdep,hr2,hD2,hf2⟩:=hrel;clear k0 k1 k2 kf m1 m2 m3 m4 m5 m11 m14;have hr2:=hr2.out;rcases gk with _|g
  ·simp [wfT] at hr2
  unfold wfT at hr2;have hM2:DecM wr dm L.nest L.el L.pa:=hM1.fr hf2 (by simpa using hmd)
  have k0:=hD2.c0;have k1:=hD2.c1;have k2:=hD2.c2;have kf:=hD2.f1;have m1:wr.cell? ⟨dm,1,none⟩=some (.int .i64 (L.nest:Int)):=hM2.cell 1;have m14:wr.cell? ⟨dm,14,none⟩=some (.int .i64 0):=hM2.cell 14;cases hx:xs[off2]? with
  |none=>
   rw [hx] at hr2;cases hr2
   have hoff:off2=xs.length:=Nat.le_antisymm hD2.le (by simpa using List.getElem?_eq_none_iff.1 hx)
   have g1:((xs.length:Int)==(off2:Int))=true:=by simp;omega
   have g2:(xs.length==off2)=true:=by simp;omega
   clear hx;replace hoff:=Hz hoff;go_wp2
   go_quiet (fail)
   go_wp2
   go_ret2
   exact ⟨_,rfl,rfl,⟨_,hD2.v.drewN _⟩,(hf.trans hf2).drewN _⟩
  |some b=>
   obtain ⟨hl,rfl⟩:=getElem?_lt hx;rw [hx] at hr2;dsimp only at hr2;have ha:=hD2.at_ off2 hl;have hb8:=u8lt xs[off2];have g1:((xs.length:Int)==(off2:Int))=false:=by simp;omega
   have g2:(xs.length==off2)=false:=by simp;omega
   clear hx;have K:=Hz (getType xs[off2]);by_cases h6:xs[off2].toNat/32=6
   ·rw [if_neg (fun hh=>hh h6)] at hr2
    have g4:((xs[off2].toNat:Int)/32*32 !=192)=false:=by rw [bne_eq_false_iff_eq];omega
    replace h6:=Hz h6;have KH:=fun n:Nat=>wellformedHead (hD2.drewN n) hM2 hmd
    cases hH:hd xs off2 with
    |error k=>
     rw [hH] at hr2 KH;cases hr2
     replace KH:=Hz KH;clear hH;go_wp2
     go_quiet (fail)
     go_wp2
     go_quiet ((go_at_call 158;exact quiet2 (quiet_same (K.out _))))
     go_wp2_with fail
     refine (KH.out _).mono ?_
     rintro e w2 ⟨v2,rfl,hv2,hu2,hf3⟩;obtain ⟨t,x,rfl⟩:=hv2.iface;go_wp2
     go_ret2
     exact ⟨_,rfl,hv2,hu2,(hf.trans hf2).trans ⟨hf3.os,hf3.tape,hf3.output,hf3.size,hf3.block⟩⟩
    |ok q=>
     obtain ⟨mm,ai2,v2,o2⟩:=q;rw [hH] at hr2 KH;dsimp only at hr2;replace KH:=Hz KH;clear hH;have TAIL:True:=trivial;by_cases hs:L.nest<dep+1
     ·rw [if_pos hs] at hr2;cases hr2
      have t1:(L.nest:Int)<(dep:Int)+1:=by omega
      clear hs;go_wp2
      go_quiet (fail)
      go_wp2
      go_quiet ((go_at_call 158;exact quiet2 (quiet_same (K.out _))))
      go_wp2_with fail
      refine (KH.out _).mono ?_
      rintro e w2 ⟨rfl,hD3,hf3⟩;have hf3':Fr [d] wr w2:=⟨hf3.os,hf3.tape,hf3.output,hf3.size,hf3.block⟩;have kk2:=hD3.c2;have hM3:=hM2.fr hf3' (by simpa using hmd)
      have mm1:w2.cell? ⟨dm,1,none⟩=some (.int .i64 (L.nest:Int)):=hM3.cell 1;clear hf3;go_wp2
      go_region
      all_goals
       go_wp2
       go_ret2
       refine ⟨_,rfl,errv_ptr 5 (by omega) _,?_,((hf.trans hf2).trans hf3').trans ?_⟩
       ·apply Exists.intro
        repeat (first|with_reducible exact hD3.v|with_reducible apply DecV.alloc|with_reducible apply DecV.drewN|with_reducible apply DecV.drew)
       ·repeat (first|with_reducible exact Fr.refl _ _|with_reducible refine Fr.alloc ?_ _|with_reducible refine Fr.drewN ?_ _|with_reducible refine Fr.drew ?_)
     ·rw [if_neg hs] at hr2;have t1: ¬(L.nest:Int)<(dep:Int)+1:=by omega
      have hd5:dep+1≤65535:=by omega
      clear hs;replace hr2:=Hz hr2;go_wp2
      go_quiet (fail)
      go_wp2
      go_quiet ((go_at_call 158;exact quiet2 (quiet_same (K.out _))))
      go_wp2_with fail
      refine (KH.out _).mono ?_
      rintro e w2 ⟨rfl,hD3,hf3⟩;have hf3':Fr [d] wr w2:=⟨hf3.os,hf3.tape,hf3.output,hf3.size,hf3.block⟩;have kk2:=hD3.c2;have hM3:=hM2.fr hf3' (by simpa using hmd)
      have mm1:w2.cell? ⟨dm,1,none⟩=some (.int .i64 (L.nest:Int)):=hM3.cell 1;clear hf3;go_wp2
      go_roundg g
      case measure=>omega
      case rel=>exact ⟨dep+1,o2,v2,by go_num,rfl,by omega,hd5,hr2,hD3,hf2.trans hf3'⟩
   ·rw [if_pos h6] at hr2;have g4:((xs[off2].toNat:Int)/32*32 !=192)=true:=by rw [bne_iff_ne];omega
    replace h6:=Hz h6;have C:=fun n:Nat=>IH.out g (by omega) (wr.drewN n) d db o c dm off2 dep r (hD2.drewN n) hM2 hmd hdep hr2
    replace C:=Hz C;clear hr2;go_wp2
    go_quiet (fail)
    go_wp2
    go_quiet ((go_at_call 158;exact quiet2 (quiet_same (K.out _))))
    go_wp2_with fail
    refine (C.out _).mono ?_
    rintro e w2 h2;rcases r with k|⟨D,o'⟩
    ·obtain ⟨v2,rfl,hv2,hu2,hf3⟩:=h2;go_wp2
     go_ret2
     exact ⟨_,rfl,hv2,hu2,(hf.trans hf2).trans ⟨hf3.os,hf3.tape,hf3.output,hf3.size,hf3.block⟩⟩
    ·obtain ⟨rfl,hD3,hf3⟩:=h2;go_wp2
     go_ret2
     exact ⟨rfl,hD3,(hf.trans hf2).trans ⟨hf3.os,hf3.tape,hf3.output,hf3.size,hf3.block⟩⟩
end
end
section
section
open Go.RowKit
theorem item_all (L:Lim) (xs:List UInt8) (hn:L.nest≤65535) (hel:L.el≤2147483647) (hpa:L.pa≤2147483647): ∀f,Item L xs f:=by
 intro f
 induction f using Nat.strongRecOn with
 |_ f IH=>
  intro w d db o c dm off dep r h hM hmd hdep hr;rcases f with _|f
  ·simp [wfI] at hr
  have IH': ∀g,g<f→Item L xs g:=fun g hg=>IH g (by omega)
  unfold wfI at hr;cases hh:hd xs off with
  |error k=>
   rw [hh] at hr;cases hr
   exact item_err h hM hmd hh
  |ok q=>
   obtain ⟨m,ai,v,o1⟩:=q;rw [hh] at hr;dsimp only at hr;have hoff:=hd_off hh;have hval:=hd_val hh;have m8:m=0∨m=1∨m=2∨m=3∨m=4∨m=5∨m=6∨m=7:=by omega
   rcases m8 with rfl|rfl|rfl|rfl|rfl|rfl|rfl|rfl
   ·rw [if_neg (by decide),if_neg (by decide),if_neg (by decide)] at hr
    cases hr
    exact item_int0 h hM hmd hdep hh
   ·rw [if_neg (by decide),if_neg (by decide),if_neg (by decide)] at hr
    cases hr
    exact item_int1 h hM hmd hdep hh
   ·rw [if_pos (.inl rfl)] at hr;by_cases h31:ai=31
    ·subst h31;rw [if_pos rfl] at hr;exact item_chunks2 h hM hmd hdep hn IH' r hh hr
    ·rw [if_neg h31] at hr;by_cases h63:9223372036854775808≤v
     ·rw [if_pos h63] at hr;cases hr
      exact item_str_neg2 h hM hmd hdep hh h31 h63
     ·rw [if_neg h63] at hr;by_cases hs:xs.length-o1<v
      ·rw [if_pos hs] at hr;cases hr
       exact item_str_short2 h hM hmd hdep hh h31 h63 hs
      ·rw [if_neg hs] at hr;cases hr
       exact item_str2 h hM hmd hdep hh h31 hs
   ·rw [if_pos (.inr rfl)] at hr;by_cases h31:ai=31
    ·subst h31;rw [if_pos rfl] at hr;exact item_chunks3 h hM hmd hdep hn IH' r hh hr
    ·rw [if_neg h31] at hr;by_cases h63:9223372036854775808≤v
     ·rw [if_pos h63] at hr;cases hr
      exact item_str_neg3 h hM hmd hdep hh h31 h63
     ·rw [if_neg h63] at hr;by_cases hs:xs.length-o1<v
      ·rw [if_pos hs] at hr;cases hr
       exact item_str_short3 h hM hmd hdep hh h31 h63 hs
      ·rw [if_neg hs] at hr;cases hr
       exact item_str3 h hM hmd hdep hh h31 hs
   ·rw [if_neg (by decide),if_pos (.inl rfl)] at hr
    by_cases hs:L.nest<dep+1
    ·rw [if_pos hs] at hr;cases hr
     exact item_deep4 h hM hmd hdep hh hs
    ·rw [if_neg hs] at hr;by_cases h31:ai=31
     ·subst h31;rw [if_pos rfl] at hr;exact item_open4 h hM hmd hdep hn hel hpa IH' r hh hs hr
     ·rw [if_neg h31] at hr;by_cases h63:9223372036854775808≤v
      ·rw [if_pos h63] at hr;cases hr
       exact item_list_neg4 h hM hmd hdep hh hs h31 h63
      ·rw [if_neg h63] at hr;by_cases h2:L.el<v
       ·rw [if_pos ⟨rfl,h2⟩] at hr;cases hr
        exact item_many4 h hM hmd hdep hh hs h31 h63 h2
       ·rw [if_neg (fun e=>h2 e.2),if_neg (by omega)] at hr
        exact item_list4 h hM hmd hdep hn hel IH' r hh hs h31 h2 hr
   ·rw [if_neg (by decide),if_pos (.inr rfl)] at hr
    by_cases hs:L.nest<dep+1
    ·rw [if_pos hs] at hr;cases hr
     exact item_deep5 h hM hmd hdep hh hs
    ·rw [if_neg hs] at hr;by_cases h31:ai=31
     ·subst h31;rw [if_pos rfl] at hr;exact item_open5 h hM hmd hdep hn hel hpa IH' r hh hs hr
     ·rw [if_neg h31] at hr;by_cases h63:9223372036854775808≤v
      ·rw [if_pos h63] at hr;cases hr
       exact item_list_neg5 h hM hmd hdep hh hs h31 h63
      ·rw [if_neg h63] at hr;rw [if_neg (by omega)] at hr
       by_cases h2:L.pa<v
       ·rw [if_pos ⟨rfl,h2⟩] at hr;cases hr
        exact item_many5 h hM hmd hdep hh hs h31 h63 h2
       ·rw [if_neg (fun e=>h2 e.2)] at hr
        exact item_list5 h hM hmd hdep hn hpa IH' r hh hs h31 h2 hr
   ·rw [if_neg (by decide),if_neg (by decide),if_pos rfl] at hr
    exact item_tag h hM hmd hdep hn IH' r hh hr
   ·rw [if_neg (by decide),if_neg (by decide),if_neg (by decide)] at hr
    cases hr
    exact item_prim h hM hmd hdep hh
end
section
open Go.RowKit
def wfTop (L:Lim) (xs:List UInt8) (more:Bool) (off:Nat) (r:Option Nat):Prop:=
 (off=xs.length∧r=some 1)∨(off<xs.length∧ ∃f r1,wfI L xs f off 0=some r1∧
  r=(match r1 with| .error k=>some k| .ok (_,o)=>if more then none else if o=xs.length then none else some 4))
def ErrO (r:Option Nat) (v:Value):Prop:=
 match r with
 |none=>v= .nilIface
 |some k=>ErrV k v
section
variable {w:World} {d db o c dm off n el pa:Nat} {L:Lim} {xs:List UInt8}
theorem wellformed (hn:L.nest≤65535) (hel:L.el≤2147483647) (hpa:L.pa≤2147483647) (h:Dec w d db o c dm xs off) (hM:DecM w dm L.nest L.el L.pa) (hmd:dm≠d) (more:Bool) (r:Option Nat) (hr:wfTop L xs more off r):
  Calls Tryz.prog 101 #[.pointer (some ⟨d,0,none⟩),.bool more,.bool false] w fun e w'=> ∃v,e= .returned v∧ErrO r v∧(∃u,DecV w' d db o c dm xs u)∧Fr [d] w w':=by
 have k0:=h.c0;have k1:=h.c1;have hle:=h.le;have hlen:=h.len;rcases hr with ⟨hl,rfl⟩|⟨hl,f,r1,hr1,rfl⟩
 ·have g0:((xs.length:Int)==(off:Int))=true:=by simp;omega
  go_enter Tryz.func101,Tryz.ntmps101
  go_wp2
  go_quiet (fail)
  go_wp2;go_ret
  exact ⟨_,rfl,by simp [ErrO,ErrV,eofS],⟨_,by repeat (first|with_reducible exact h.v|with_reducible apply DecV.drewN)⟩,by
   repeat (first|with_reducible exact Fr.refl _ _|with_reducible refine Fr.drewN ?_ _)⟩
 ·have g0:((xs.length:Int)==(off:Int))=false:=by simp;omega
  go_enter Tryz.func101,Tryz.ntmps101
  go_wp2
  go_quiet (fail)
  have K: ∀m,Calls Tryz.prog 114 #[.pointer (some ⟨d,0,none⟩),.int .i64 ((0:Nat):Int),.bool false] (w.drewN m) (WPost (w.drewN m) d db o c dm xs r1):=fun m=>item_all L xs hn hel hpa f (w.drewN m) d db o c dm off 0 r1 (h.drewN m) hM hmd (by omega) hr1
  replace K:=Hz K;go_wp2_with fail
  refine (K.out _).mono ?_
  rintro e w1 h1;rcases r1 with k|⟨D,o'⟩
  ·obtain ⟨v,rfl,hv,⟨u,hu⟩,hf⟩:=h1;obtain ⟨t,x,rfl⟩:=hv.iface;go_wp2;go_ret
   exact ⟨_,rfl,hv,⟨_,hu⟩,by
    refine Fr.trans ?_ hf
    repeat (first|with_reducible exact Fr.refl _ _|with_reducible refine Fr.drewN ?_ _)⟩
  ·obtain ⟨rfl,hD,hf⟩:=h1;have k0:=hD.c0;have k1:=hD.c1;go_wp2;rcases more with _|_
   ·by_cases he:o'=xs.length
    ·have g1:((o':Int) !=(xs.length:Int))=false:=by simp;omega
     go_quiet (fail)
     go_wp2;go_ret
     exact ⟨_,rfl,by simp [he,ErrO],⟨_,by repeat (first|with_reducible exact hD.v|with_reducible apply DecV.drewN)⟩,by
      refine Fr.trans (w':=w1) ?_ ?_
      ·refine Fr.trans ?_ hf
       repeat (first|with_reducible exact Fr.refl _ _|with_reducible refine Fr.drewN ?_ _)
      ·repeat (first|with_reducible exact Fr.refl _ _|with_reducible refine Fr.drewN ?_ _)⟩
    ·have g1:((o':Int) !=(xs.length:Int))=true:=by simp;omega
     go_quiet (fail)
     go_wp2
     go_region
     all_goals
      go_wp2;go_ret
      refine ⟨_,rfl,?_,?_,?_⟩
      ·simp only [he,if_false,Bool.false_eq_true];exact errv_ptr 4 (by omega) _
      ·apply Exists.intro
       repeat (first|with_reducible exact hD.v|with_reducible apply DecV.drewN|with_reducible apply DecV.alloc|with_reducible apply DecV.drew)
      ·refine Fr.trans (w':=w1) ?_ ?_
       ·refine Fr.trans ?_ hf
        repeat (first|with_reducible exact Fr.refl _ _|with_reducible refine Fr.drewN ?_ _)
       ·repeat (first|with_reducible exact Fr.refl _ _|with_reducible refine Fr.drewN ?_ _|with_reducible refine Fr.alloc ?_ _|with_reducible refine Fr.drew ?_)
   ·go_quiet (fail)
    go_wp2;go_ret
    exact ⟨_,rfl,rfl,⟨_,by repeat (first|with_reducible exact hD.v|with_reducible apply DecV.drewN)⟩,by
     refine Fr.trans (w':=w1) ?_ ?_
     ·refine Fr.trans ?_ hf
      repeat (first|with_reducible exact Fr.refl _ _|with_reducible refine Fr.drewN ?_ _)
     ·repeat (first|with_reducible exact Fr.refl _ _|with_reducible refine Fr.drewN ?_ _)⟩
end
end
end
section
open Go.RowKit
def U8 (w:World):Prop:=Lib.Utf8Tabs 0 1 w
theorem U8.keep {w w':World} (h:U8 w) (hk: ∀k,k<2→w'.heap[k]? =w.heap[k]?):U8 w':=by
 have hc: ∀p:Addr,p.block<2→w'.cell? p=w.cell? p:=fun p hp=>World.cell?_of_block (w:=w) (hk p.block hp)
 obtain ⟨h1,h2⟩:=h;refine ⟨fun c hl=>(hc ⟨0,c,none⟩ (by simp)).trans (h1 c hl),fun i hi=>⟨(hc ⟨1,2*i,none⟩ (by simp)).trans (h2 i hi).1,(hc ⟨1,2*i+1,none⟩ (by simp)).trans (h2 i hi).2⟩⟩
theorem U8.size {w:World} (h:U8 w):2≤w.heap.size:=by
 have:=World.block_lt_of_cell? w ⟨1,2*0,none⟩ (h.2 0 (by omega)).1
 exact this
theorem U8.fr {w w':World} {S:List Nat} (h:U8 w) (hf:Fr S w w') (hs: ∀k,k∈S→2≤k):U8 w':=h.keep fun k hk=>hf.block k (by have:=h.size;omega) (fun e=>by have:=hs k e;omega)
theorem U8.gr {w w':World} {S:List Nat} {B:Nat} (h:U8 w) (hf:Gr B S w w') (hB:2≤B) (hs: ∀k,k∈S→2≤k):U8 w':=h.keep fun k hk=>hf.block k (by omega) (fun e=>by have:=hs k e;omega)
structure Md where
 enc:Nat
 sp:Bool
 tx:Bool
 em:Bool
 sq:Bool
 pr:Bool
structure Cx where
 B:Nat
 di:Nat
 dg:Nat
 d:Nat
 wb:Nat
 db:Nat
 o:Nat
 c:Nat
 dm:Nat
 xs:List UInt8
 L:Lim
 M:Md
structure St (X:Cx) (off:Nat) (bs:List UInt8) (w:World):Prop where
 di:w.heap[X.di]? =some (.cells #[.pointer (some ⟨X.dg,0,none⟩),.pointer (some ⟨X.d,0,none⟩),.pointer (some ⟨X.wb,0,none⟩)] 196 (0,0))
 dg:w.heap[X.dg]? =some (.cells #[.int .u8 (X.M.enc:Int),.bool X.M.sp,.bool X.M.tx,.bool X.M.em,.bool X.M.sq,.bool X.M.pr,.pointer (some ⟨X.dm,0,none⟩)] 139 (0,0))
 dec:Dec w X.d X.db X.o X.c X.dm X.xs off
 dm:DecM w X.dm X.L.nest X.L.el X.L.pa
 buf:Buf w X.B X.wb bs
 hB:X.B≤w.heap.size
 ldi:X.di<X.B
 ldg:X.dg<X.B
 ld:X.d<X.B
 lw:X.wb<X.B
 ldb:X.db<X.B
 ldm:X.dm<X.B
 nw:X.db≠X.wb
 u8:U8 w
 l2B:2≤X.B
 l2d:2≤X.d
 l2w:2≤X.wb
section
variable {X:Cx} {off:Nat} {bs:List UInt8} {w:World}
theorem St.n1 (h:St X off bs w):X.di≠X.d:=fun e=>by have h1:=h.di;rw [e,h.dec.blk] at h1;simp at h1
theorem St.n2 (h:St X off bs w):X.dg≠X.d:=fun e=>by have h1:=h.dg;rw [e,h.dec.blk] at h1;simp at h1
theorem St.n3 (h:St X off bs w):X.dm≠X.d:=fun e=>by have h1:=h.dm;unfold DecM at h1;rw [e,h.dec.blk] at h1;simp at h1
theorem St.n4 (h:St X off bs w):X.di≠X.wb:=fun e=>by obtain ⟨v,hv,_⟩:=h.buf;have h1:=h.di;rw [e,hv] at h1;simp at h1
theorem St.n5 (h:St X off bs w):X.dg≠X.wb:=fun e=>by obtain ⟨v,hv,_⟩:=h.buf;have h1:=h.dg;rw [e,hv] at h1;simp at h1
theorem St.n6 (h:St X off bs w):X.dm≠X.wb:=fun e=>by obtain ⟨v,hv,_⟩:=h.buf;have h1:=h.dm;unfold DecM at h1;rw [e,hv] at h1;simp at h1
theorem St.n7 (h:St X off bs w):X.d≠X.wb:=fun e=>by obtain ⟨v,hv,_⟩:=h.buf;have h1:=h.dec.blk;rw [e,hv] at h1;simp at h1
theorem St.i0 (h:St X off bs w):w.cell? ⟨X.di,0,none⟩=some (.pointer (some ⟨X.dg,0,none⟩)):=cell_blk h.di 0
theorem St.i1 (h:St X off bs w):w.cell? ⟨X.di,1,none⟩=some (.pointer (some ⟨X.d,0,none⟩)):=cell_blk h.di 1
theorem St.i2 (h:St X off bs w):w.cell? ⟨X.di,2,none⟩=some (.pointer (some ⟨X.wb,0,none⟩)):=cell_blk h.di 2
theorem St.moved {w':World} (h:St X off bs w) (hf:Fr [X.d] w w') {off':Nat} (hd:Dec w' X.d X.db X.o X.c X.dm X.xs off'):St X off' bs w':=
 ⟨hf.blk h.di (by simpa using h.n1),hf.blk h.dg (by simpa using h.n2),hd,h.dm.fr hf (by simpa using h.n3),by
  obtain ⟨v,hv,hr⟩:=h.buf;exact ⟨v,hf.blk hv (by simpa using fun e=>h.n7 e.symm),hr.fr hf (by simpa using h.ld)⟩,Nat.le_trans h.hB hf.size,h.ldi,h.ldg,h.ld,h.lw,h.ldb,h.ldm,h.nw,h.u8.fr hf (by simpa using h.l2d),h.l2B,h.l2d,h.l2w⟩
theorem St.wrote {w':World} (h:St X off bs w) (hf:Gr X.B [X.wb] w w') {bs':List UInt8} (hd:Buf w' X.B X.wb bs'):St X off bs' w':=
 ⟨hf.blk h.di h.ldi (by simpa using h.n4),hf.blk h.dg h.ldg (by simpa using h.n5),
  ⟨hf.blk h.dec.blk h.ld (by simpa using h.n7),hf.rd h.dec.rd h.ldb (by simpa using h.nw),h.dec.cap,h.dec.len,h.dec.ne,h.dec.le⟩,
  hf.blk h.dm h.ldm (by simpa using h.n6),hd,Nat.le_trans h.hB hf.size,h.ldi,h.ldg,h.ld,h.lw,h.ldb,h.ldm,h.nw,h.u8.gr hf h.l2B (by simpa using h.l2w),h.l2B,h.l2d,h.l2w⟩
theorem St.kept {w':World} (h:St X off bs w) (hf:Fr [] w w'):St X off bs w':=h.moved (hf.mono (by simp)) (h.dec.fr hf (by simp) (by simp))
theorem St.drewN (h:St X off bs w) (n:Nat):St X off bs (w.drewN n):=h.kept ((Fr.refl _ _).drewN n)
theorem St.grF {w':World} (h:St X off bs w) (hf:Fr [X.d] w w'):Gr X.B [X.d,X.wb] w w':=Gr.of hf h.hB (by simp)
theorem St.gr0 {w':World} (h:St X off bs w) (hf:Fr [] w w'):Gr X.B [X.d,X.wb] w w':=Gr.of hf h.hB (by simp)
theorem St.grW {w':World} (hf:Gr X.B [X.wb] w w'):Gr X.B [X.d,X.wb] w w':=hf.mono (Nat.le_refl _) (by simp)
end
def IPost (X:Cx) (off':Nat) (bs:List UInt8) (r:List UInt8×Option Nat) (w:World) (e:Ending) (w':World):Prop:=
 ∃v o2,e= .returned v∧ErrO r.2 v∧(r.2=none→o2=off')∧St X o2 (bs++r.1) w'∧Gr X.B [X.d,X.wb] w w'
def room:Nat:=140737488355328
theorem hd_byte {xs:List UInt8} {off m ai v o:Nat} (h:hd xs off= .ok (m,ai,v,o)): ∃hl:off<xs.length,xs[off].toNat/32=m∧xs[off].toNat%32=ai:=by
 unfold hd at h
 split at h
 ·cases h
 ·rename_i b e;obtain ⟨hl,rfl⟩:=getElem?_lt e;refine ⟨hl,?_⟩
  split at h
  ·cases h;exact ⟨rfl,rfl⟩
  ·split at h
   ·split at h
    ·cases h
    ·split at h
     ·cases h
     ·cases h;exact ⟨rfl,rfl⟩
   ·split at h
    ·split at h
     ·cases h
     ·cases h;exact ⟨rfl,by omega⟩
    ·cases h
abbrev R:=List UInt8×Option Nat
def txt (s:List UInt8):R:=(s,none)
def thenR (a b:R):R:=
 match a.2 with
 |none=>(a.1++b.1,b.2)
 |some k=>(a.1,some k)
def arrR (close:List UInt8):Nat→List R→R
 |_,[]=>txt close
 |i,r::l=>thenR (txt (if i=0 then [] else [44,32])) (thenR r (arrR close (i+1) l))
def mapR (close:List UInt8):Nat→List (R×R)→R
 |_,[]=>txt close
 |i,(k,v)::l=>thenR (txt (if i=0 then [] else [44,32])) (thenR k (thenR (txt [58,32]) (thenR v (mapR close (i+1) l))))
theorem thenR_txt (s:List UInt8) (b:R):thenR (txt s) b=(s++b.1,b.2):=rfl
theorem thenR_ok {a:R} (h:a.2=none) (b:R):thenR a b=(a.1++b.1,b.2):=by simp [thenR,h]
theorem thenR_err {a:R} {k:Nat} (h:a.2=some k) (b:R):thenR a b=(a.1,some k):=by simp [thenR,h]
def ItemC (X:Cx) (off off':Nat) (r:R):Prop:=
 ∀w bs,St X off bs w→bs.length+r.1.length≤room→Calls Tryz.prog 105 #[.pointer (some ⟨X.di,0,none⟩)] w (IPost X off' bs r w)
inductive Kids (X:Cx):Nat→Nat→List R→Prop
 |nil (off:Nat):Kids X off off []
 |cons {off mid off':Nat} {r:R} {l:List R}:ItemC X off mid r→Kids X mid off' l→Kids X off off' (r::l)
inductive Kids2 (X:Cx):Nat→Nat→List (R×R)→Prop
 |nil (off:Nat):Kids2 X off off []
 |cons {off m1 m2 off':Nat} {r s:R} {l:List (R×R)}:ItemC X off m1 r→ItemC X m1 m2 s→Kids2 X m2 off' l→Kids2 X off off' ((r,s)::l)
end
end Go.Proofs.YteodinhkhhaafaaGreatDoor
