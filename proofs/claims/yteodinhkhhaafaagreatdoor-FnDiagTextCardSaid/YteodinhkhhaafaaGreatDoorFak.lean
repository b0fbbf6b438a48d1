/- Walks of the program, and plain facts. -/
import Derived.Test.YteodinhkhhaafaaGreatDoorFah
set_option linter.unusedVariables false
set_option linter.unusedSimpArgs false
set_option maxRecDepth 100000
set_option maxHeartbeats 6400000
namespace Go.Proofs.YteodinhkhhaafaaGreatDoor
section
open Go.RowKit
section
variable {w:World} {d db o c dm off n el pa:Nat} {xs:List UInt8}
theorem whead_1s (h:Dec w d db o c dm xs off) (hM:DecM w dm n el pa) (hmd:dm≠d) (hl:off+1<xs.length) (hk:xs[off].toNat%32=24) (hmt:xs[off].toNat/32=7) (hv:32≤xs[off+1].toNat):
  Calls Tryz.prog 159 #[.pointer (some ⟨d,0,none⟩)] w (WHead w d db o c dm xs (.ok (7,24,xs[off+1].toNat,off+1+1))):=by
 have h0:=h.c0;have h1:=h.c1;have f1:=h.f1;have ha:=h.at_ off (by omega)
 have hm:=h.len;have hc:=h.cap;have n1: ¬db=d:=h.ne;have n2: ¬d=db:=fun e=>h.ne e.symm
 have z0:((xs.length:Int)-(off:Int)==0)=false:=by simp;omega
 have w0:IntKind.i64.wrap ((xs.length:Int)-(off:Int))=(xs.length:Int)-(off:Int):=IntWalk.i64_in _ (by omega)
 have hb:=h.at_ (off+1) (by omega)
 have l0:=u8lt (xs[off+1]'(by omega))
 have v32: ¬(xs[off+1].toNat:Int)<32:=by omega
 have K:=parseInitialByte (xs[off]'(by omega))
 rw [hk,hmt] at K;replace K:=Hz K;clear hk hmt;have g0:(off:Int)+1<(xs.length:Int):=by omega
 have g1:0≤(off:Int)+1:=by omega
 have g2:((off:Int)+1).toNat=off+1:=by omega
 go_enter Tryz.func159,Tryz.ntmps159
 go_wp2
 go_quiet (fail)
 go_wp2
 go_quiet ((go_at_call 160;exact quiet2 (quiet_same (K.out _))))
 go_wp2
 go_quiet (fail)
 go_wp2;refine bodyPost_ret (res4 rfl _ _ _) rfl ?_
 refine ⟨rfl,DecV.dec (x:=(off:Int)+1+1) ?_ _ (by omega) (by omega),?_⟩
 ·repeat (first|with_reducible apply DecV.fr0 hf1|with_reducible exact h.v|with_reducible apply DecV.set|with_reducible apply DecV.drewN|with_reducible apply DecV.alloc)
 ·repeat (first|with_reducible refine Fr.then0 ?_ hf1|with_reducible exact Fr.refl _ _|with_reducible refine Fr.setCell ?_ (by simp) _|with_reducible refine Fr.drewN ?_ _|with_reducible refine Fr.alloc ?_ _)
theorem whead_1b (h:Dec w d db o c dm xs off) (hM:DecM w dm n el pa) (hmd:dm≠d) (hl:off+1<xs.length) (hk:xs[off].toNat%32=24) (hmt:xs[off].toNat/32=7) (hv:xs[off+1].toNat<32):
  Calls Tryz.prog 159 #[.pointer (some ⟨d,0,none⟩)] w (WHead w d db o c dm xs (.error 3)):=by
 have h0:=h.c0;have h1:=h.c1;have f1:=h.f1;have ha:=h.at_ off (by omega)
 have hm:=h.len;have hc:=h.cap;have n1: ¬db=d:=h.ne;have n2: ¬d=db:=fun e=>h.ne e.symm
 have z0:((xs.length:Int)-(off:Int)==0)=false:=by simp;omega
 have w0:IntKind.i64.wrap ((xs.length:Int)-(off:Int))=(xs.length:Int)-(off:Int):=IntWalk.i64_in _ (by omega)
 have hb:=h.at_ (off+1) (by omega)
 have l0:=u8lt (xs[off+1]'(by omega))
 have v32:(xs[off+1].toNat:Int)<32:=by omega
 have K1:=Hz (itoa_any (xs[off+1].toNat:Int) (by omega) (by omega))
 have K1l:=itoa_length (xs[off+1].toNat:Int) (by omega) (by omega)
 have K2:=Hz (typeName 7 (by omega))
 have K:=parseInitialByte (xs[off]'(by omega))
 rw [hk,hmt] at K;replace K:=Hz K;clear hk hmt;have g0:(off:Int)+1<(xs.length:Int):=by omega
 have g1:0≤(off:Int)+1:=by omega
 have g2:((off:Int)+1).toNat=off+1:=by omega
 go_enter Tryz.func159,Tryz.ntmps159
 go_wp2
 go_quiet (fail)
 go_wp2
 go_quiet ((go_at_call 160;exact quiet2 (quiet_same (K.out _))))
 go_wp2
 go_quiet (fail)
 go_wp2_with fail
 refine (K1.out _).mono ?_
 rintro e w1 ⟨rfl,hf1⟩;go_wp2_with fail
 refine (K2.out _).mono ?_
 rintro e w2 ⟨s,rfl,hs,rfl⟩;go_wp2;refine bodyPost_ret (res4 rfl _ _ _) rfl ?_
 refine ⟨_,rfl,errv_ptr 3 (.inl rfl) _,?_,?_⟩
 ·apply Exists.intro
  repeat (first|with_reducible apply DecV.fr0 hf1|with_reducible exact h.v|with_reducible apply DecV.set|with_reducible apply DecV.drewN|with_reducible apply DecV.alloc)
 ·repeat (first|with_reducible refine Fr.then0 ?_ hf1|with_reducible exact Fr.refl _ _|with_reducible refine Fr.setCell ?_ (by simp) _|with_reducible refine Fr.drewN ?_ _|with_reducible refine Fr.alloc ?_ _)
theorem whead_2f (h:Dec w d db o c dm xs off) (hM:DecM w dm n el pa) (hmd:dm≠d) (hl:off+2<xs.length) (hk:xs[off].toNat%32=25) (hmt:xs[off].toNat/32=7):
  Calls Tryz.prog 159 #[.pointer (some ⟨d,0,none⟩)] w (WHead w d db o c dm xs (.ok (7,25,(two xs[off+1] xs[off+2]),off+1+2))):=by
 have h0:=h.c0;have h1:=h.c1;have f1:=h.f1;have ha:=h.at_ off (by omega)
 have hm:=h.len;have hc:=h.cap;have n1: ¬db=d:=h.ne;have n2: ¬d=db:=fun e=>h.ne e.symm
 have z0:((xs.length:Int)-(off:Int)==0)=false:=by simp;omega
 have w0:IntKind.i64.wrap ((xs.length:Int)-(off:Int))=(xs.length:Int)-(off:Int):=IntWalk.i64_in _ (by omega)
 have hx0:=fun (v:Value) (m n:Nat)=>((Fr.refl [d] (w.drewN m)).setCell (p:=⟨d,1,none⟩) (by simp) v).drewN n|>.cell (p:=⟨db,o+(off+1),none⟩) ((show w.cell? ⟨db,o+(off+1),none⟩=w.cell? ⟨db,o+(off+1),none⟩ from congrArg (fun z=>w.cell? ⟨db,z,none⟩) (by omega)).trans (h.at_ (off+1) (by omega))) (by simpa using h.ne)
 have hx1:=fun (v:Value) (m n:Nat)=>((Fr.refl [d] (w.drewN m)).setCell (p:=⟨d,1,none⟩) (by simp) v).drewN n|>.cell (p:=⟨db,o+(off+1)+1,none⟩) ((show w.cell? ⟨db,o+(off+1)+1,none⟩=w.cell? ⟨db,o+(off+2),none⟩ from congrArg (fun z=>w.cell? ⟨db,z,none⟩) (by omega)).trans (h.at_ (off+2) (by omega))) (by simpa using h.ne)
 have l0:=two_lt (xs[off+1]'(by omega)) (xs[off+2]'(by omega))
 have K:=parseInitialByte (xs[off]'(by omega))
 rw [hk,hmt] at K;replace K:=Hz K;clear hk hmt;have g0:(off:Int)+1<(xs.length:Int):=by omega
 have g1:0≤(off:Int)+1:=by omega
 have g2:((off:Int)+1).toNat=off+1:=by omega
 have g3:(off:Int)+1+2≤(c:Int):=by omega
 have g4:((off:Int)+1+2).toNat=off+1+2:=by omega
 have g5: ¬c=off+1:=by omega
 have g6:(off:Int)+1≤(off:Int)+1+2:=by omega
 have g7:0≤(off:Int)+1+2:=by omega
 have g8:IntKind.i64.wrap ((off:Int)+1+2)=(off:Int)+1+2:=IntWalk.i64_in _ (by omega)
 go_enter Tryz.func159,Tryz.ntmps159
 go_wp2
 go_quiet (fail)
 go_wp2
 go_quiet ((go_at_call 160;exact quiet2 (quiet_same (K.out _))))
 go_wp2;have K3:=Hz (float32_any (two xs[off+1] xs[off+2]) l0);generalize h2s (two xs[off+1] xs[off+2])=y at K3
 go_quiet ((go_at_call 161;exact Calls.quiet_of (beUint16 db (o+(off+1)) 2 (c-(off+1)) xs[off+1] xs[off+2] _ (by omega) (hx0 _ _ _) (hx1 _ _ _))))
 rcases convert_f32 y with ⟨fc,hcv⟩|⟨fc,hcv⟩
 all_goals
  go_wp2_with fail
  go_in
  go_wp2_with fail
  refine (K3.out _).mono ?_
  rintro e w1 ⟨rfl,rfl⟩;go_wp2_with fail
  refine (acceptableFloat (db:=db) (o:=o) (c:=c) (xs:=xs) (v:= .int .i64 ((off:Int)+1+2)) ?_ (hM.fr (S:=[d]) ?_ (by simpa using hmd)) _).mono ?_
  ·repeat (first|with_reducible apply DecV.drew|with_reducible exact h.v|with_reducible apply DecV.set|with_reducible apply DecV.drewN|with_reducible apply DecV.alloc)
  ·repeat (first|with_reducible refine Fr.drew ?_|with_reducible exact Fr.refl _ _|with_reducible refine Fr.setCell ?_ (by simp) _|with_reducible refine Fr.drewN ?_ _|with_reducible refine Fr.alloc ?_ _)
  rintro e w2 ⟨rfl,rfl⟩;go_wp2;refine bodyPost_ret (res4 rfl _ _ _) rfl ?_
  refine ⟨rfl,DecV.dec (x:=(off:Int)+1+2) ?_ _ (by omega) (by omega),?_⟩
  ·repeat (first|with_reducible apply DecV.drew|with_reducible exact h.v|with_reducible apply DecV.set|with_reducible apply DecV.drewN|with_reducible apply DecV.alloc)
  ·repeat (first|with_reducible refine Fr.drew ?_|with_reducible exact Fr.refl _ _|with_reducible refine Fr.setCell ?_ (by simp) _|with_reducible refine Fr.drewN ?_ _|with_reducible refine Fr.alloc ?_ _)
theorem whead_4f (h:Dec w d db o c dm xs off) (hM:DecM w dm n el pa) (hmd:dm≠d) (hl:off+4<xs.length) (hk:xs[off].toNat%32=26) (hmt:xs[off].toNat/32=7):
  Calls Tryz.prog 159 #[.pointer (some ⟨d,0,none⟩)] w (WHead w d db o c dm xs (.ok (7,26,(four (two xs[off+1] xs[off+2]) (two xs[off+3] xs[off+4])),off+1+4))):=by
 have h0:=h.c0;have h1:=h.c1;have f1:=h.f1;have ha:=h.at_ off (by omega)
 have hm:=h.len;have hc:=h.cap;have n1: ¬db=d:=h.ne;have n2: ¬d=db:=fun e=>h.ne e.symm
 have z0:((xs.length:Int)-(off:Int)==0)=false:=by simp;omega
 have w0:IntKind.i64.wrap ((xs.length:Int)-(off:Int))=(xs.length:Int)-(off:Int):=IntWalk.i64_in _ (by omega)
 have hx0:=fun (v:Value) (m n:Nat)=>((Fr.refl [d] (w.drewN m)).setCell (p:=⟨d,1,none⟩) (by simp) v).drewN n|>.cell (p:=⟨db,o+(off+1),none⟩) ((show w.cell? ⟨db,o+(off+1),none⟩=w.cell? ⟨db,o+(off+1),none⟩ from congrArg (fun z=>w.cell? ⟨db,z,none⟩) (by omega)).trans (h.at_ (off+1) (by omega))) (by simpa using h.ne)
 have hx1:=fun (v:Value) (m n:Nat)=>((Fr.refl [d] (w.drewN m)).setCell (p:=⟨d,1,none⟩) (by simp) v).drewN n|>.cell (p:=⟨db,o+(off+1)+1,none⟩) ((show w.cell? ⟨db,o+(off+1)+1,none⟩=w.cell? ⟨db,o+(off+2),none⟩ from congrArg (fun z=>w.cell? ⟨db,z,none⟩) (by omega)).trans (h.at_ (off+2) (by omega))) (by simpa using h.ne)
 have hx2:=fun (v:Value) (m n:Nat)=>((Fr.refl [d] (w.drewN m)).setCell (p:=⟨d,1,none⟩) (by simp) v).drewN n|>.cell (p:=⟨db,o+(off+1)+2,none⟩) ((show w.cell? ⟨db,o+(off+1)+2,none⟩=w.cell? ⟨db,o+(off+3),none⟩ from congrArg (fun z=>w.cell? ⟨db,z,none⟩) (by omega)).trans (h.at_ (off+3) (by omega))) (by simpa using h.ne)
 have hx3:=fun (v:Value) (m n:Nat)=>((Fr.refl [d] (w.drewN m)).setCell (p:=⟨d,1,none⟩) (by simp) v).drewN n|>.cell (p:=⟨db,o+(off+1)+2+1,none⟩) ((show w.cell? ⟨db,o+(off+1)+2+1,none⟩=w.cell? ⟨db,o+(off+4),none⟩ from congrArg (fun z=>w.cell? ⟨db,z,none⟩) (by omega)).trans (h.at_ (off+4) (by omega))) (by simpa using h.ne)
 have l0:=four_lt _ _ (two_lt (xs[off+1]'(by omega)) (xs[off+2]'(by omega))) (two_lt (xs[off+3]'(by omega)) (xs[off+4]'(by omega)))
 have K:=parseInitialByte (xs[off]'(by omega))
 rw [hk,hmt] at K;replace K:=Hz K;clear hk hmt;have g0:(off:Int)+1<(xs.length:Int):=by omega
 have g1:0≤(off:Int)+1:=by omega
 have g2:((off:Int)+1).toNat=off+1:=by omega
 have g3:(off:Int)+1+4≤(c:Int):=by omega
 have g4:((off:Int)+1+4).toNat=off+1+4:=by omega
 have g5: ¬c=off+1:=by omega
 have g6:(off:Int)+1≤(off:Int)+1+4:=by omega
 have g7:0≤(off:Int)+1+4:=by omega
 have g8:IntKind.i64.wrap ((off:Int)+1+4)=(off:Int)+1+4:=IntWalk.i64_in _ (by omega)
 go_enter Tryz.func159,Tryz.ntmps159
 go_wp2
 go_quiet (fail)
 go_wp2
 go_quiet ((go_at_call 160;exact quiet2 (quiet_same (K.out _))))
 go_wp2;have K3:=ext183 (four (two xs[off+1] xs[off+2]) (two xs[off+3] xs[off+4]))
 go_quiet ((go_at_call 162;exact Calls.quiet_of (beUint32 db (o+(off+1)) 4 (c-(off+1)) xs[off+1] xs[off+2] xs[off+3] xs[off+4] _ (by omega) (by omega) (hx0 _ _ _) (hx1 _ _ _) (hx2 _ _ _) (hx3 _ _ _))))
 rcases convert_f32 (four (two xs[off+1] xs[off+2]) (two xs[off+3] xs[off+4])) with ⟨fc,hcv⟩|⟨fc,hcv⟩
 all_goals
  go_wp2_with fail
  refine (acceptableFloat (db:=db) (o:=o) (c:=c) (xs:=xs) (v:= .int .i64 ((off:Int)+1+4)) ?_ (hM.fr (S:=[d]) ?_ (by simpa using hmd)) _).mono ?_
  ·repeat (first|with_reducible apply DecV.drew|with_reducible exact h.v|with_reducible apply DecV.set|with_reducible apply DecV.drewN|with_reducible apply DecV.alloc)
  ·repeat (first|with_reducible refine Fr.drew ?_|with_reducible exact Fr.refl _ _|with_reducible refine Fr.setCell ?_ (by simp) _|with_reducible refine Fr.drewN ?_ _|with_reducible refine Fr.alloc ?_ _)
  rintro e w2 ⟨rfl,rfl⟩;go_wp2;refine bodyPost_ret (res4 rfl _ _ _) rfl ?_
  refine ⟨rfl,DecV.dec (x:=(off:Int)+1+4) ?_ _ (by omega) (by omega),?_⟩
  ·repeat (first|with_reducible apply DecV.drew|with_reducible exact h.v|with_reducible apply DecV.set|with_reducible apply DecV.drewN|with_reducible apply DecV.alloc)
  ·repeat (first|with_reducible refine Fr.drew ?_|with_reducible exact Fr.refl _ _|with_reducible refine Fr.setCell ?_ (by simp) _|with_reducible refine Fr.drewN ?_ _|with_reducible refine Fr.alloc ?_ _)
theorem whead_8f (h:Dec w d db o c dm xs off) (hM:DecM w dm n el pa) (hmd:dm≠d) (hl:off+8<xs.length) (hk:xs[off].toNat%32=27) (hmt:xs[off].toNat/32=7):
  Calls Tryz.prog 159 #[.pointer (some ⟨d,0,none⟩)] w (WHead w d db o c dm xs (.ok (7,27,(eight (four (two xs[off+1] xs[off+2]) (two xs[off+3] xs[off+4])) (four (two xs[off+5] xs[off+6]) (two xs[off+7] xs[off+8]))),off+1+8))):=by
 have h0:=h.c0;have h1:=h.c1;have f1:=h.f1;have ha:=h.at_ off (by omega)
 have hm:=h.len;have hc:=h.cap;have n1: ¬db=d:=h.ne;have n2: ¬d=db:=fun e=>h.ne e.symm
 have z0:((xs.length:Int)-(off:Int)==0)=false:=by simp;omega
 have w0:IntKind.i64.wrap ((xs.length:Int)-(off:Int))=(xs.length:Int)-(off:Int):=IntWalk.i64_in _ (by omega)
 have hx0:=fun (v:Value) (m n:Nat)=>((Fr.refl [d] (w.drewN m)).setCell (p:=⟨d,1,none⟩) (by simp) v).drewN n|>.cell (p:=⟨db,o+(off+1),none⟩) ((show w.cell? ⟨db,o+(off+1),none⟩=w.cell? ⟨db,o+(off+1),none⟩ from congrArg (fun z=>w.cell? ⟨db,z,none⟩) (by omega)).trans (h.at_ (off+1) (by omega))) (by simpa using h.ne)
 have hx1:=fun (v:Value) (m n:Nat)=>((Fr.refl [d] (w.drewN m)).setCell (p:=⟨d,1,none⟩) (by simp) v).drewN n|>.cell (p:=⟨db,o+(off+1)+1,none⟩) ((show w.cell? ⟨db,o+(off+1)+1,none⟩=w.cell? ⟨db,o+(off+2),none⟩ from congrArg (fun z=>w.cell? ⟨db,z,none⟩) (by omega)).trans (h.at_ (off+2) (by omega))) (by simpa using h.ne)
 have hx2:=fun (v:Value) (m n:Nat)=>((Fr.refl [d] (w.drewN m)).setCell (p:=⟨d,1,none⟩) (by simp) v).drewN n|>.cell (p:=⟨db,o+(off+1)+2,none⟩) ((show w.cell? ⟨db,o+(off+1)+2,none⟩=w.cell? ⟨db,o+(off+3),none⟩ from congrArg (fun z=>w.cell? ⟨db,z,none⟩) (by omega)).trans (h.at_ (off+3) (by omega))) (by simpa using h.ne)
 have hx3:=fun (v:Value) (m n:Nat)=>((Fr.refl [d] (w.drewN m)).setCell (p:=⟨d,1,none⟩) (by simp) v).drewN n|>.cell (p:=⟨db,o+(off+1)+2+1,none⟩) ((show w.cell? ⟨db,o+(off+1)+2+1,none⟩=w.cell? ⟨db,o+(off+4),none⟩ from congrArg (fun z=>w.cell? ⟨db,z,none⟩) (by omega)).trans (h.at_ (off+4) (by omega))) (by simpa using h.ne)
 have hx4:=fun (v:Value) (m n:Nat)=>((Fr.refl [d] (w.drewN m)).setCell (p:=⟨d,1,none⟩) (by simp) v).drewN n|>.cell (p:=⟨db,o+(off+1)+4,none⟩) ((show w.cell? ⟨db,o+(off+1)+4,none⟩=w.cell? ⟨db,o+(off+5),none⟩ from congrArg (fun z=>w.cell? ⟨db,z,none⟩) (by omega)).trans (h.at_ (off+5) (by omega))) (by simpa using h.ne)
 have hx5:=fun (v:Value) (m n:Nat)=>((Fr.refl [d] (w.drewN m)).setCell (p:=⟨d,1,none⟩) (by simp) v).drewN n|>.cell (p:=⟨db,o+(off+1)+4+1,none⟩) ((show w.cell? ⟨db,o+(off+1)+4+1,none⟩=w.cell? ⟨db,o+(off+6),none⟩ from congrArg (fun z=>w.cell? ⟨db,z,none⟩) (by omega)).trans (h.at_ (off+6) (by omega))) (by simpa using h.ne)
 have hx6:=fun (v:Value) (m n:Nat)=>((Fr.refl [d] (w.drewN m)).setCell (p:=⟨d,1,none⟩) (by simp) v).drewN n|>.cell (p:=⟨db,o+(off+1)+4+2,none⟩) ((show w.cell? ⟨db,o+(off+1)+4+2,none⟩=w.cell? ⟨db,o+(off+7),none⟩ from congrArg (fun z=>w.cell? ⟨db,z,none⟩) (by omega)).trans (h.at_ (off+7) (by omega))) (by simpa using h.ne)
 have hx7:=fun (v:Value) (m n:Nat)=>((Fr.refl [d] (w.drewN m)).setCell (p:=⟨d,1,none⟩) (by simp) v).drewN n|>.cell (p:=⟨db,o+(off+1)+4+2+1,none⟩) ((show w.cell? ⟨db,o+(off+1)+4+2+1,none⟩=w.cell? ⟨db,o+(off+8),none⟩ from congrArg (fun z=>w.cell? ⟨db,z,none⟩) (by omega)).trans (h.at_ (off+8) (by omega))) (by simpa using h.ne)
 have K:=parseInitialByte (xs[off]'(by omega))
 rw [hk,hmt] at K;replace K:=Hz K;clear hk hmt;have g0:(off:Int)+1<(xs.length:Int):=by omega
 have g1:0≤(off:Int)+1:=by omega
 have g2:((off:Int)+1).toNat=off+1:=by omega
 have g3:(off:Int)+1+8≤(c:Int):=by omega
 have g4:((off:Int)+1+8).toNat=off+1+8:=by omega
 have g5: ¬c=off+1:=by omega
 have g6:(off:Int)+1≤(off:Int)+1+8:=by omega
 have g7:0≤(off:Int)+1+8:=by omega
 have g8:IntKind.i64.wrap ((off:Int)+1+8)=(off:Int)+1+8:=IntWalk.i64_in _ (by omega)
 go_enter Tryz.func159,Tryz.ntmps159
 go_wp2
 go_quiet (fail)
 go_wp2
 go_quiet ((go_at_call 160;exact quiet2 (quiet_same (K.out _))))
 go_wp2;have K3:=ext184 (eight (four (two xs[off+1] xs[off+2]) (two xs[off+3] xs[off+4])) (four (two xs[off+5] xs[off+6]) (two xs[off+7] xs[off+8])))
 go_quiet ((go_at_call 163;exact Calls.quiet_of (beUint64 db (o+(off+1)) 8 (c-(off+1)) xs[off+1] xs[off+2] xs[off+3] xs[off+4] xs[off+5] xs[off+6] xs[off+7] xs[off+8] _ (by omega) (by omega) (hx0 _ _ _) (hx1 _ _ _) (hx2 _ _ _) (hx3 _ _ _) (hx4 _ _ _) (hx5 _ _ _) (hx6 _ _ _) (hx7 _ _ _))))
 go_wp2_with fail
 refine (acceptableFloat (db:=db) (o:=o) (c:=c) (xs:=xs) (v:= .int .i64 ((off:Int)+1+8)) ?_ (hM.fr (S:=[d]) ?_ (by simpa using hmd)) _).mono ?_
 ·repeat (first|with_reducible apply DecV.drew|with_reducible exact h.v|with_reducible apply DecV.set|with_reducible apply DecV.drewN|with_reducible apply DecV.alloc)
 ·repeat (first|with_reducible refine Fr.drew ?_|with_reducible exact Fr.refl _ _|with_reducible refine Fr.setCell ?_ (by simp) _|with_reducible refine Fr.drewN ?_ _|with_reducible refine Fr.alloc ?_ _)
 rintro e w2 ⟨rfl,rfl⟩;go_wp2;refine bodyPost_ret (res4 rfl _ _ _) rfl ?_
 refine ⟨rfl,DecV.dec (x:=(off:Int)+1+8) ?_ _ (by omega) (by omega),?_⟩
 ·repeat (first|with_reducible apply DecV.drew|with_reducible exact h.v|with_reducible apply DecV.set|with_reducible apply DecV.drewN|with_reducible apply DecV.alloc)
 ·repeat (first|with_reducible refine Fr.drew ?_|with_reducible exact Fr.refl _ _|with_reducible refine Fr.setCell ?_ (by simp) _|with_reducible refine Fr.drewN ?_ _|with_reducible refine Fr.alloc ?_ _)
end
end
end Go.Proofs.YteodinhkhhaafaaGreatDoor
