/- Walks of the program, and plain facts. -/
import Derived.Test.YteodinhkhhaafaaGreatDoorFae
set_option linter.unusedVariables false
set_option linter.unusedSimpArgs false
set_option maxRecDepth 100000
set_option maxHeartbeats 6400000
namespace Go.Proofs.YteodinhkhhaafaaGreatDoor
section
open Go.RowKit
def eofS:ByteArray:=⟨#[69,79,70]⟩
def ueofS:ByteArray:=⟨#[117,110,101,120,112,101,99,116,101,100,32,69,79,70]⟩
def errTy:Nat→TypeId
 |3=>142|4=>143|5=>144|6=>145|7=>146|10=>149|17=>156|_=>141
def ErrV (k:Nat) (v:Value):Prop:=
 if k=1 then v= .iface 141 (.string eofS) else if k=2 then v= .iface 141 (.string ueofS)
 else if k=16 then ∃s,v= .iface 141 (.string s)∧s≠eofS∧s≠ueofS
 else (k=3∨k=4∨k=5∨k=6∨k=7∨k=10∨k=17)∧ ∃a,v= .iface (errTy k) (.pointer (some a))
def WHead (w:World) (d db o c dm:Nat) (xs:List UInt8) (r:Except Nat (Nat×Nat×Nat×Nat)) (e:Ending) (w':World):Prop:=
 match r with
 | .ok (m,ai,v,off')=>e= .returned (.tuple #[.int .u8 ((m*32:Nat):Int),.int .u8 (ai:Int),.int .u64 (v:Int),.nilIface])∧Dec w' d db o c dm xs off'∧Fr [d] w w'
 | .error k=> ∃v,e= .returned (.tuple #[.int .u8 0,.int .u8 0,.int .u64 0,v])∧ErrV k v∧(∃u,DecV w' d db o c dm xs u)∧Fr [d] w w'
theorem res4 {fn:Func} {t u v x:Tmp} (h:fn.results= #[.tmp t,.tmp u,.tmp v,.tmp x]) (tmps:Array Value) (P:Program) (w:World):
  (results fn tmps).run P w= .ok (.tuple #[tmps.getD t undef,tmps.getD u undef,tmps.getD v undef,tmps.getD x undef]) w:=by simp [results,h]
theorem errv_ptr (k:Nat) (h:k=3∨k=4∨k=5∨k=6∨k=7∨k=10∨k=17) (a:Addr):ErrV k (.iface (errTy k) (.pointer (some a))):=by
 unfold ErrV;rw [if_neg (by omega),if_neg (by omega),if_neg (by omega)]
 exact ⟨h,a,rfl⟩
section
variable {w:World} {d db o c dm off n el pa:Nat} {xs:List UInt8}
theorem whead_end (h:Dec w d db o c dm xs off) (hl:off=xs.length):
  Calls Tryz.prog 159 #[.pointer (some ⟨d,0,none⟩)] w (WHead w d db o c dm xs (.error 2)):=by
 have h0:=h.c0;have h1:=h.c1;have hm:=h.len;have g0:((xs.length:Int)-(off:Int)==0)=true:=by simp;omega
 have w0:IntKind.i64.wrap ((xs.length:Int)-(off:Int))=(xs.length:Int)-(off:Int):=IntWalk.i64_in _ (by omega)
 replace hl:=Hz hl;go_enter Tryz.func159,Tryz.ntmps159
 go_wp2
 go_quiet (fail)
 go_wp2;refine bodyPost_ret (res4 rfl _ _ _) rfl ?_
 exact ⟨_,rfl,rfl,⟨_,h.v.drewN _⟩,(Fr.refl _ _).drewN _⟩
theorem whead_0 (h:Dec w d db o c dm xs off) (hM:DecM w dm n el pa) (hmd:dm≠d) (hl:off<xs.length) (k:Nat) (hk:xs[off].toNat%32=k) (h23:k≤23):
  Calls Tryz.prog 159 #[.pointer (some ⟨d,0,none⟩)] w (WHead w d db o c dm xs (.ok (xs[off].toNat/32,k,k,off+1))):=by
 have h0:=h.c0;have h1:=h.c1;have f1:=h.f1;have ha:=h.at_ off (by omega)
 have hm:=h.len;have hc:=h.cap;have n1: ¬db=d:=h.ne;have n2: ¬d=db:=fun e=>h.ne e.symm
 have z0:((xs.length:Int)-(off:Int)==0)=false:=by simp;omega
 have w0:IntKind.i64.wrap ((xs.length:Int)-(off:Int))=(xs.length:Int)-(off:Int):=IntWalk.i64_in _ (by omega)
 have K:=parseInitialByte (xs[off]'(by omega))
 rw [hk] at K;replace K:=Hz K;clear hk;go_enter Tryz.func159,Tryz.ntmps159
 go_wp2
 go_quiet (fail)
 go_wp2
 go_quiet ((go_at_call 160;exact quiet2 (quiet_same (K.out _))))
 go_wp2;refine bodyPost_ret (res4 rfl _ _ _) rfl ?_
 refine ⟨rfl,DecV.dec (x:=(off:Int)+1) ?_ _ (by omega) (by omega),?_⟩
 ·repeat (first|with_reducible exact h.v|with_reducible apply DecV.set|with_reducible apply DecV.drewN|with_reducible apply DecV.alloc)
 ·repeat (first|with_reducible exact Fr.refl _ _|with_reducible refine Fr.setCell ?_ (by simp) _|with_reducible refine Fr.drewN ?_ _|with_reducible refine Fr.alloc ?_ _)
theorem whead_short1 (h:Dec w d db o c dm xs off) (hM:DecM w dm n el pa) (hmd:dm≠d) (hl:off<xs.length) (hk:xs[off].toNat%32=24) (hs:xs.length<off+1+1):
  Calls Tryz.prog 159 #[.pointer (some ⟨d,0,none⟩)] w (WHead w d db o c dm xs (.error 2)):=by
 have h0:=h.c0;have h1:=h.c1;have f1:=h.f1;have ha:=h.at_ off (by omega)
 have hm:=h.len;have hc:=h.cap;have n1: ¬db=d:=h.ne;have n2: ¬d=db:=fun e=>h.ne e.symm
 have z0:((xs.length:Int)-(off:Int)==0)=false:=by simp;omega
 have w0:IntKind.i64.wrap ((xs.length:Int)-(off:Int))=(xs.length:Int)-(off:Int):=IntWalk.i64_in _ (by omega)
 have K:=parseInitialByte (xs[off]'(by omega))
 rw [hk] at K;replace K:=Hz K;clear hk;go_enter Tryz.func159,Tryz.ntmps159
 go_wp2
 go_quiet (fail)
 go_wp2
 go_quiet ((go_at_call 160;exact quiet2 (quiet_same (K.out _))))
 go_wp2;refine bodyPost_ret (res4 rfl _ _ _) rfl ?_
 refine ⟨_,rfl,rfl,?_,?_⟩
 ·apply Exists.intro
  repeat (first|with_reducible exact h.v|with_reducible apply DecV.set|with_reducible apply DecV.drewN|with_reducible apply DecV.alloc)
 ·repeat (first|with_reducible exact Fr.refl _ _|with_reducible refine Fr.setCell ?_ (by simp) _|with_reducible refine Fr.drewN ?_ _|with_reducible refine Fr.alloc ?_ _)
theorem whead_1 (h:Dec w d db o c dm xs off) (hM:DecM w dm n el pa) (hmd:dm≠d) (hl:off+1<xs.length) (hk:xs[off].toNat%32=24) (m:Nat) (hmt:xs[off].toNat/32=m) (hm7:m≠7):
  Calls Tryz.prog 159 #[.pointer (some ⟨d,0,none⟩)] w (WHead w d db o c dm xs (.ok (m,24,xs[off+1].toNat,off+1+1))):=by
 have h0:=h.c0;have h1:=h.c1;have f1:=h.f1;have ha:=h.at_ off (by omega)
 have hm:=h.len;have hc:=h.cap;have n1: ¬db=d:=h.ne;have n2: ¬d=db:=fun e=>h.ne e.symm
 have z0:((xs.length:Int)-(off:Int)==0)=false:=by simp;omega
 have w0:IntKind.i64.wrap ((xs.length:Int)-(off:Int))=(xs.length:Int)-(off:Int):=IntWalk.i64_in _ (by omega)
 have hb:=h.at_ (off+1) (by omega)
 have l0:=u8lt (xs[off+1]'(by omega))
 have mt:((m:Int)*32==224)=false:=by simp;omega
 have hm8:m<8:=by have:=u8lt (xs[off]'(by omega));omega
 have K:=parseInitialByte (xs[off]'(by omega))
 rw [hk,hmt] at K;replace K:=Hz K;clear hk hmt hm7;have g0:(off:Int)+1<(xs.length:Int):=by omega
 have g1:0≤(off:Int)+1:=by omega
 have g2:((off:Int)+1).toNat=off+1:=by omega
 go_enter Tryz.func159,Tryz.ntmps159
 go_wp2
 go_quiet (fail)
 go_wp2
 go_quiet ((go_at_call 160;exact quiet2 (quiet_same (K.out _))))
 go_wp2
 go_quiet (fail)
 go_wp2;refine bodyPost_ret (res4 rfl _ _ _) rfl ?_
 refine ⟨rfl,DecV.dec (x:=(off:Int)+1+1) ?_ _ (by omega) (by omega),?_⟩
 ·repeat (first|with_reducible exact h.v|with_reducible apply DecV.set|with_reducible apply DecV.drewN|with_reducible apply DecV.alloc)
 ·repeat (first|with_reducible exact Fr.refl _ _|with_reducible refine Fr.setCell ?_ (by simp) _|with_reducible refine Fr.drewN ?_ _|with_reducible refine Fr.alloc ?_ _)
theorem whead_short2 (h:Dec w d db o c dm xs off) (hM:DecM w dm n el pa) (hmd:dm≠d) (hl:off<xs.length) (hk:xs[off].toNat%32=25) (hs:xs.length<off+1+2):
  Calls Tryz.prog 159 #[.pointer (some ⟨d,0,none⟩)] w (WHead w d db o c dm xs (.error 2)):=by
 have h0:=h.c0;have h1:=h.c1;have f1:=h.f1;have ha:=h.at_ off (by omega)
 have hm:=h.len;have hc:=h.cap;have n1: ¬db=d:=h.ne;have n2: ¬d=db:=fun e=>h.ne e.symm
 have z0:((xs.length:Int)-(off:Int)==0)=false:=by simp;omega
 have w0:IntKind.i64.wrap ((xs.length:Int)-(off:Int))=(xs.length:Int)-(off:Int):=IntWalk.i64_in _ (by omega)
 have K:=parseInitialByte (xs[off]'(by omega))
 rw [hk] at K;replace K:=Hz K;clear hk;go_enter Tryz.func159,Tryz.ntmps159
 go_wp2
 go_quiet (fail)
 go_wp2
 go_quiet ((go_at_call 160;exact quiet2 (quiet_same (K.out _))))
 go_wp2;refine bodyPost_ret (res4 rfl _ _ _) rfl ?_
 refine ⟨_,rfl,rfl,?_,?_⟩
 ·apply Exists.intro
  repeat (first|with_reducible exact h.v|with_reducible apply DecV.set|with_reducible apply DecV.drewN|with_reducible apply DecV.alloc)
 ·repeat (first|with_reducible exact Fr.refl _ _|with_reducible refine Fr.setCell ?_ (by simp) _|with_reducible refine Fr.drewN ?_ _|with_reducible refine Fr.alloc ?_ _)
theorem whead_2 (h:Dec w d db o c dm xs off) (hM:DecM w dm n el pa) (hmd:dm≠d) (hl:off+2<xs.length) (hk:xs[off].toNat%32=25) (m:Nat) (hmt:xs[off].toNat/32=m) (hm7:m≠7):
  Calls Tryz.prog 159 #[.pointer (some ⟨d,0,none⟩)] w (WHead w d db o c dm xs (.ok (m,25,(two xs[off+1] xs[off+2]),off+1+2))):=by
 have h0:=h.c0;have h1:=h.c1;have f1:=h.f1;have ha:=h.at_ off (by omega)
 have hm:=h.len;have hc:=h.cap;have n1: ¬db=d:=h.ne;have n2: ¬d=db:=fun e=>h.ne e.symm
 have z0:((xs.length:Int)-(off:Int)==0)=false:=by simp;omega
 have w0:IntKind.i64.wrap ((xs.length:Int)-(off:Int))=(xs.length:Int)-(off:Int):=IntWalk.i64_in _ (by omega)
 have hx0:=fun (v:Value) (m n:Nat)=>((Fr.refl [d] (w.drewN m)).setCell (p:=⟨d,1,none⟩) (by simp) v).drewN n|>.cell (p:=⟨db,o+(off+1),none⟩) ((show w.cell? ⟨db,o+(off+1),none⟩=w.cell? ⟨db,o+(off+1),none⟩ from congrArg (fun z=>w.cell? ⟨db,z,none⟩) (by omega)).trans (h.at_ (off+1) (by omega))) (by simpa using h.ne)
 have hx1:=fun (v:Value) (m n:Nat)=>((Fr.refl [d] (w.drewN m)).setCell (p:=⟨d,1,none⟩) (by simp) v).drewN n|>.cell (p:=⟨db,o+(off+1)+1,none⟩) ((show w.cell? ⟨db,o+(off+1)+1,none⟩=w.cell? ⟨db,o+(off+2),none⟩ from congrArg (fun z=>w.cell? ⟨db,z,none⟩) (by omega)).trans (h.at_ (off+2) (by omega))) (by simpa using h.ne)
 have l0:=two_lt (xs[off+1]'(by omega)) (xs[off+2]'(by omega))
 have mt:((m:Int)*32==224)=false:=by simp;omega
 have hm8:m<8:=by have:=u8lt (xs[off]'(by omega));omega
 have K:=parseInitialByte (xs[off]'(by omega))
 rw [hk,hmt] at K;replace K:=Hz K;clear hk hmt hm7;have g0:(off:Int)+1<(xs.length:Int):=by omega
 have g1:0≤(off:Int)+1:=by omega
 have g2:((off:Int)+1).toNat=off+1:=by omega
 have g3:(off:Int)+1+2≤(c:Int):=by omega
 have g4:((off:Int)+1+2).toNat=off+1+2:=by omega
 have g5: ¬c=off+1:=by omega
 have g6:(off:Int)+1≤(off:Int)+1+2:=by omega
 have g7:0≤(off:Int)+1+2:=by omega
 have g8:IntKind.i64.wrap ((off:Int)+1+2)=(off:Int)+1+2:=IntWalk.i64_in _ (by omega)
 go_enter Tryz.func159,Tryz.ntmps159
 go_wp2
 go_quiet (fail)
 go_wp2
 go_quiet ((go_at_call 160;exact quiet2 (quiet_same (K.out _))))
 go_wp2
 go_quiet ((go_at_call 161;exact Calls.quiet_of (beUint16 db (o+(off+1)) 2 (c-(off+1)) xs[off+1] xs[off+2] _ (by omega) (hx0 _ _ _) (hx1 _ _ _))))
 go_wp2;refine bodyPost_ret (res4 rfl _ _ _) rfl ?_
 refine ⟨rfl,DecV.dec (x:=(off:Int)+1+2) ?_ _ (by omega) (by omega),?_⟩
 ·repeat (first|with_reducible exact h.v|with_reducible apply DecV.set|with_reducible apply DecV.drewN|with_reducible apply DecV.alloc)
 ·repeat (first|with_reducible exact Fr.refl _ _|with_reducible refine Fr.setCell ?_ (by simp) _|with_reducible refine Fr.drewN ?_ _|with_reducible refine Fr.alloc ?_ _)
theorem whead_short4 (h:Dec w d db o c dm xs off) (hM:DecM w dm n el pa) (hmd:dm≠d) (hl:off<xs.length) (hk:xs[off].toNat%32=26) (hs:xs.length<off+1+4):
  Calls Tryz.prog 159 #[.pointer (some ⟨d,0,none⟩)] w (WHead w d db o c dm xs (.error 2)):=by
 have h0:=h.c0;have h1:=h.c1;have f1:=h.f1;have ha:=h.at_ off (by omega)
 have hm:=h.len;have hc:=h.cap;have n1: ¬db=d:=h.ne;have n2: ¬d=db:=fun e=>h.ne e.symm
 have z0:((xs.length:Int)-(off:Int)==0)=false:=by simp;omega
 have w0:IntKind.i64.wrap ((xs.length:Int)-(off:Int))=(xs.length:Int)-(off:Int):=IntWalk.i64_in _ (by omega)
 have K:=parseInitialByte (xs[off]'(by omega))
 rw [hk] at K;replace K:=Hz K;clear hk;go_enter Tryz.func159,Tryz.ntmps159
 go_wp2
 go_quiet (fail)
 go_wp2
 go_quiet ((go_at_call 160;exact quiet2 (quiet_same (K.out _))))
 go_wp2;refine bodyPost_ret (res4 rfl _ _ _) rfl ?_
 refine ⟨_,rfl,rfl,?_,?_⟩
 ·apply Exists.intro
  repeat (first|with_reducible exact h.v|with_reducible apply DecV.set|with_reducible apply DecV.drewN|with_reducible apply DecV.alloc)
 ·repeat (first|with_reducible exact Fr.refl _ _|with_reducible refine Fr.setCell ?_ (by simp) _|with_reducible refine Fr.drewN ?_ _|with_reducible refine Fr.alloc ?_ _)
theorem whead_4 (h:Dec w d db o c dm xs off) (hM:DecM w dm n el pa) (hmd:dm≠d) (hl:off+4<xs.length) (hk:xs[off].toNat%32=26) (m:Nat) (hmt:xs[off].toNat/32=m) (hm7:m≠7):
  Calls Tryz.prog 159 #[.pointer (some ⟨d,0,none⟩)] w (WHead w d db o c dm xs (.ok (m,26,(four (two xs[off+1] xs[off+2]) (two xs[off+3] xs[off+4])),off+1+4))):=by
 have h0:=h.c0;have h1:=h.c1;have f1:=h.f1;have ha:=h.at_ off (by omega)
 have hm:=h.len;have hc:=h.cap;have n1: ¬db=d:=h.ne;have n2: ¬d=db:=fun e=>h.ne e.symm
 have z0:((xs.length:Int)-(off:Int)==0)=false:=by simp;omega
 have w0:IntKind.i64.wrap ((xs.length:Int)-(off:Int))=(xs.length:Int)-(off:Int):=IntWalk.i64_in _ (by omega)
 have hx0:=fun (v:Value) (m n:Nat)=>((Fr.refl [d] (w.drewN m)).setCell (p:=⟨d,1,none⟩) (by simp) v).drewN n|>.cell (p:=⟨db,o+(off+1),none⟩) ((show w.cell? ⟨db,o+(off+1),none⟩=w.cell? ⟨db,o+(off+1),none⟩ from congrArg (fun z=>w.cell? ⟨db,z,none⟩) (by omega)).trans (h.at_ (off+1) (by omega))) (by simpa using h.ne)
 have hx1:=fun (v:Value) (m n:Nat)=>((Fr.refl [d] (w.drewN m)).setCell (p:=⟨d,1,none⟩) (by simp) v).drewN n|>.cell (p:=⟨db,o+(off+1)+1,none⟩) ((show w.cell? ⟨db,o+(off+1)+1,none⟩=w.cell? ⟨db,o+(off+2),none⟩ from congrArg (fun z=>w.cell? ⟨db,z,none⟩) (by omega)).trans (h.at_ (off+2) (by omega))) (by simpa using h.ne)
 have hx2:=fun (v:Value) (m n:Nat)=>((Fr.refl [d] (w.drewN m)).setCell (p:=⟨d,1,none⟩) (by simp) v).drewN n|>.cell (p:=⟨db,o+(off+1)+2,none⟩) ((show w.cell? ⟨db,o+(off+1)+2,none⟩=w.cell? ⟨db,o+(off+3),none⟩ from congrArg (fun z=>w.cell? ⟨db,z,none⟩) (by omega)).trans (h.at_ (off+3) (by omega))) (by simpa using h.ne)
 have hx3:=fun (v:Value) (m n:Nat)=>((Fr.refl [d] (w.drewN m)).setCell (p:=⟨d,1,none⟩) (by simp) v).drewN n|>.cell (p:=⟨db,o+(off+1)+2+1,none⟩) ((show w.cell? ⟨db,o+(off+1)+2+1,none⟩=w.cell? ⟨db,o+(off+4),none⟩ from congrArg (fun z=>w.cell? ⟨db,z,none⟩) (by omega)).trans (h.at_ (off+4) (by omega))) (by simpa using h.ne)
 have l0:=four_lt _ _ (two_lt (xs[off+1]'(by omega)) (xs[off+2]'(by omega))) (two_lt (xs[off+3]'(by omega)) (xs[off+4]'(by omega)))
 have mt:((m:Int)*32==224)=false:=by simp;omega
 have hm8:m<8:=by have:=u8lt (xs[off]'(by omega));omega
 have K:=parseInitialByte (xs[off]'(by omega))
 rw [hk,hmt] at K;replace K:=Hz K;clear hk hmt hm7;have g0:(off:Int)+1<(xs.length:Int):=by omega
 have g1:0≤(off:Int)+1:=by omega
 have g2:((off:Int)+1).toNat=off+1:=by omega
 have g3:(off:Int)+1+4≤(c:Int):=by omega
 have g4:((off:Int)+1+4).toNat=off+1+4:=by omega
 have g5: ¬c=off+1:=by omega
 have g6:(off:Int)+1≤(off:Int)+1+4:=by omega
 have g7:0≤(off:Int)+1+4:=by omega
 have g8:IntKind.i64.wrap ((off:Int)+1+4)=(off:Int)+1+4:=IntWalk.i64_in _ (by omega)
 go_enter Tryz.func159,Tryz.ntmps159
 go_wp2
 go_quiet (fail)
 go_wp2
 go_quiet ((go_at_call 160;exact quiet2 (quiet_same (K.out _))))
 go_wp2
 go_quiet ((go_at_call 162;exact Calls.quiet_of (beUint32 db (o+(off+1)) 4 (c-(off+1)) xs[off+1] xs[off+2] xs[off+3] xs[off+4] _ (by omega) (by omega) (hx0 _ _ _) (hx1 _ _ _) (hx2 _ _ _) (hx3 _ _ _))))
 go_wp2;refine bodyPost_ret (res4 rfl _ _ _) rfl ?_
 refine ⟨rfl,DecV.dec (x:=(off:Int)+1+4) ?_ _ (by omega) (by omega),?_⟩
 ·repeat (first|with_reducible exact h.v|with_reducible apply DecV.set|with_reducible apply DecV.drewN|with_reducible apply DecV.alloc)
 ·repeat (first|with_reducible exact Fr.refl _ _|with_reducible refine Fr.setCell ?_ (by simp) _|with_reducible refine Fr.drewN ?_ _|with_reducible refine Fr.alloc ?_ _)
theorem whead_short8 (h:Dec w d db o c dm xs off) (hM:DecM w dm n el pa) (hmd:dm≠d) (hl:off<xs.length) (hk:xs[off].toNat%32=27) (hs:xs.length<off+1+8):
  Calls Tryz.prog 159 #[.pointer (some ⟨d,0,none⟩)] w (WHead w d db o c dm xs (.error 2)):=by
 have h0:=h.c0;have h1:=h.c1;have f1:=h.f1;have ha:=h.at_ off (by omega)
 have hm:=h.len;have hc:=h.cap;have n1: ¬db=d:=h.ne;have n2: ¬d=db:=fun e=>h.ne e.symm
 have z0:((xs.length:Int)-(off:Int)==0)=false:=by simp;omega
 have w0:IntKind.i64.wrap ((xs.length:Int)-(off:Int))=(xs.length:Int)-(off:Int):=IntWalk.i64_in _ (by omega)
 have K:=parseInitialByte (xs[off]'(by omega))
 rw [hk] at K;replace K:=Hz K;clear hk;go_enter Tryz.func159,Tryz.ntmps159
 go_wp2
 go_quiet (fail)
 go_wp2
 go_quiet ((go_at_call 160;exact quiet2 (quiet_same (K.out _))))
 go_wp2;refine bodyPost_ret (res4 rfl _ _ _) rfl ?_
 refine ⟨_,rfl,rfl,?_,?_⟩
 ·apply Exists.intro
  repeat (first|with_reducible exact h.v|with_reducible apply DecV.set|with_reducible apply DecV.drewN|with_reducible apply DecV.alloc)
 ·repeat (first|with_reducible exact Fr.refl _ _|with_reducible refine Fr.setCell ?_ (by simp) _|with_reducible refine Fr.drewN ?_ _|with_reducible refine Fr.alloc ?_ _)
theorem whead_8 (h:Dec w d db o c dm xs off) (hM:DecM w dm n el pa) (hmd:dm≠d) (hl:off+8<xs.length) (hk:xs[off].toNat%32=27) (m:Nat) (hmt:xs[off].toNat/32=m) (hm7:m≠7):
  Calls Tryz.prog 159 #[.pointer (some ⟨d,0,none⟩)] w (WHead w d db o c dm xs (.ok (m,27,(eight (four (two xs[off+1] xs[off+2]) (two xs[off+3] xs[off+4])) (four (two xs[off+5] xs[off+6]) (two xs[off+7] xs[off+8]))),off+1+8))):=by
 have h0:=h.c0;have h1:=h.c1;have f1:=h.f1;have ha:=h.at_ off (by omega)
 have hm:=h.len;have hc:=h.cap;have n1: ¬db=d:=h.ne;have n2: ¬d=db:=fun e=>h.ne e.symm
 have z0:((xs.length:Int)-(off:Int)==0)=false:=by simp;omega
 have w0:IntKind.i64.wrap ((xs.length:Int)-(off:Int))=(xs.length:Int)-(off:Int):=IntWalk.i64_in _ (by omega)
 have hx0:=fun (v:Value) (m n:Nat)=>((Fr.refl [d] (w.drewN m)).setCell (p:=⟨d,1,none⟩) (by simp) v).drewN n|>.cell (p:=⟨db,o+(off+1),none⟩) ((show w.cell? ⟨db,o+(off+1),none⟩=w.cell? ⟨db,o+(off+1),none⟩ from congrArg (fun z=>w.cell? ⟨db,z,none⟩) (by omega)).trans (h.at_ (off+1) (by omega))) (by simpa using h.ne)
 have hx1:=fun (v:Value) (m n:Nat)=>((Fr.refl [d] (w.drewN m)).setCell (p:=⟨d,1,none⟩) (by simp) v).drewN n|>.cell (p:=⟨db,o+(off+1)+1,none⟩) ((show w.cell? ⟨db,o+(off+1)+1,none⟩=w.cell? ⟨db,o+(off+2),none⟩ from congrArg (fun z=>w.cell? ⟨db,z,none⟩) (by omega)).trans (h.at_ (off+2) (by omega))) (by simpa using h.ne)
 have hx2:=fun (v:Value) (m n:Nat)=>((Fr.refl [d] (w.drewN m)).setCell (p:=⟨d,1,none⟩) (by simp) v).drewN n|>.cell (p:=⟨db,o+(off+1)+2,none⟩) ((show w.cell? ⟨db,o+(off+1)+2,none⟩=w.cell? ⟨db,o+(off+3),none⟩ from congrArg (fun z=>w.cell? ⟨db,z,none⟩) (by omega)).trans (h.at_ (off+3) (by omega))) (by simpa using h.ne)
 have hx3:=fun (v:Value) (m n:Nat)=>((Fr.refl [d] (w.drewN m)).setCell (p:=⟨d,1,none⟩) (by simp) v).drewN n|>.cell (p:=⟨db,o+(off+1)+2+1,none⟩) ((show w.cell? ⟨db,o+(off+1)+2+1,none⟩=w.cell? ⟨db,o+(off+4),none⟩ from congrArg (fun z=>w.cell? ⟨db,z,none⟩) (by omega)).trans (h.at_ (off+4) (by omega))) (by simpa using h.ne)
 have hx4:=fun (v:Value) (m n:Nat)=>((Fr.refl [d] (w.drewN m)).setCell (p:=⟨d,1,none⟩) (by simp) v).drewN n|>.cell (p:=⟨db,o+(off+1)+4,none⟩) ((show w.cell? ⟨db,o+(off+1)+4,none⟩=w.cell? ⟨db,o+(off+5),none⟩ from congrArg (fun z=>w.cell? ⟨db,z,none⟩) (by omega)).trans (h.at_ (off+5) (by omega))) (by simpa using h.ne)
 have hx5:=fun (v:Value) (m n:Nat)=>((Fr.refl [d] (w.drewN m)).setCell (p:=⟨d,1,none⟩) (by simp) v).drewN n|>.cell (p:=⟨db,o+(off+1)+4+1,none⟩) ((show w.cell? ⟨db,o+(off+1)+4+1,none⟩=w.cell? ⟨db,o+(off+6),none⟩ from congrArg (fun z=>w.cell? ⟨db,z,none⟩) (by omega)).trans (h.at_ (off+6) (by omega))) (by simpa using h.ne)
 have hx6:=fun (v:Value) (m n:Nat)=>((Fr.refl [d] (w.drewN m)).setCell (p:=⟨d,1,none⟩) (by simp) v).drewN n|>.cell (p:=⟨db,o+(off+1)+4+2,none⟩) ((show w.cell? ⟨db,o+(off+1)+4+2,none⟩=w.cell? ⟨db,o+(off+7),none⟩ from congrArg (fun z=>w.cell? ⟨db,z,none⟩) (by omega)).trans (h.at_ (off+7) (by omega))) (by simpa using h.ne)
 have hx7:=fun (v:Value) (m n:Nat)=>((Fr.refl [d] (w.drewN m)).setCell (p:=⟨d,1,none⟩) (by simp) v).drewN n|>.cell (p:=⟨db,o+(off+1)+4+2+1,none⟩) ((show w.cell? ⟨db,o+(off+1)+4+2+1,none⟩=w.cell? ⟨db,o+(off+8),none⟩ from congrArg (fun z=>w.cell? ⟨db,z,none⟩) (by omega)).trans (h.at_ (off+8) (by omega))) (by simpa using h.ne)
 have mt:((m:Int)*32==224)=false:=by simp;omega
 have hm8:m<8:=by have:=u8lt (xs[off]'(by omega));omega
 have K:=parseInitialByte (xs[off]'(by omega))
 rw [hk,hmt] at K;replace K:=Hz K;clear hk hmt hm7;have g0:(off:Int)+1<(xs.length:Int):=by omega
 have g1:0≤(off:Int)+1:=by omega
 have g2:((off:Int)+1).toNat=off+1:=by omega
 have g3:(off:Int)+1+8≤(c:Int):=by omega
 have g4:((off:Int)+1+8).toNat=off+1+8:=by omega
 have g5: ¬c=off+1:=by omega
 have g6:(off:Int)+1≤(off:Int)+1+8:=by omega
 have g7:0≤(off:Int)+1+8:=by omega
 have g8:IntKind.i64.wrap ((off:Int)+1+8)=(off:Int)+1+8:=IntWalk.i64_in _ (by omega)
 go_enter Tryz.func159,Tryz.ntmps159
 go_wp2
 go_quiet (fail)
 go_wp2
 go_quiet ((go_at_call 160;exact quiet2 (quiet_same (K.out _))))
 go_wp2
 go_quiet ((go_at_call 163;exact Calls.quiet_of (beUint64 db (o+(off+1)) 8 (c-(off+1)) xs[off+1] xs[off+2] xs[off+3] xs[off+4] xs[off+5] xs[off+6] xs[off+7] xs[off+8] _ (by omega) (by omega) (hx0 _ _ _) (hx1 _ _ _) (hx2 _ _ _) (hx3 _ _ _) (hx4 _ _ _) (hx5 _ _ _) (hx6 _ _ _) (hx7 _ _ _))))
 go_wp2;refine bodyPost_ret (res4 rfl _ _ _) rfl ?_
 refine ⟨rfl,DecV.dec (x:=(off:Int)+1+8) ?_ _ (by omega) (by omega),?_⟩
 ·repeat (first|with_reducible exact h.v|with_reducible apply DecV.set|with_reducible apply DecV.drewN|with_reducible apply DecV.alloc)
 ·repeat (first|with_reducible exact Fr.refl _ _|with_reducible refine Fr.setCell ?_ (by simp) _|with_reducible refine Fr.drewN ?_ _|with_reducible refine Fr.alloc ?_ _)
end
end
end Go.Proofs.YteodinhkhhaafaaGreatDoor
