/- Walks of the program, and plain facts. -/
import Derived.Test.YteodinhkhhaafaaGreatDoorDao
import Derived.LaidEql
import Derived.Stop.Asserts
import Derived.Test.YteodinhkhhaafaaGreatDoorDal
set_option linter.unusedVariables false
set_option linter.unusedSimpArgs false
set_option maxRecDepth 100000
set_option maxHeartbeats 6400000
namespace Go.Proofs.YteodinhkhhaafaaGreatDoor
section
section
open Go.RowKit
def LimOf (n:Nat) (L:Lim):Prop:=(n=0∧L=⟨32,131072,131072⟩)∨(16≤n∧n≤60∧L=⟨n,n,n⟩)
theorem LimOf.le {n:Nat} {L:Lim} (h:LimOf n L):L.nest≤65535∧L.el≤2147483647∧L.pa≤2147483647:=by
 rcases h with ⟨_,rfl⟩|⟨h1,h2,rfl⟩
 ·decide
 ·dsimp only;omega
theorem decMode {n:Nat} {L:Lim} (h:LimOf n L) (w:World):
  Calls Tryz.prog 113 #[decOpts n n n] w fun e w'=> ∃dm,e= .returned (.tuple #[.pointer (some ⟨dm,0,none⟩),.nilIface])∧w.heap.size≤dm∧DecM w' dm L.nest L.el L.pa∧Fr [] w w':=by
 rcases h with ⟨rfl,rfl⟩|⟨h1,h2,rfl⟩
 ·exact decMode_def w
 ·exact decMode_lim n h1 h2 w
def diagOpts (k:IntKind) (M:Md) (n:Nat):Value:= .agg #[.int k (M.enc:Int),.bool M.sp,.bool M.tx,.bool M.em,.bool M.sq,.bool M.pr,.int .i64 (n:Int),.int .i64 (n:Int),.int .i64 (n:Int)]
def DgM (w:World) (dg dm:Nat) (M:Md):Prop:=
 w.heap[dg]? =some (.cells #[.int .u8 (M.enc:Int),.bool M.sp,.bool M.tx,.bool M.em,.bool M.sq,.bool M.pr,.pointer (some ⟨dm,0,none⟩)] 139 (0,0))
def DPost (M:Md) (L:Lim) (w:World) (last:Value) (e:Ending) (w':World):Prop:=
 ∃dg dm,e= .returned (.tuple #[.pointer (some ⟨dg,0,none⟩),last])∧w.heap.size≤dg∧w.heap.size≤dm∧DgM w' dg dm M∧DecM w' dm L.nest L.el L.pa∧dg<w'.heap.size∧dm<w'.heap.size∧Fr [] w w'
theorem dgMode (M:Md) {n:Nat} {L:Lim} (h:LimOf n L) (he:M.enc<4) (w:World):
  Calls Tryz.prog 102 #[diagOpts .u8 M n] w (DPost M L w .nilIface):=by
 have K:=Hz (decMode h)
 have g1:(M.enc:Int)<4:=by omega
 obtain ⟨enc,sp,tx,em,sq,pr⟩:=M
 dsimp only at he g1
 unfold diagOpts
 go_enter Tryz.func102,Tryz.ntmps102
 go_wp2_with (go_at_call 115;go_in)
 refine (K.out _).mono ?_
 rintro e w1 ⟨dm,rfl,hdm,hM,hf⟩
 have hb:w1.heap[w.heap.size]? =some (.cells #[.int .u8 (enc:Int),.bool sp,.bool tx,.bool em,.bool sq,.bool pr,.int .i64 (n:Int),.int .i64 (n:Int),.int .i64 (n:Int)] 135 (0,0)):=hf.blk (blk_new w _) (by simp)
 have c0:=cell_blk hb 0
 have c1:=cell_blk hb 1
 have c2:=cell_blk hb 2
 have c3:=cell_blk hb 3
 have c4:=cell_blk hb 4
 have c5:=cell_blk hb 5
 simp only [List.getElem?_toArray,List.getElem?_cons_zero,List.getElem?_cons_succ] at c0 c1 c2 c3 c4 c5
 have hdl:=blk_lt' hM
 have hsz:=hf.size
 have hsz0:(w.alloc (.cells #[.int .u8 (enc:Int),.bool sp,.bool tx,.bool em,.bool sq,.bool pr,.int .i64 (n:Int),.int .i64 (n:Int),.int .i64 (n:Int)] 135)).heap.size=w.heap.size+1:=by simp
 rw [hsz0] at hdm hsz
 have hF:Fr [] w w1:=((Fr.refl [] w).alloc _).trans hf
 clear hb
 go_wp2
 go_ret2
 refine ⟨_,dm,rfl,by omega,by omega,blk_new' _ _ (by simp),blk_alloc hM _,by simp,by simp;omega,hF.alloc _⟩
theorem zzMode (M:Md) {n:Nat} {L:Lim} (h:LimOf n L) (he:M.enc<4) (w:World):
  Calls Tryz.prog 85 #[diagOpts .u8 M n] w (DPost M L w .nilIface):=by
 have K:=Hz (dgMode M h he)
 obtain ⟨enc,sp,tx,em,sq,pr⟩:=M
 unfold diagOpts at *
 go_enter Tryz.func85,Tryz.ntmps85
 go_wp2_with fail
 refine (K.out _).mono ?_
 rintro e w1 ⟨dg,dm,rfl,h1,h2,h3,h4,h5,h6,hf⟩
 have hsz0:(w.alloc (.cells #[.int .u8 (enc:Int),.bool sp,.bool tx,.bool em,.bool sq,.bool pr,.int .i64 (n:Int),.int .i64 (n:Int),.int .i64 (n:Int)] 135)).heap.size=w.heap.size+1:=by simp
 rw [hsz0] at h1 h2
 go_wp2
 go_ret2
 exact ⟨dg,dm,rfl,by omega,by omega,h3,h4,h5,h6,((Fr.refl [] w).alloc _).trans hf⟩
theorem implMode (M:Md) {n:Nat} {L:Lim} (h:LimOf n L) (he:M.enc<4) (w:World):
  Calls Tryz.prog 56 #[diagOpts .i64 M n] w (DPost M L w (.bool true)):=by
 have K:=Hz (zzMode M h he)
 obtain ⟨enc,sp,tx,em,sq,pr⟩:=M
 dsimp only at he
 have g0: ¬(enc:Int)<0:=by omega
 have g1: ¬(255:Int)<(enc:Int):=by omega
 have g2:IntKind.u8.wrap (enc:Int)=(enc:Int):=by
  show (enc:Int)%256=_
  omega
 unfold diagOpts at *
 go_enter Tryz.func56,Tryz.ntmps56
 go_wp2_with fail
 refine (K.out _).mono ?_
 rintro e w1 ⟨dg,dm,rfl,h1,h2,h3,h4,h5,h6,hf⟩
 have hsz0:(w.alloc (.cells #[.int .i64 (enc:Int),.bool sp,.bool tx,.bool em,.bool sq,.bool pr,.int .i64 (n:Int),.int .i64 (n:Int),.int .i64 (n:Int)] 24)).heap.size=w.heap.size+1:=by simp
 rw [hsz0] at h1 h2
 go_wp2
 go_quiet (fail)
 go_wp2
 go_ret2
 exact ⟨dg,dm,rfl,by omega,by omega,h3,h4,h5,h6,(((Fr.refl [] w).alloc _).trans hf).drewN _⟩
end
section
open Go.RowKit
theorem di_wellformed {X:Cx} {off:Nat} {bs:List UInt8} {w:World} (h:St X off bs w) (hn:X.L.nest≤65535) (hel:X.L.el≤2147483647) (hpa:X.L.pa≤2147483647) (more:Bool) (r:Option Nat) (hr:wfTop X.L X.xs more off r):
  Calls Tryz.prog 103 #[.pointer (some ⟨X.di,0,none⟩),.bool more] w fun e w'=> ∃v,e= .returned v∧ErrO r v∧St X off bs w'∧Gr X.B [X.d,X.wb] w w':=by
 have k1:=h.i1
 have d1:=h.dec.c1
 have hle:=h.dec.le
 have K:=Hz (wellformed hn hel hpa h.dec h.dm h.n3 more r hr)
 go_enter Tryz.func103,Tryz.ntmps103
 go_wp2_with fail
 refine K.out.mono ?_
 rintro e w1 ⟨v,rfl,hv,⟨u,hu⟩,hf⟩
 have k1':w1.cell? ⟨X.di,1,none⟩=some (.pointer (some ⟨X.d,0,none⟩)):=hf.cell k1 (by simpa using h.n1)
 have c1:w1.cell? ⟨X.d,1,none⟩=some u:=cell_blk hu.blk 1
 have f1:w1.frozen? ⟨X.d,1,none⟩=false:=frozen_blk hu.blk 1
 go_wp2
 go_ret
 have hF:Fr [X.d] w (w1.setCell ⟨X.d,1,none⟩ (.int .i64 (off:Int))):=hf.setCell (by simp) _
 exact ⟨_,rfl,hv,h.moved hF (DecV.dec (x:=(off:Int)) (hu.set _) off rfl hle),h.grF hF⟩
theorem newDiagnose {w:World} {db o c dm dg:Nat} {xs:List UInt8} {M:Md} {L:Lim} (hrd:Rd w db o xs) (hcap:xs.length≤c) (hlen:xs.length≤1099511627776) (hdb:db<w.heap.size) (hM:DgM w dg dm M) (hD:DecM w dm L.nest L.el L.pa) (hu:U8 w):
  Calls Tryz.prog 86 #[.slice (some ⟨db,o,none⟩) xs.length c,.pointer (some ⟨dm,0,none⟩),.pointer (some ⟨dg,0,none⟩)] w fun e w'=> ∃X:Cx,e= .returned (.pointer (some ⟨X.di,0,none⟩))∧X.xs=xs∧X.L=L∧X.M=M∧X.dg=dg∧X.db=db∧X.o=o∧X.c=c∧w.heap.size≤X.B∧w.heap.size≤X.d∧w.heap.size≤X.wb∧St X 0 [] w'∧Fr [] w w':=by
 have l1:=blk_lt' hM
 have l2:=blk_lt' hD
 have lu:=hu.size
 replace hu:=Hz hu
 go_enter Tryz.func86,Tryz.ntmps86
 go_wp2
 go_ret
 refine ⟨⟨w.heap.size+3,w.heap.size+2,dg,w.heap.size,w.heap.size+1,db,o,c,dm,xs,L,M⟩,rfl,rfl,rfl,rfl,rfl,rfl,rfl,rfl,by simp,by simp,by simp,?_,?_⟩
 ·refine ⟨blk_new' _ _ (by simp),blk_alloc (blk_alloc (blk_alloc hM _) _) _,⟨blk_alloc (blk_alloc (blk_new' _ _ (by simp)) _) _,?_,hcap,hlen,by dsimp only;omega,by simp⟩,blk_alloc (blk_alloc (blk_alloc hD _) _) _,⟨_,blk_alloc (blk_new' _ _ (by simp)) _,Row.nil _ _⟩,by simp,by simp,by dsimp only;omega,by simp,by simp,by dsimp only;omega,by dsimp only;omega,by dsimp only;omega,?_,by dsimp only;omega,by dsimp only;omega,by dsimp only;omega⟩
  rotate_left
  ·exact hu.out.fr (S:=[]) (by repeat (first|with_reducible exact Fr.refl _ _|with_reducible refine Fr.alloc ?_ _)) (by simp)
  exact hrd.fr (S:=[]) (by repeat (first|with_reducible exact Fr.refl _ _|with_reducible refine Fr.alloc ?_ _)) (by simp)
 ·repeat (first|with_reducible exact Fr.refl _ _|with_reducible refine Fr.alloc ?_ _)
end
end
section
open Go.RowKit
theorem info141: ∃i,Tryz.prog.info? 141=some i∧i.comparable=true:=by
 have h:(Tryz.prog.info? 141).map (·.comparable)=some true:=by kernel_rfl
 obtain ⟨i,h1,h2⟩:=Option.map_eq_some_iff.1 h
 exact ⟨i,h1,h2⟩
theorem ba_ne {s t:ByteArray} (h: ¬s=t):(s==t)=false:=by
 cases hb:(s==t)
 ·rfl
 ·exfalso
  apply h
  have:s.data=t.data:=by
   have h2:(s.data==t.data)=true:=hb
   simpa using h2
  cases s;cases t;simp_all
theorem eqIn_str (w:World) (d:Nat) (s t:ByteArray):(Op.equalIn (d+2) 97 (.iface 141 (.string s)) (.iface 141 (.string t))).run Tryz.prog w= .ok (s==t) w:=by
 obtain ⟨i,h1,h2⟩:=info141
 simp [Op.equalIn,run_underlying Tryz.underlying97,run_underlying Tryz.underlying141,typeInfo,h1,h2]
theorem eq_str (w:World) (s t:ByteArray):(binOp .eql 97 (.iface 141 (.string s)) (.iface 141 (.string t))).run Tryz.prog w= .ok (.bool (s==t)) w:=by
 simp only [binOp]
 simp [Op.equal,Op.maxDepth,eqIn_str w 9998 s t]
theorem eq_eof (w:World):(binOp .eql 97 (.iface 141 (.string ⟨#[69,79,70]⟩)) (.iface 141 (.string ⟨#[69,79,70]⟩))).run Tryz.prog w= .ok (.bool true) w:=by
 rw [eq_str];rfl
theorem errv_eof {k:Nat} {v:Value} (h:ErrV k v) (hk:k≠1) (w:World):(binOp .eql 97 v (.iface 141 (.string ⟨#[69,79,70]⟩))).run Tryz.prog w= .ok (.bool false) w:=by
 unfold ErrV at h
 rw [if_neg hk] at h
 split at h
 ·subst h
  rw [eq_str];rfl
 ·split at h
  ·obtain ⟨s,rfl,h1,_⟩:=h
   rw [eq_str,show (s==⟨#[69,79,70]⟩)=false from ba_ne h1]
  ·obtain ⟨hk,a,rfl⟩:=h
   refine run_eql_iface_types _ _ _ _ Tryz.underlying97 ?_ w
   rcases hk with rfl|rfl|rfl|rfl|rfl|rfl|rfl<;>decide
theorem errv_ueof {k:Nat} {v:Value} (h:ErrV k v) (hk:k≠2) (hk1:k≠1) (w:World):(binOp .eql 97 v (.iface 141 (.string ueofS))).run Tryz.prog w= .ok (.bool false) w:=by
 unfold ErrV at h
 rw [if_neg hk1,if_neg hk] at h
 split at h
 ·obtain ⟨s,rfl,_,h1⟩:=h
  rw [eq_str,ba_ne h1]
 ·obtain ⟨hk,a,rfl⟩:=h
  refine run_eql_iface_types _ _ _ _ Tryz.underlying97 ?_ w
  rcases hk with rfl|rfl|rfl|rfl|rfl|rfl|rfl<;>decide
end
section
section
open Go.RowKit
inductive SeqC (X:Cx) (sq:Bool):Nat→Bool→Nat→R→Prop
 |none {off:Nat}:wfTop X.L X.xs sq off (some 1)→SeqC X sq 0 true off ([],some 1)
 |stop {off:Nat}:wfTop X.L X.xs sq off (some 1)→SeqC X sq 0 false off ([],none)
 |bad {off k:Nat} {first:Bool}:wfTop X.L X.xs sq off (some k)→k≠1→SeqC X sq 0 first off ([],some k)
 |item {off off' n:Nat} {first:Bool} {r r':R}:wfTop X.L X.xs sq off .none→ItemC X off off' r→(r.2= .none→SeqC X sq n false off' r')→
   SeqC X sq (n+1) first off (thenR (txt (if first then [] else [44,32])) (thenR r r'))
def SPost (X:Cx) (r:R) (w:World) (e:Ending) (w':World):Prop:=
 ∃v off',e= .returned (.tuple #[.string ⟨r.1.toArray⟩,v])∧ErrO r.2 v∧St X off' r.1 w'∧Gr X.B [X.d,X.wb] w w'
theorem SPost.of {X:Cx} {r r0:R} {w w':World} {bs:List UInt8} {v:Value} {off':Nat} (hL:Togo bs r [] r0) (h0:r.1=[]) (hv:ErrO r.2 v) (hS:St X off' bs w') (hG:Gr X.B [X.d,X.wb] w w'):
  SPost X r0 w (.returned (.tuple #[.string ⟨bs.toArray⟩,v])) w':=by
 have h1:=hL.1
 rw [h0] at h1
 simp only [List.append_nil,List.nil_append] at h1
 subst h1
 exact ⟨v,off',rfl,hL.2▸hv,hS,hG⟩
theorem SPost.err {X:Cx} {k o2:Nat} {bs':List UInt8} {a r0:R} {w w2:World} {v:Value} (hv:ErrO (some k) v) (hS:St X o2 (bs'++a.1) w2) (hG:Gr X.B [X.d,X.wb] w w2) (hL:bs'++a.1=[]++r0.1∧r0.2=some k) {bx:List UInt8} (hx:bs'++a.1=bx):
  SPost X r0 w (.returned (.tuple #[.string ⟨bx.toArray⟩,v])) w2:=by
 subst hx
 have h1:=hL.1
 rw [List.nil_append] at h1
 rw [h1] at hS ⊢
 exact ⟨v,o2,rfl,hL.2▸hv,hS,hG⟩
theorem diag {X:Cx} {w:World} (h:St X 0 [] w) (hn:X.L.nest≤65535) (hel:X.L.el≤2147483647) (hpa:X.L.pa≤2147483647) (sq:Bool) {n:Nat} {r:R} (hr:SeqC X sq n true 0 r) (hlen:r.1.length≤room):
  Calls Tryz.prog 87 #[.pointer (some ⟨X.di,0,none⟩),.bool sq] w (SPost X r w):=by
 have L0:Togo [] r [] r:=Togo.refl _ _
 have hlen':([]:List UInt8).length+r.1.length≤room:=by simpa using hlen
 generalize hn0:n=n0 at *
 replace L0:=Hz L0
 replace hr:=Hz hr
 replace hlen':=Hz hlen'
 clear hlen hn0
 go_enter Tryz.func87,Tryz.ntmps87
 go_wp2
 go_loopg [6] n0 (fun k v6 wr=> ∃(first:Bool) (off:Nat) (bs':List UInt8) (r':R),v6= .bool first∧Hid (SeqC X sq k first off r')∧Hid (Togo bs' r' [] r)∧St X off bs' wr∧Gr X.B [X.d,X.wb] w wr)
 case atStart=>exact ⟨true,0,[],r,rfl,hr,L0,h,Gr.refl _ _ _⟩
 case round=>
  obtain ⟨first,off,bs1,r1,rfl,hS,L1,h1,G1⟩:=hrel
  have W: ∀q,wfTop X.L X.xs sq off q→Hid (Calls Tryz.prog 103 #[.pointer (some ⟨X.di,0,none⟩),.bool sq] wr fun e w'=> ∃v,e= .returned v∧ErrO q v∧St X off bs1 w'∧Gr X.B [X.d,X.wb] wr w'):=fun q hq=>Hz (di_wellformed h1 hn hel hpa sq q hq)
  rcases hS.out with hq|hq|⟨hq,hk⟩|⟨hq,hC,hrest⟩
  ·have K:=W _ hq
   clear W hS
   go_wp2_with fail
   refine K.out.mono ?_
   rintro e w2 ⟨v,rfl,hv,h2,G2⟩
   obtain rfl:v= .iface 141 (.string eofS):=hv
   have k2:=h2.i2
   have KS:=Hz (string h2.buf)
   have he:=eq_eof w2
   unfold eofS
   go_wp2_with fail
   refine KS.out.mono ?_
   rintro e w3 ⟨rfl,rfl⟩
   go_wp2
   go_ret2
   exact SPost.of L1.out rfl (show ErrO (some 1) _ from rfl) h2 (G1.trans G2)
  ·have K:=W _ hq
   clear W hS
   go_wp2_with fail
   refine K.out.mono ?_
   rintro e w2 ⟨v,rfl,hv,h2,G2⟩
   obtain rfl:v= .iface 141 (.string eofS):=hv
   have k2:=h2.i2
   have KS:=Hz (string h2.buf)
   have he:=eq_eof w2
   unfold eofS
   go_wp2_with fail
   refine KS.out.mono ?_
   rintro e w3 ⟨rfl,rfl⟩
   go_wp2
   go_ret2
   exact SPost.of L1.out rfl rfl h2 (G1.trans G2)
  ·have K:=W _ hq
   clear W hS
   go_wp2_with fail
   refine K.out.mono ?_
   rintro e w2 ⟨v,rfl,hv,h2,G2⟩
   have k2:=h2.i2
   have KS:=Hz (string h2.buf)
   have he:=errv_eof hv hk w2
   obtain ⟨t,x,rfl⟩:=ErrV.iface hv
   go_wp2_with fail
   refine KS.out.mono ?_
   rintro e w3 ⟨rfl,rfl⟩
   go_wp2
   go_ret2
   exact SPost.of L1.out rfl hv h2 (G1.trans G2)
  ·rename_i off' m r2 r3 hJ
   have K:=W _ hq
   clear W hS
   replace hC:=Hz hC
   replace hrest:=Hz hrest
   go_wp2_with fail
   refine K.out.mono ?_
   rintro e w2 ⟨v,rfl,hv,h2,G2⟩
   obtain rfl:=hv.nil
   have k2:=h2.i2
   have G2':=G1.trans G2
   rcases first with _|_
   ·have L2':=Hz (show Togo bs1 (thenR (txt [44,32]) (thenR r2 r3)) [] r from L1.out)
    have K3:=Hz (fun n=>writeString (h2.drewN n).buf h2.lw (h2.drewN n).hB [44,32] (L2'.out.len_tx hlen'.out))
    go_wp2_with fail
    refine (K3.out 0).mono ?_
    rintro e w3 ⟨⟨u3,rfl⟩,hb3,hg3⟩
    have h3:=h2.wrote hg3 hb3
    have G3:=G2'.trans (St.grW hg3)
    have L3:=Hz L2'.out.tx
    have KI:=Hz (hC.out _ _ h3 (L3.out.len1 hlen'.out))
    go_wp2_with fail
    refine KI.out.mono ?_
    rintro e w4 ⟨v4,o4,rfl,hv4,ho4,h4,hG4⟩
    have G4:=G3.trans hG4
    rcases hr4:r2.2 with _|k
    ·rw [hr4] at hv4
     obtain rfl:=hv4.nil
     have L4:=Hz (L3.out.ok hr4)
     rw [ho4 hr4] at h4
     go_wp2
     go_roundg m
     case measure=>omega
     case rel=>exact ⟨false,off',_,r3,rfl,Hz (hrest.out hr4),L4,h4,G4⟩
    ·rw [hr4] at hv4
     have k4:=h4.i2
     have KS:=Hz (string h4.buf)
     obtain ⟨t,x,rfl⟩:=hv4.ne
     go_wp2_with fail
     refine KS.out.mono ?_
     rintro e w5 ⟨rfl,rfl⟩
     go_wp2
     go_ret2
     exact SPost.err hv4 h4 G4 (L3.out.err hr4) (by simp)
   ·have L2':=L1.out.tx
    rw [if_pos rfl,List.append_nil] at L2'
    replace L2':=Hz L2'
    have KI:=Hz (hC.out _ _ h2 (L2'.out.len1 hlen'.out))
    go_wp2_with fail
    refine KI.out.mono ?_
    rintro e w4 ⟨v4,o4,rfl,hv4,ho4,h4,hG4⟩
    have G4:=G2'.trans hG4
    rcases hr4:r2.2 with _|k
    ·rw [hr4] at hv4
     obtain rfl:=hv4.nil
     have L4:=Hz (L2'.out.ok hr4)
     rw [ho4 hr4] at h4
     go_wp2
     go_roundg m
     case measure=>omega
     case rel=>exact ⟨false,off',_,r3,rfl,Hz (hrest.out hr4),L4,h4,G4⟩
    ·rw [hr4] at hv4
     have k4:=h4.i2
     have KS:=Hz (string h4.buf)
     obtain ⟨t,x,rfl⟩:=hv4.ne
     go_wp2_with fail
     refine KS.out.mono ?_
     rintro e w5 ⟨rfl,rfl⟩
     go_wp2
     go_ret2
     exact SPost.err hv4 h4 G4 (L2'.out.err hr4) rfl
end
section
open Go.RowKit
theorem Fr.gr {S T:List Nat} {B:Nat} {w w1 w2:World} (h:Fr S w w1) (g:Gr B T w1 w2) (hB:w.heap.size≤B) (hT: ∀k,k∈T→k∈S∨w.heap.size≤k):Fr S w w2:=
 ⟨g.os.trans h.os,g.tape.trans h.tape,g.output.trans h.output,Nat.le_trans h.size g.size,fun k hk hn=>(g.block k (by omega) (fun e=>(hT k e).elim hn (by omega))).trans (h.block k hk hn)⟩
def Says (xs:List UInt8) (L:Lim) (M:Md) (sq:Bool) (r:R):Prop:= ∀X:Cx,X.xs=xs→X.L=L→X.M=M→ ∃n,SeqC X sq n true 0 r
def GPost (r:R) (w:World) (e:Ending) (w':World):Prop:= ∃v,e= .returned (.tuple #[.string ⟨r.1.toArray⟩,v])∧ErrO r.2 v∧Fr [] w w'
theorem diagnose {w:World} {db o c dm dg:Nat} {xs:List UInt8} {M:Md} {L:Lim} (hL:L.nest≤65535∧L.el≤2147483647∧L.pa≤2147483647) (hrd:Rd w db o xs) (hcap:xs.length≤c) (hlen:xs.length≤1099511627776) (hdb:db<w.heap.size) (hM:DgM w dg dm M) (hD:DecM w dm L.nest L.el L.pa) (hu:U8 w)
  {r:R} (hr:Says xs L M M.sq r) (hroom:r.1.length≤room):
  Calls Tryz.prog 57 #[.pointer (some ⟨dg,0,none⟩),.slice (some ⟨db,o,none⟩) xs.length c] w (GPost r w):=by
 have c4:w.cell? ⟨dg,4,none⟩=some (.bool M.sq):=cell_blk hM 4
 have c6:w.cell? ⟨dg,6,none⟩=some (.pointer (some ⟨dm,0,none⟩)):=cell_blk hM 6
 have K1:=fun n=>newDiagnose (w:=w.drewN n) (hrd.fr ((Fr.refl [] w).drewN n) (by simp)) hcap hlen hdb hM hD (hu.fr ((Fr.refl [] w).drewN n) (by simp))
 replace K1:=Hz K1
 clear hu
 replace hr:=Hz hr
 replace hM:=Hz hM
 go_enter Tryz.func57,Tryz.ntmps57
 go_wp2
 go_region_held3 (fun w'=>w'.cell? ⟨dg,4,none⟩=some (.bool M.sq)∧w'.cell? ⟨dg,6,none⟩=some (.pointer (some ⟨dm,0,none⟩)))
  (first|go_keep|exact ⟨hf1.cell c4 (by simp),hf1.cell c6 (by simp)⟩|exact ⟨hf2.cell c4 (by simp),hf2.cell c6 (by simp)⟩)
  (first|(go_at_call 86;refine (K1.out _).mono ?_;rintro e w1 ⟨X,rfl,hx,hl,hm,hdg,-,-,-,hB,hd,hwb,hS,hf0⟩;have hf1:Fr [] w w1:=((Fr.refl [] w).drewN _).trans hf0;have hB':w.heap.size≤X.B:=hB;have hd':w.heap.size≤X.d:=hd;have hwb':w.heap.size≤X.wb:=hwb)|(go_at_call 87;obtain ⟨nn,hq⟩:=hr.out X hx hl hm;refine (diag hS (hl▸hL.1) (hl▸hL.2.1) (hl▸hL.2.2) _ hq hroom).mono ?_;rintro e w2 ⟨v,o2,rfl,hv,hS2,hG⟩;have hf2:Fr [] w w2:=hf1.gr hG hB' (by intro k hk;simp at hk;rcases hk with rfl|rfl<;>exact .inr (by assumption))))
 go_wp2
 go_ret2
 exact ⟨v,rfl,hv,hf2⟩
end
end
section
open Go.RowKit
abbrev TA (t u:TypeId) (v:Value) (w:World):Prop:=(Instr.typeAssert (.iface t v) 97 u true).run Tryz.prog w= .ok (.tuple #[.pointer none,.bool false]) w
section
variable (v:Value) (w:World)
@[go_sem] theorem ta141_142:TA 141 142 v w:=by unfold TA;kernel_rfl
@[go_sem] theorem ta141_143:TA 141 143 v w:=by unfold TA;kernel_rfl
@[go_sem] theorem ta141_144:TA 141 144 v w:=by unfold TA;kernel_rfl
@[go_sem] theorem ta141_145:TA 141 145 v w:=by unfold TA;kernel_rfl
@[go_sem] theorem ta141_146:TA 141 146 v w:=by unfold TA;kernel_rfl
@[go_sem] theorem ta141_147:TA 141 147 v w:=by unfold TA;kernel_rfl
@[go_sem] theorem ta141_148:TA 141 148 v w:=by unfold TA;kernel_rfl
@[go_sem] theorem ta141_149:TA 141 149 v w:=by unfold TA;kernel_rfl
@[go_sem] theorem ta141_150:TA 141 150 v w:=by unfold TA;kernel_rfl
@[go_sem] theorem ta141_151:TA 141 151 v w:=by unfold TA;kernel_rfl
@[go_sem] theorem ta141_152:TA 141 152 v w:=by unfold TA;kernel_rfl
@[go_sem] theorem ta141_153:TA 141 153 v w:=by unfold TA;kernel_rfl
@[go_sem] theorem ta141_154:TA 141 154 v w:=by unfold TA;kernel_rfl
@[go_sem] theorem ta141_155:TA 141 155 v w:=by unfold TA;kernel_rfl
@[go_sem] theorem ta141_156:TA 141 156 v w:=by unfold TA;kernel_rfl
@[go_sem] theorem ta141_157:TA 141 157 v w:=by unfold TA;kernel_rfl
@[go_sem] theorem ta142_142 (v:Value) (w:World):(Instr.typeAssert (.iface 142 v) 97 142 true).run Tryz.prog w= .ok (.tuple #[v,.bool true]) w:=by kernel_rfl
@[go_sem] theorem ta142_143:TA 142 143 v w:=by unfold TA;kernel_rfl
@[go_sem] theorem ta142_144:TA 142 144 v w:=by unfold TA;kernel_rfl
@[go_sem] theorem ta142_145:TA 142 145 v w:=by unfold TA;kernel_rfl
@[go_sem] theorem ta142_146:TA 142 146 v w:=by unfold TA;kernel_rfl
@[go_sem] theorem ta142_147:TA 142 147 v w:=by unfold TA;kernel_rfl
@[go_sem] theorem ta142_148:TA 142 148 v w:=by unfold TA;kernel_rfl
@[go_sem] theorem ta142_149:TA 142 149 v w:=by unfold TA;kernel_rfl
@[go_sem] theorem ta142_150:TA 142 150 v w:=by unfold TA;kernel_rfl
@[go_sem] theorem ta142_151:TA 142 151 v w:=by unfold TA;kernel_rfl
@[go_sem] theorem ta142_152:TA 142 152 v w:=by unfold TA;kernel_rfl
@[go_sem] theorem ta142_153:TA 142 153 v w:=by unfold TA;kernel_rfl
@[go_sem] theorem ta142_154:TA 142 154 v w:=by unfold TA;kernel_rfl
@[go_sem] theorem ta142_155:TA 142 155 v w:=by unfold TA;kernel_rfl
@[go_sem] theorem ta142_156:TA 142 156 v w:=by unfold TA;kernel_rfl
@[go_sem] theorem ta142_157:TA 142 157 v w:=by unfold TA;kernel_rfl
@[go_sem] theorem ta143_142:TA 143 142 v w:=by unfold TA;kernel_rfl
@[go_sem] theorem ta143_143 (v:Value) (w:World):(Instr.typeAssert (.iface 143 v) 97 143 true).run Tryz.prog w= .ok (.tuple #[v,.bool true]) w:=by kernel_rfl
@[go_sem] theorem ta143_144:TA 143 144 v w:=by unfold TA;kernel_rfl
@[go_sem] theorem ta143_145:TA 143 145 v w:=by unfold TA;kernel_rfl
@[go_sem] theorem ta143_146:TA 143 146 v w:=by unfold TA;kernel_rfl
@[go_sem] theorem ta143_147:TA 143 147 v w:=by unfold TA;kernel_rfl
@[go_sem] theorem ta143_148:TA 143 148 v w:=by unfold TA;kernel_rfl
@[go_sem] theorem ta143_149:TA 143 149 v w:=by unfold TA;kernel_rfl
@[go_sem] theorem ta143_150:TA 143 150 v w:=by unfold TA;kernel_rfl
@[go_sem] theorem ta143_151:TA 143 151 v w:=by unfold TA;kernel_rfl
@[go_sem] theorem ta143_152:TA 143 152 v w:=by unfold TA;kernel_rfl
@[go_sem] theorem ta143_153:TA 143 153 v w:=by unfold TA;kernel_rfl
@[go_sem] theorem ta143_154:TA 143 154 v w:=by unfold TA;kernel_rfl
@[go_sem] theorem ta143_155:TA 143 155 v w:=by unfold TA;kernel_rfl
@[go_sem] theorem ta143_156:TA 143 156 v w:=by unfold TA;kernel_rfl
@[go_sem] theorem ta143_157:TA 143 157 v w:=by unfold TA;kernel_rfl
@[go_sem] theorem ta144_142:TA 144 142 v w:=by unfold TA;kernel_rfl
@[go_sem] theorem ta144_143:TA 144 143 v w:=by unfold TA;kernel_rfl
@[go_sem] theorem ta144_144 (v:Value) (w:World):(Instr.typeAssert (.iface 144 v) 97 144 true).run Tryz.prog w= .ok (.tuple #[v,.bool true]) w:=by kernel_rfl
@[go_sem] theorem ta144_145:TA 144 145 v w:=by unfold TA;kernel_rfl
@[go_sem] theorem ta144_146:TA 144 146 v w:=by unfold TA;kernel_rfl
@[go_sem] theorem ta144_147:TA 144 147 v w:=by unfold TA;kernel_rfl
@[go_sem] theorem ta144_148:TA 144 148 v w:=by unfold TA;kernel_rfl
@[go_sem] theorem ta144_149:TA 144 149 v w:=by unfold TA;kernel_rfl
@[go_sem] theorem ta144_150:TA 144 150 v w:=by unfold TA;kernel_rfl
@[go_sem] theorem ta144_151:TA 144 151 v w:=by unfold TA;kernel_rfl
@[go_sem] theorem ta144_152:TA 144 152 v w:=by unfold TA;kernel_rfl
@[go_sem] theorem ta144_153:TA 144 153 v w:=by unfold TA;kernel_rfl
@[go_sem] theorem ta144_154:TA 144 154 v w:=by unfold TA;kernel_rfl
@[go_sem] theorem ta144_155:TA 144 155 v w:=by unfold TA;kernel_rfl
@[go_sem] theorem ta144_156:TA 144 156 v w:=by unfold TA;kernel_rfl
@[go_sem] theorem ta144_157:TA 144 157 v w:=by unfold TA;kernel_rfl
@[go_sem] theorem ta145_142:TA 145 142 v w:=by unfold TA;kernel_rfl
@[go_sem] theorem ta145_143:TA 145 143 v w:=by unfold TA;kernel_rfl
@[go_sem] theorem ta145_144:TA 145 144 v w:=by unfold TA;kernel_rfl
@[go_sem] theorem ta145_145 (v:Value) (w:World):(Instr.typeAssert (.iface 145 v) 97 145 true).run Tryz.prog w= .ok (.tuple #[v,.bool true]) w:=by kernel_rfl
@[go_sem] theorem ta145_146:TA 145 146 v w:=by unfold TA;kernel_rfl
@[go_sem] theorem ta145_147:TA 145 147 v w:=by unfold TA;kernel_rfl
@[go_sem] theorem ta145_148:TA 145 148 v w:=by unfold TA;kernel_rfl
@[go_sem] theorem ta145_149:TA 145 149 v w:=by unfold TA;kernel_rfl
@[go_sem] theorem ta145_150:TA 145 150 v w:=by unfold TA;kernel_rfl
@[go_sem] theorem ta145_151:TA 145 151 v w:=by unfold TA;kernel_rfl
@[go_sem] theorem ta145_152:TA 145 152 v w:=by unfold TA;kernel_rfl
@[go_sem] theorem ta145_153:TA 145 153 v w:=by unfold TA;kernel_rfl
@[go_sem] theorem ta145_154:TA 145 154 v w:=by unfold TA;kernel_rfl
@[go_sem] theorem ta145_155:TA 145 155 v w:=by unfold TA;kernel_rfl
@[go_sem] theorem ta145_156:TA 145 156 v w:=by unfold TA;kernel_rfl
@[go_sem] theorem ta145_157:TA 145 157 v w:=by unfold TA;kernel_rfl
@[go_sem] theorem ta146_142:TA 146 142 v w:=by unfold TA;kernel_rfl
@[go_sem] theorem ta146_143:TA 146 143 v w:=by unfold TA;kernel_rfl
@[go_sem] theorem ta146_144:TA 146 144 v w:=by unfold TA;kernel_rfl
@[go_sem] theorem ta146_145:TA 146 145 v w:=by unfold TA;kernel_rfl
@[go_sem] theorem ta146_146 (v:Value) (w:World):(Instr.typeAssert (.iface 146 v) 97 146 true).run Tryz.prog w= .ok (.tuple #[v,.bool true]) w:=by kernel_rfl
@[go_sem] theorem ta146_147:TA 146 147 v w:=by unfold TA;kernel_rfl
@[go_sem] theorem ta146_148:TA 146 148 v w:=by unfold TA;kernel_rfl
@[go_sem] theorem ta146_149:TA 146 149 v w:=by unfold TA;kernel_rfl
@[go_sem] theorem ta146_150:TA 146 150 v w:=by unfold TA;kernel_rfl
@[go_sem] theorem ta146_151:TA 146 151 v w:=by unfold TA;kernel_rfl
@[go_sem] theorem ta146_152:TA 146 152 v w:=by unfold TA;kernel_rfl
@[go_sem] theorem ta146_153:TA 146 153 v w:=by unfold TA;kernel_rfl
@[go_sem] theorem ta146_154:TA 146 154 v w:=by unfold TA;kernel_rfl
@[go_sem] theorem ta146_155:TA 146 155 v w:=by unfold TA;kernel_rfl
@[go_sem] theorem ta146_156:TA 146 156 v w:=by unfold TA;kernel_rfl
@[go_sem] theorem ta146_157:TA 146 157 v w:=by unfold TA;kernel_rfl
@[go_sem] theorem ta149_142:TA 149 142 v w:=by unfold TA;kernel_rfl
@[go_sem] theorem ta149_143:TA 149 143 v w:=by unfold TA;kernel_rfl
@[go_sem] theorem ta149_144:TA 149 144 v w:=by unfold TA;kernel_rfl
@[go_sem] theorem ta149_145:TA 149 145 v w:=by unfold TA;kernel_rfl
@[go_sem] theorem ta149_146:TA 149 146 v w:=by unfold TA;kernel_rfl
@[go_sem] theorem ta149_147:TA 149 147 v w:=by unfold TA;kernel_rfl
@[go_sem] theorem ta149_148:TA 149 148 v w:=by unfold TA;kernel_rfl
@[go_sem] theorem ta149_149 (v:Value) (w:World):(Instr.typeAssert (.iface 149 v) 97 149 true).run Tryz.prog w= .ok (.tuple #[v,.bool true]) w:=by kernel_rfl
@[go_sem] theorem ta149_150:TA 149 150 v w:=by unfold TA;kernel_rfl
@[go_sem] theorem ta149_151:TA 149 151 v w:=by unfold TA;kernel_rfl
@[go_sem] theorem ta149_152:TA 149 152 v w:=by unfold TA;kernel_rfl
@[go_sem] theorem ta149_153:TA 149 153 v w:=by unfold TA;kernel_rfl
@[go_sem] theorem ta149_154:TA 149 154 v w:=by unfold TA;kernel_rfl
@[go_sem] theorem ta149_155:TA 149 155 v w:=by unfold TA;kernel_rfl
@[go_sem] theorem ta149_156:TA 149 156 v w:=by unfold TA;kernel_rfl
@[go_sem] theorem ta149_157:TA 149 157 v w:=by unfold TA;kernel_rfl
@[go_sem] theorem ta156_142:TA 156 142 v w:=by unfold TA;kernel_rfl
@[go_sem] theorem ta156_143:TA 156 143 v w:=by unfold TA;kernel_rfl
@[go_sem] theorem ta156_144:TA 156 144 v w:=by unfold TA;kernel_rfl
@[go_sem] theorem ta156_145:TA 156 145 v w:=by unfold TA;kernel_rfl
@[go_sem] theorem ta156_146:TA 156 146 v w:=by unfold TA;kernel_rfl
@[go_sem] theorem ta156_147:TA 156 147 v w:=by unfold TA;kernel_rfl
@[go_sem] theorem ta156_148:TA 156 148 v w:=by unfold TA;kernel_rfl
@[go_sem] theorem ta156_149:TA 156 149 v w:=by unfold TA;kernel_rfl
@[go_sem] theorem ta156_150:TA 156 150 v w:=by unfold TA;kernel_rfl
@[go_sem] theorem ta156_151:TA 156 151 v w:=by unfold TA;kernel_rfl
@[go_sem] theorem ta156_152:TA 156 152 v w:=by unfold TA;kernel_rfl
@[go_sem] theorem ta156_153:TA 156 153 v w:=by unfold TA;kernel_rfl
@[go_sem] theorem ta156_154:TA 156 154 v w:=by unfold TA;kernel_rfl
@[go_sem] theorem ta156_155:TA 156 155 v w:=by unfold TA;kernel_rfl
@[go_sem] theorem ta156_156 (v:Value) (w:World):(Instr.typeAssert (.iface 156 v) 97 156 true).run Tryz.prog w= .ok (.tuple #[v,.bool true]) w:=by kernel_rfl
@[go_sem] theorem ta156_157:TA 156 157 v w:=by unfold TA;kernel_rfl
end
theorem kind_3 (a:Addr) (w:World):Calls Tryz.prog 58 #[.iface 142 (.pointer (some a))] w fun e w'=>e= .returned (.int .i64 3)∧w'=w:=by
 have hv:ErrV 3 (.iface 142 (.pointer (some a))):=errv_ptr 3 (by omega) a
 have e1:=errv_eof hv (by omega) w
 have e2:=errv_ueof hv (by omega) (by omega) w
 unfold ueofS at e2
 clear hv
 go_enter Tryz.func58,Tryz.ntmps58
 go_wp2
 go_ret
 exact ⟨rfl,rfl⟩
theorem kind_4 (a:Addr) (w:World):Calls Tryz.prog 58 #[.iface 143 (.pointer (some a))] w fun e w'=>e= .returned (.int .i64 4)∧w'=w:=by
 have hv:ErrV 4 (.iface 143 (.pointer (some a))):=errv_ptr 4 (by omega) a
 have e1:=errv_eof hv (by omega) w
 have e2:=errv_ueof hv (by omega) (by omega) w
 unfold ueofS at e2
 clear hv
 go_enter Tryz.func58,Tryz.ntmps58
 go_wp2
 go_ret
 exact ⟨rfl,rfl⟩
theorem kind_5 (a:Addr) (w:World):Calls Tryz.prog 58 #[.iface 144 (.pointer (some a))] w fun e w'=>e= .returned (.int .i64 5)∧w'=w:=by
 have hv:ErrV 5 (.iface 144 (.pointer (some a))):=errv_ptr 5 (by omega) a
 have e1:=errv_eof hv (by omega) w
 have e2:=errv_ueof hv (by omega) (by omega) w
 unfold ueofS at e2
 clear hv
 go_enter Tryz.func58,Tryz.ntmps58
 go_wp2
 go_ret
 exact ⟨rfl,rfl⟩
theorem kind_6 (a:Addr) (w:World):Calls Tryz.prog 58 #[.iface 145 (.pointer (some a))] w fun e w'=>e= .returned (.int .i64 6)∧w'=w:=by
 have hv:ErrV 6 (.iface 145 (.pointer (some a))):=errv_ptr 6 (by omega) a
 have e1:=errv_eof hv (by omega) w
 have e2:=errv_ueof hv (by omega) (by omega) w
 unfold ueofS at e2
 clear hv
 go_enter Tryz.func58,Tryz.ntmps58
 go_wp2
 go_ret
 exact ⟨rfl,rfl⟩
theorem kind_7 (a:Addr) (w:World):Calls Tryz.prog 58 #[.iface 146 (.pointer (some a))] w fun e w'=>e= .returned (.int .i64 7)∧w'=w:=by
 have hv:ErrV 7 (.iface 146 (.pointer (some a))):=errv_ptr 7 (by omega) a
 have e1:=errv_eof hv (by omega) w
 have e2:=errv_ueof hv (by omega) (by omega) w
 unfold ueofS at e2
 clear hv
 go_enter Tryz.func58,Tryz.ntmps58
 go_wp2
 go_ret
 exact ⟨rfl,rfl⟩
theorem kind_10 (a:Addr) (w:World):Calls Tryz.prog 58 #[.iface 149 (.pointer (some a))] w fun e w'=>e= .returned (.int .i64 10)∧w'=w:=by
 have hv:ErrV 10 (.iface 149 (.pointer (some a))):=errv_ptr 10 (by omega) a
 have e1:=errv_eof hv (by omega) w
 have e2:=errv_ueof hv (by omega) (by omega) w
 unfold ueofS at e2
 clear hv
 go_enter Tryz.func58,Tryz.ntmps58
 go_wp2
 go_ret
 exact ⟨rfl,rfl⟩
theorem kind_17 (a:Addr) (w:World):Calls Tryz.prog 58 #[.iface 156 (.pointer (some a))] w fun e w'=>e= .returned (.int .i64 17)∧w'=w:=by
 have hv:ErrV 17 (.iface 156 (.pointer (some a))):=errv_ptr 17 (by omega) a
 have e1:=errv_eof hv (by omega) w
 have e2:=errv_ueof hv (by omega) (by omega) w
 unfold ueofS at e2
 clear hv
 go_enter Tryz.func58,Tryz.ntmps58
 go_wp2
 go_ret
 exact ⟨rfl,rfl⟩
theorem kind_1 (w:World):Calls Tryz.prog 58 #[.iface 141 (.string eofS)] w fun e w'=>e= .returned (.int .i64 1)∧w'=w:=by
 have e1:=eq_eof w
 unfold eofS
 go_enter Tryz.func58,Tryz.ntmps58
 go_wp2
 go_ret
 exact ⟨rfl,rfl⟩
theorem kind_2 (w:World):Calls Tryz.prog 58 #[.iface 141 (.string ueofS)] w fun e w'=>e= .returned (.int .i64 2)∧w'=w:=by
 have e1:=errv_eof (k:=2) (v:= .iface 141 (.string ueofS)) rfl (by omega) w
 have e2:(binOp .eql 97 (.iface 141 (.string ueofS)) (.iface 141 (.string ueofS))).run Tryz.prog w= .ok (.bool true) w:=by rw [eq_str];rfl
 unfold ueofS at *
 go_enter Tryz.func58,Tryz.ntmps58
 go_wp2
 go_ret
 exact ⟨rfl,rfl⟩
theorem kind_16 (s:ByteArray) (h1:s≠eofS) (h2:s≠ueofS) (w:World):Calls Tryz.prog 58 #[.iface 141 (.string s)] w fun e w'=>e= .returned (.int .i64 16)∧w'=w:=by
 have hv:ErrV 16 (.iface 141 (.string s)):=⟨s,rfl,h1,h2⟩
 have e1:=errv_eof hv (by omega) w
 have e2:=errv_ueof hv (by omega) (by omega) w
 unfold ueofS at e2
 clear hv h1 h2
 go_enter Tryz.func58,Tryz.ntmps58
 go_wp2
 go_ret
 exact ⟨rfl,rfl⟩
theorem zzKind (k:Nat) (v:Value) (h:ErrV k v) (w:World):Calls Tryz.prog 58 #[v] w fun e w'=>e= .returned (.int .i64 (k:Int))∧w'=w:=by
 unfold ErrV at h
 split at h
 ·subst h;rename_i h;subst h;exact kind_1 w
 ·split at h
  ·subst h;rename_i h;subst h;exact kind_2 w
  ·split at h
   ·obtain ⟨s,rfl,h1,h2⟩:=h
    rename_i h;subst h;exact kind_16 s h1 h2 w
   ·obtain ⟨hk,a,rfl⟩:=h
    rcases hk with rfl|rfl|rfl|rfl|rfl|rfl|rfl
    ·exact kind_3 a w
    ·exact kind_4 a w
    ·exact kind_5 a w
    ·exact kind_6 a w
    ·exact kind_7 a w
    ·exact kind_10 a w
    ·exact kind_17 a w
end
section
open Go.RowKit
theorem toBytes (w:World) (xs:List UInt8): ∃c w1,(convert 9 59 (.string ⟨xs.toArray⟩)).run Tryz.prog w= .ok (.slice (some ⟨w.heap.size,0,none⟩) xs.length c) w1∧Rd w1 w.heap.size 0 xs∧xs.length≤c∧w.heap.size<w1.heap.size∧Fr [] w w1:=by
 have h:=run_bytes_of_string w 9 59 5 ⟨xs.toArray⟩ Tryz.underlying9 Tryz.underlying59 Tryz.underlying5
 rw [size_mk] at h
 refine ⟨_,_,h,?_,grownCap_ge _ _ _ _,by simp,((Fr.refl [] w).drew).alloc _⟩
 intro j hj
 refine (cell_blk (blk_new w.drew _) _).trans ?_
 simp only [bytesRow,Nat.zero_add,List.map_toArray]
 rw [Array.getElem?_append_left (by simpa using hj)]
 simp [hj]
def ans (r:R):List UInt8×Nat:=
 match r.2 with
 |none=>(r.1,0)
 |some k=>([],k)
theorem implDiag {xs:List UInt8} {M:Md} {n:Nat} {L:Lim} (hL:LimOf n L) (he:M.enc<4) (hlen:xs.length≤1099511627776) {r:R} (hr:Says xs L M M.sq r) (hroom:r.1.length≤room) (w:World) (hu:U8 w):
  Calls Tryz.prog 26 #[.string ⟨xs.toArray⟩,diagOpts .i64 M n] w fun e w'=>e= .returned (.tuple #[.string ⟨(ans r).1.toArray⟩,.int .i64 ((ans r).2:Int)])∧Fr [] w w':=by
 have K1:=Hz (implMode M hL he)
 have hl:=hL.le
 replace hr:=Hz hr
 replace hu:=Hz hu
 unfold diagOpts at *
 go_enter Tryz.func26,Tryz.ntmps26
 go_wp2_with fail
 refine (K1.out _).mono ?_
 rintro e w1 ⟨dg,dm,rfl,h1,h2,h3,h4,h5,h6,hf1⟩
 obtain ⟨c,w2,hconv,hrd,hcap,hsz,hf2⟩:=toBytes w1 xs
 have hF:Fr [] w w2:=(((Fr.refl [] w).alloc _).trans hf1).trans hf2
 have hu2:=hu.out.fr hF (by simp)
 have K2:=Hz (diagnose hl hrd hcap hlen hsz (hf2.blk h3 (by simp)) (hf2.blk h4 (by simp)) hu2 hr.out hroom)
 clear h1 h2 h3 h4 hu2
 go_wp2_with fail
 refine K2.out.mono ?_
 rintro e w3 ⟨v,rfl,hv,hf3⟩
 obtain ⟨s,q⟩:=r
 cases q with
 |none=>
  obtain rfl:=hv.nil
  go_wp2
  go_ret2
  exact ⟨rfl,hF.trans hf3⟩
 |some k=>
  have KK:=Hz (zzKind k v hv)
  obtain ⟨t,x,rfl⟩:=hv.ne
  go_wp2_with fail
  refine (KK.out _).mono ?_
  rintro e w4 ⟨rfl,rfl⟩
  go_wp2
  go_ret2
  exact ⟨rfl,hF.trans hf3⟩
end
section
section
open Go.RowKit
structure Nt where
 by_:List UInt8→List UInt8
 tx:List UInt8→R
 fl:Nat→Nat→List UInt8
 big:Nat→Tr→R
def pairs:List R→List (R×R)
 |a::b::l=>(a,b)::pairs l
 |_=>[]
def primT (fl:Nat→Nat→List UInt8) (ai v:Nat):R:=
 if ai=20 then txt [102,97,108,115,101] else if ai=21 then txt [116,114,117,101] else if ai=22 then txt [110,117,108,108]
 else if ai=23 then txt [117,110,100,101,102,105,110,101,100] else if ai=25∨ai=26∨ai=27 then txt (fl ai v)
 else thenR (txt [115,105,109,112,108,101,40]) (thenR (txt (dec v)) (txt [41]))
mutual
def note (N:Nt):Tr→R
 | .int false n=>txt (dec n)
 | .int true n=>txt (45::dec (n+1))
 | .str false b=>txt (N.by_ b)
 | .str true b=>N.tx b
 | .chk tx []=>txt (if tx then [34,34,95] else [39,39,95])
 | .chk tx (t::l)=>thenR (txt [40,95,32]) (arrR [41] 0 (note N t::notes N l))
 | .arr opn l=>thenR (txt (if opn then [91,95,32] else [91])) (arrR [93] 0 (notes N l))
 | .map opn l=>thenR (txt (if opn then [123,95,32] else [123])) (mapR [125] 0 (pairs (notes N l)))
 | .tag n t=>if n=2∨n=3 then N.big n t else thenR (txt (dec n)) (thenR (txt [40]) (thenR (note N t) (txt [41])))
 | .prim ai v=>primT N.fl ai v
def notes (N:Nt):List Tr→List R
 |[]=>[]
 |t::l=>note N t::notes N l
end
theorem notes_length (N:Nt): ∀l,(notes N l).length=l.length
 |[]=>rfl
 |t::l=>by simp [notes,notes_length N l]
theorem pairs_length: ∀(l:List R) (v:Nat),l.length=v*2→(pairs l).length=v
 |[],v,h=>by simp at h;simp [pairs];omega
 |[a],v,h=>by simp at h;omega
 |a::b::l,v,h=>by
  rw [pairs,List.length_cons,pairs_length l (v-1) (by simp at h;omega)]
  simp at h
  omega
mutual
def LeafOK (X:Cx) (N:Nt):Tr→Prop
 | .chk tx l=>l.length≤2147483647∧LeavesOK X N l
 | .arr opn l=>l.length≤2147483647∧LeavesOK X N l
 | .map opn l=>l.length≤2147483647∧LeavesOK X N l
 | .tag n t=>if n=2∨n=3 then ∀off off',Enc X.xs (.tag n t) off off'→ItemC X off off' (N.big n t) else LeafOK X N t
 | .int neg n=>neg=true→9223372036854775808≤n→ ∀off off',Enc X.xs (.int true n) off off'→ItemC X off off' (txt (45::dec (n+1)))
 | .str tx b=> ∀off off',Enc X.xs (.str tx b) off off'→ItemC X off off' (note N (.str tx b))
 | .prim ai v=>(ai=25∨ai=26∨ai=27)→ ∀off off',Enc X.xs (.prim ai v) off off'→ItemC X off off' (txt (N.fl ai v))
def LeavesOK (X:Cx) (N:Nt):List Tr→Prop
 |[]=>True
 |t::l=>LeafOK X N t∧LeavesOK X N l
end
end
section
open Go.RowKit
theorem hd31 {xs:List UInt8} {off m v o:Nat} (h:hd xs off= .ok (m,31,v,o)):o=off+1∧ ∃hl:off<xs.length,xs[off].toNat=m*32+31:=by
 obtain ⟨hl,h1,h2⟩:=byte_of_hd h
 refine ⟨?_,hl,by omega⟩
 unfold hd at h
 rw [List.getElem?_eq_getElem hl] at h
 dsimp only at h
 rw [if_neg (by omega),if_neg (by omega),if_pos h2] at h
 split at h
 ·cases h
 ·cases h;rfl
theorem Kids.pair {X:Cx}: ∀(rs:List R) (o o':Nat),rs.length%2=0→Kids X o o' rs→Kids2 X o o' (pairs rs)
 |[],o,o',h,hk=>by cases hk;exact .nil _
 |[a],o,o',h,hk=>by simp at h
 |a::b::l,o,o',h,hk=>by
  cases hk with
  |cons h1 hk=>
   cases hk with
   |cons h2 hk=>exact .cons h1 h2 (Kids.pair l _ _ (by simp at h;omega) hk)
theorem KidsO.pair {X:Cx}: ∀(rs:List R) (o o':Nat),rs.length%2=0→KidsO X o o' rs→KidsO2 X o o' (pairs rs)
 |[],o,o',h,hk=>by cases hk with|nil a b=>exact .nil a b
 |[a],o,o',h,hk=>by simp at h
 |a::b::l,o,o',h,hk=>by
  cases hk with
  |cons a1 b1 h1 hk=>
   cases hk with
   |cons a2 b2 h2 hk=>exact .cons a1 b1 h1 h2 (KidsO.pair l _ _ (by simp at h;omega) hk)
theorem getElem_of {xs:List UInt8} {off:Nat} {b:UInt8} (h:xs[off]? =some b): ∃hl:off<xs.length,xs[off]=b:=by
 obtain ⟨hl,e⟩:=List.getElem?_eq_some_iff.1 h
 exact ⟨hl,e⟩
mutual
theorem item_note (X:Cx) (N:Nt): ∀(t:Tr) (off off':Nat),Enc X.xs t off off'→LeafOK X N t→ItemC X off off' (note N t)
 | .int false n,off,off',h,hL=>by
  rw [Enc] at h
  obtain ⟨ai,h⟩:=h
  rw [note]
  exact fun w bs hS hl=>di_uint hS h hl
 | .int true n,off,off',h,hL=>by
  rw [LeafOK] at hL
  by_cases h63:9223372036854775808≤n
  ·rw [note]
   exact hL rfl h63 off off' h
  ·rw [Enc] at h
   obtain ⟨ai,h⟩:=h
   rw [note]
   exact fun w bs hS hl=>di_nint hS h (by omega) hl
 | .str tx b,off,off',h,hL=>by
  rw [LeafOK] at hL
  exact hL off off' h
 | .chk tx [],off,off',h,hL=>by
  rw [Enc] at h
  obtain ⟨v,o,h,hc⟩:=h
  rw [Chunks] at hc
  obtain ⟨b,hb,h255,rfl⟩:=hc
  obtain ⟨rfl,hl,hx⟩:=hd31 h
  obtain ⟨hl1,rfl⟩:=getElem_of hb
  rw [note]
  cases tx
  ·exact fun w bs hS hlen=>di_none_b hS hl hx hl1 h255 hlen
  ·exact fun w bs hS hlen=>di_none_t hS hl hx hl1 h255 hlen
 | .chk tx (t::l),off,off',h,hL=>by
  rw [Enc] at h
  rw [LeafOK] at hL
  obtain ⟨v,o,h,hc⟩:=h
  have hk:=kids_chunks X N tx (t::l) o off' hc hL.2
  rw [Chunks] at hc
  obtain ⟨b,mid,hb,h255,_,_,_⟩:=hc
  obtain ⟨rfl,hl,hx⟩:=hd31 h
  obtain ⟨hl1,rfl⟩:=getElem_of hb
  rw [note]
  rw [notes] at hk
  have hcap:(note N t::notes N l).length≤2147483647:=by rw [List.length_cons,notes_length,←List.length_cons (a:=t)];exact hL.1
  cases tx
  ·exact fun w bs hS hlen=>di_chunks_b hS hl hx hl1 h255 hk hcap rfl hlen
  ·exact fun w bs hS hlen=>di_chunks_t hS hl hx hl1 h255 hk hcap rfl hlen
 | .arr false l,off,off',h,hL=>by
  rw [Enc] at h
  rw [LeafOK] at hL
  obtain ⟨ai,o,h,h31,he⟩:=h
  have hk:=kids_encs X N l o off' he hL.2
  rw [note]
  exact fun w bs hS hlen=>di_list4 hS h h31 hk (notes_length N l) hL.1 rfl hlen
 | .arr true l,off,off',h,hL=>by
  rw [Enc] at h
  rw [LeafOK] at hL
  obtain ⟨v,o,h,he⟩:=h
  have hk:=kids_opens X N l o off' he hL.2
  obtain ⟨rfl,hl,hx⟩:=hd31 h
  rw [note]
  exact fun w bs hS hlen=>di_oarr hS hl hx hk (by rw [notes_length];exact hL.1) rfl hlen
 | .map false l,off,off',h,hL=>by
  rw [Enc] at h
  rw [LeafOK] at hL
  obtain ⟨ai,v,o,h,h31,hlv,he⟩:=h
  have hk:=(kids_encs X N l o off' he hL.2).pair _ _ _ (by rw [notes_length];omega)
  rw [note]
  exact fun w bs hS hlen=>di_list5 hS h h31 hk (pairs_length _ _ (by rw [notes_length];exact hlv)) (by omega) rfl hlen
 | .map true l,off,off',h,hL=>by
  rw [Enc] at h
  rw [LeafOK] at hL
  obtain ⟨v,o,h,hev,he⟩:=h
  have hk:=(kids_opens X N l o off' he hL.2).pair _ _ _ (by rw [notes_length];exact hev)
  obtain ⟨rfl,hl,hx⟩:=hd31 h
  rw [note]
  exact fun w bs hS hlen=>di_omap hS hl hx hk (by rw [pairs_length _ (l.length/2) (by rw [notes_length];omega)];omega) rfl hlen
 | .tag n t,off,off',h,hL=>by
  rw [LeafOK] at hL
  rw [note]
  by_cases hn:n=2∨n=3
  ·rw [if_pos hn] at hL ⊢
   exact hL off off' h
  ·rw [if_neg hn] at hL ⊢
   rw [Enc] at h
   obtain ⟨ai,o,h,he⟩:=h
   have hC:=item_note X N t o off' he hL
   exact fun w bs hS hlen=>di_tag hS h (fun e=>hn (.inl e)) (fun e=>hn (.inr e)) hC rfl hlen
 | .prim ai v,off,off',h,hL=>by
  rw [LeafOK] at hL
  rw [note]
  unfold primT
  by_cases c0:ai=20
  ·subst c0;rw [if_pos rfl];rw [Enc] at h;exact fun w bs hS hlen=>di_false hS h hlen
  ·rw [if_neg c0]
   by_cases c1:ai=21
   ·subst c1;rw [if_pos rfl];rw [Enc] at h;exact fun w bs hS hlen=>di_true hS h hlen
   ·rw [if_neg c1]
    by_cases c2:ai=22
    ·subst c2;rw [if_pos rfl];rw [Enc] at h;exact fun w bs hS hlen=>di_null hS h hlen
    ·rw [if_neg c2]
     by_cases c3:ai=23
     ·subst c3;rw [if_pos rfl];rw [Enc] at h;exact fun w bs hS hlen=>di_undefined hS h hlen
     ·rw [if_neg c3]
      by_cases c4:ai=25∨ai=26∨ai=27
      ·rw [if_pos c4];exact hL c4 off off' h
      ·rw [if_neg c4];rw [Enc] at h;exact fun w bs hS hlen=>di_simple hS h (by omega) rfl hlen
termination_by t=>SizeOf.sizeOf t
theorem kids_encs (X:Cx) (N:Nt): ∀(l:List Tr) (o o':Nat),Encs X.xs l o o'→LeavesOK X N l→Kids X o o' (notes N l)
 |[],o,o',h,hL=>by
  rw [Encs] at h
  subst h
  rw [notes]
  exact .nil _
 |t::l,o,o',h,hL=>by
  rw [Encs] at h
  rw [LeavesOK] at hL
  obtain ⟨mid,h1,h2⟩:=h
  rw [notes]
  exact .cons (item_note X N t o mid h1 hL.1) (kids_encs X N l mid o' h2 hL.2)
termination_by l=>SizeOf.sizeOf l
theorem kids_opens (X:Cx) (N:Nt): ∀(l:List Tr) (o o':Nat),Opens X.xs l o o'→LeavesOK X N l→KidsO X o o' (notes N l)
 |[],o,o',h,hL=>by
  rw [Opens] at h
  obtain ⟨b,hb,h255,rfl⟩:=h
  obtain ⟨hl1,rfl⟩:=getElem_of hb
  rw [notes]
  exact .nil hl1 h255
 |t::l,o,o',h,hL=>by
  rw [Opens] at h
  rw [LeavesOK] at hL
  obtain ⟨b,mid,hb,h255,h1,h2⟩:=h
  obtain ⟨hl1,rfl⟩:=getElem_of hb
  rw [notes]
  exact .cons hl1 h255 (item_note X N t o mid h1 hL.1) (kids_opens X N l mid o' h2 hL.2)
termination_by l=>SizeOf.sizeOf l
theorem kids_chunks (X:Cx) (N:Nt) (tx:Bool): ∀(l:List Tr) (o o':Nat),Chunks X.xs tx l o o'→LeavesOK X N l→KidsO X o o' (notes N l)
 |[],o,o',h,hL=>by
  rw [Chunks] at h
  obtain ⟨b,hb,h255,rfl⟩:=h
  obtain ⟨hl1,rfl⟩:=getElem_of hb
  rw [notes]
  exact .nil hl1 h255
 |t::l,o,o',h,hL=>by
  rw [Chunks] at h
  rw [LeavesOK] at hL
  obtain ⟨b,mid,hb,h255,_,h1,h2⟩:=h
  obtain ⟨hl1,rfl⟩:=getElem_of hb
  rw [notes]
  exact .cons hl1 h255 (item_note X N t o mid h1 hL.1) (kids_chunks X N tx l mid o' h2 hL.2)
termination_by l=>SizeOf.sizeOf l
end
end
section
open Go.RowKit
theorem thenR_nil (a:R):thenR a ([],none)=a:=by
 obtain ⟨s,q⟩:=a
 cases q<;>simp [thenR]
theorem enc_lt {xs:List UInt8} {t:Tr} {off off':Nat} (h:Enc xs t off off'):off<xs.length:=by
 obtain ⟨b,hb,_⟩:=enc_tag h
 exact (List.getElem?_eq_some_iff.1 hb).1
end
end
section
open Go.RowKit
def kidsF (f:Nat→Option (Tr×Nat)):Nat→Nat→Option (List Tr×Nat)
 |0,off=>some ([],off)
 |n+1,off=>match f off with
  |none=>none
  |some (t,o)=>match kidsF f n o with
   |none=>none
   |some (l,o')=>some (t::l,o')
def openF (f:Nat→Option (Tr×Nat)) (ok:Tr→Bool) (xs:List UInt8):Nat→Nat→Option (List Tr×Nat)
 |0,_=>none
 |g+1,off=>match xs[off]? with
  |none=>none
  |some b=>if b.toNat=255 then some ([],off+1) else match f off with
   |none=>none
   |some (t,o)=>if ok t then (match openF f ok xs g o with
    |none=>none
    |some (l,o')=>some (t::l,o')) else none
def Tr.isS (tx:Bool):Tr→Bool
 | .str u _=>u==tx
 |_=>false
def treeF (xs:List UInt8):Nat→Nat→Option (Tr×Nat)
 |0,_=>none
 |k+1,off=>match hd xs off with
  | .error _=>none
  | .ok (m,ai,v,o)=>
   if m<2 then some (.int (m==1) v,o)
   else if m<4 then
    (if ai=31 then (openF (treeF xs k) (Tr.isS (m==3)) xs (xs.length+1) o).map (fun r=>(.chk (m==3) r.1,r.2))
    else if xs.length-o<v then none else some (.str (m==3) ((xs.drop o).take v),o+v))
   else if m=4 then
    (if ai=31 then (openF (treeF xs k) (fun _=>true) xs (xs.length+1) o).map (fun r=>(.arr true r.1,r.2))
    else if xs.length-o<v then none else (kidsF (treeF xs k) v o).map (fun r=>(.arr false r.1,r.2)))
   else if m=5 then
    (if ai=31 then (openF (treeF xs k) (fun _=>true) xs (xs.length+1) o).bind (fun r=>if r.1.length%2=0 then some (.map true r.1,r.2) else none)
    else if xs.length-o<v then none else (kidsF (treeF xs k) (v*2) o).map (fun r=>(.map false r.1,r.2)))
   else if m=6 then (treeF xs k o).map (fun r=>(.tag v r.1,r.2))
   else some (.prim ai v,o)
theorem kids_enc {xs:List UInt8} {f:Nat→Option (Tr×Nat)} (hf: ∀off t o,f off=some (t,o)→Enc xs t off o): ∀n off l o,kidsF f n off=some (l,o)→l.length=n∧Encs xs l off o
 |0,off,l,o,h=>by
  rw [kidsF] at h
  injection h with h
  injection h with h1 h2
  subst h1 h2
  exact ⟨rfl,by rw [Encs]⟩
 |n+1,off,l,o,h=>by
  rw [kidsF] at h
  split at h
  ·cases h
  ·rename_i t o1 h1
   split at h
   ·cases h
   ·rename_i l' o2 h2
    injection h with h
    injection h with e1 e2
    subst e1 e2
    obtain ⟨a,b⟩:=kids_enc hf n o1 l' o2 h2
    refine ⟨by rw [List.length_cons,a],?_⟩
    rw [Encs]
    exact ⟨o1,hf _ _ _ h1,b⟩
theorem opens_enc {xs:List UInt8} {f:Nat→Option (Tr×Nat)} (hf: ∀off t o,f off=some (t,o)→Enc xs t off o): ∀g off l o,openF f (fun _=>true) xs g off=some (l,o)→Opens xs l off o
 |0,off,l,o,h=>by rw [openF] at h;cases h
 |g+1,off,l,o,h=>by
  rw [openF] at h
  split at h
  ·cases h
  ·rename_i b hb
   split at h
   ·rename_i h255
    injection h with h
    injection h with h1 h2
    subst h1 h2
    rw [Opens]
    exact ⟨b,hb,h255,rfl⟩
   ·rename_i h255
    split at h
    ·cases h
    ·rename_i t o1 h1
     rw [if_pos rfl] at h
     split at h
     ·cases h
     ·rename_i l' o2 h2
      injection h with h
      injection h with e1 e2
      subst e1 e2
      rw [Opens]
      exact ⟨b,o1,hb,h255,hf _ _ _ h1,opens_enc hf g o1 l' o2 h2⟩
theorem isS_str {tx:Bool} {t:Tr} (h:t.isS tx=true): ∃s,t= .str tx s:=by
 unfold Tr.isS at h
 split at h
 ·simp at h;subst h;exact ⟨_,rfl⟩
 ·cases h
theorem chunks_enc {xs:List UInt8} {f:Nat→Option (Tr×Nat)} (tx:Bool) (hf: ∀off t o,f off=some (t,o)→Enc xs t off o): ∀g off l o,openF f (Tr.isS tx) xs g off=some (l,o)→Chunks xs tx l off o
 |0,off,l,o,h=>by rw [openF] at h;cases h
 |g+1,off,l,o,h=>by
  rw [openF] at h
  split at h
  ·cases h
  ·rename_i b hb
   split at h
   ·rename_i h255
    injection h with h
    injection h with h1 h2
    subst h1 h2
    rw [Chunks]
    exact ⟨b,hb,h255,rfl⟩
   ·rename_i h255
    split at h
    ·cases h
    ·rename_i t o1 h1
     split at h
     ·rename_i hs
      split at h
      ·cases h
      ·rename_i l' o2 h2
       injection h with h
       injection h with e1 e2
       subst e1 e2
       rw [Chunks]
       exact ⟨b,o1,hb,h255,isS_str hs,hf _ _ _ h1,chunks_enc tx hf g o1 l' o2 h2⟩
     ·cases h
theorem tree_enc {xs:List UInt8} (hlen:xs.length≤1099511627776): ∀k off t o,treeF xs k off=some (t,o)→Enc xs t off o
 |0,off,t,o,h=>by rw [treeF] at h;cases h
 |k+1,off,t,o',h=>by
  have IH:=tree_enc hlen k
  rw [treeF] at h
  split at h
  ·cases h
  ·rename_i m ai v o hh
   obtain ⟨f1,f2,f3,f4⟩:=hd_off hh
   obtain ⟨g1,g2⟩:=hd_val hh
   split at h
   ·rename_i hm
    injection h with h
    injection h with h1 h2
    subst h1 h2
    rw [Enc]
    refine ⟨ai,?_⟩
    rw [hh]
    rcases (show m=0∨m=1 by omega) with rfl|rfl<;>rfl
   ·split at h
    ·have hms:majS (m==3)=m:=by
      rcases (show m=2∨m=3 by omega) with rfl|rfl<;>rfl
     split at h
     ·rename_i h31
      subst h31
      rw [Option.map_eq_some_iff] at h
      obtain ⟨⟨l,o2⟩,h1,h2⟩:=h
      injection h2 with e1 e2
      subst e1 e2
      rw [Enc]
      exact ⟨v,o,by rw [hh,hms],chunks_enc _ IH _ _ _ _ h1⟩
     ·rename_i h31
      split at h
      ·cases h
      ·injection h with h
       injection h with h1 h2
       subst h1 h2
       rw [Enc]
       exact ⟨ai,v,o,by rw [hh,hms],h31,by omega,by omega,rfl,rfl⟩
    ·split at h
     ·rename_i hm4
      subst hm4
      split at h
      ·rename_i h31
       subst h31
       rw [Option.map_eq_some_iff] at h
       obtain ⟨⟨l,o2⟩,h1,h2⟩:=h
       injection h2 with e1 e2
       subst e1 e2
       rw [Enc]
       exact ⟨v,o,hh,opens_enc IH _ _ _ _ h1⟩
      ·rename_i h31
       split at h
       ·cases h
       ·rw [Option.map_eq_some_iff] at h
        obtain ⟨⟨l,o2⟩,h1,h2⟩:=h
        injection h2 with e1 e2
        subst e1 e2
        rw [Enc]
        obtain ⟨a,b⟩:=kids_enc IH _ _ _ _ h1
        exact ⟨ai,o,by rw [a];exact hh,h31,b⟩
     ·split at h
      ·rename_i hm5
       subst hm5
       split at h
       ·rename_i h31
        subst h31
        rw [Option.bind_eq_some_iff] at h
        obtain ⟨⟨l,o2⟩,h1,h2⟩:=h
        split at h2
        ·rename_i h2l
         injection h2 with h2
         injection h2 with e1 e2
         subst e1 e2
         rw [Enc]
         exact ⟨v,o,hh,h2l,opens_enc IH _ _ _ _ h1⟩
        ·cases h2
       ·rename_i h31
        split at h
        ·cases h
        ·rw [Option.map_eq_some_iff] at h
         obtain ⟨⟨l,o2⟩,h1,h2⟩:=h
         injection h2 with e1 e2
         subst e1 e2
         rw [Enc]
         obtain ⟨a,b⟩:=kids_enc IH _ _ _ _ h1
         exact ⟨ai,v,o,hh,h31,a,b⟩
      ·split at h
       ·rename_i hm6
        subst hm6
        rw [Option.map_eq_some_iff] at h
        obtain ⟨⟨l,o2⟩,h1,h2⟩:=h
        injection h2 with e1 e2
        subst e1 e2
        rw [Enc]
        exact ⟨ai,o,hh,IH _ _ _ h1⟩
       ·injection h with h
        injection h with h1 h2
        subst h1 h2
        rw [Enc]
        rw [hh]
        rw [show m=7 by omega]
end
end Go.Proofs.YteodinhkhhaafaaGreatDoor
