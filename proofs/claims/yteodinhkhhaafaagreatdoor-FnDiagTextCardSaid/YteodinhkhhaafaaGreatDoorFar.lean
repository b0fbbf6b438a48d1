/- Walks of the program, and plain facts. -/
import Derived.Test.YteodinhkhhaafaaGreatDoorFag
import Derived.Test.YteodinhkhhaafaaGreatDoorFaq
import Derived.Test.YteodinhkhhaafaaGreatDoorFab
import Derived.ChangeSame
import Derived.ChangeVars
import Derived.RowKit
import Derived.LaidLaws
import Derived.LaidMore
import Derived.OpenShut
import Derived.ProofKit
import Derived.Stop.Joined
import Derived.PinnedBridge
import Derived.Lib.LaidIn
import Derived.Lib.LaidU8T
import Derived.Carry
import Derived.ChangeCalls
set_option linter.unusedVariables false
set_option linter.unusedSimpArgs false
set_option maxRecDepth 100000
set_option maxHeartbeats 6400000
namespace Go.Proofs.YteodinhkhhaafaaGreatDoor
section
section
open Go.RowKit
def LimOf (n:Nat) (L:Lim):Prop:=(n=0∧L=⟨32,131072,131072⟩)∨(16≤n∧n≤60∧L=⟨n,n,n⟩)
theorem LimOf.le {n:Nat} {L:Lim} (h:LimOf n L):L.nest≤65535∧L.el≤2147483647∧L.pa≤2147483647:=by
 rcases h with ⟨_,rfl⟩|⟨h1,h2,rfl⟩
 ·decide
 ·dsimp only;omega
theorem decMode {n:Nat} {L:Lim} (h:LimOf n L) (w:World):
  Calls Tryz.prog 113 #[decOpts n n n] w fun e w'=> ∃dm,e= .returned (.tuple #[.pointer (some ⟨dm,0,none⟩),.nilIface])∧w.heap.size≤dm∧DecM w' dm L.nest L.el L.pa∧Fr [] w w':=by
 rcases h with ⟨rfl,rfl⟩|⟨h1,h2,rfl⟩
 ·exact decMode_def w
 ·exact decMode_lim n h1 h2 w
def diagOpts (k:IntKind) (M:Md) (n:Nat):Value:= .agg #[.int k (M.enc:Int),.bool M.sp,.bool M.tx,.bool M.em,.bool M.sq,.bool M.pr,.int .i64 (n:Int),.int .i64 (n:Int),.int .i64 (n:Int)]
def DgM (w:World) (dg dm:Nat) (M:Md):Prop:=
 w.heap[dg]? =some (.cells #[.int .u8 (M.enc:Int),.bool M.sp,.bool M.tx,.bool M.em,.bool M.sq,.bool M.pr,.pointer (some ⟨dm,0,none⟩)] 139 (0,0))
def DPost (M:Md) (L:Lim) (w:World) (last:Value) (e:Ending) (w':World):Prop:=
 ∃dg dm,e= .returned (.tuple #[.pointer (some ⟨dg,0,none⟩),last])∧w.heap.size≤dg∧w.heap.size≤dm∧DgM w' dg dm M∧DecM w' dm L.nest L.el L.pa∧dg<w'.heap.size∧dm<w'.heap.size∧Fr [] w w'
theorem dgMode (M:Md) {n:Nat} {L:Lim} (h:LimOf n L) (he:M.enc<4) (w:World):
  Calls Tryz.prog 102 #[diagOpts .u8 M n] w (DPost M L w .nilIface):=by
 have K:=Hz (decMode h);have g1:(M.enc:Int)<4:=by omega
 obtain ⟨enc,sp,tx,em,sq,pr⟩:=M;dsimp only at he g1;unfold diagOpts;go_enter Tryz.func102,Tryz.ntmps102
 go_wp2_with (go_at_call 115;go_in)
 refine (K.out _).mono ?_
 rintro e w1 ⟨dm,rfl,hdm,hM,hf⟩;have hb:w1.heap[w.heap.size]? =some (.cells #[.int .u8 (enc:Int),.bool sp,.bool tx,.bool em,.bool sq,.bool pr,.int .i64 (n:Int),.int .i64 (n:Int),.int .i64 (n:Int)] 135 (0,0)):=hf.blk (blk_new w _) (by simp)
 have c0:=cell_blk hb 0;have c1:=cell_blk hb 1;have c2:=cell_blk hb 2;have c3:=cell_blk hb 3;have c4:=cell_blk hb 4;have c5:=cell_blk hb 5;simp only [List.getElem?_toArray,List.getElem?_cons_zero,List.getElem?_cons_succ] at c0 c1 c2 c3 c4 c5;have hdl:=blk_lt' hM;have hsz:=hf.size;have hsz0:(w.alloc (.cells #[.int .u8 (enc:Int),.bool sp,.bool tx,.bool em,.bool sq,.bool pr,.int .i64 (n:Int),.int .i64 (n:Int),.int .i64 (n:Int)] 135)).heap.size=w.heap.size+1:=by simp
 rw [hsz0] at hdm hsz;have hF:Fr [] w w1:=((Fr.refl [] w).alloc _).trans hf;clear hb;go_wp2
 go_ret2
 refine ⟨_,dm,rfl,by omega,by omega,blk_new' _ _ (by simp),blk_alloc hM _,by simp,by simp;omega,hF.alloc _⟩
theorem zzMode (M:Md) {n:Nat} {L:Lim} (h:LimOf n L) (he:M.enc<4) (w:World):
  Calls Tryz.prog 85 #[diagOpts .u8 M n] w (DPost M L w .nilIface):=by
 have K:=Hz (dgMode M h he);obtain ⟨enc,sp,tx,em,sq,pr⟩:=M;unfold diagOpts at *
 go_enter Tryz.func85,Tryz.ntmps85
 go_wp2_with fail
 refine (K.out _).mono ?_
 rintro e w1 ⟨dg,dm,rfl,h1,h2,h3,h4,h5,h6,hf⟩;have hsz0:(w.alloc (.cells #[.int .u8 (enc:Int),.bool sp,.bool tx,.bool em,.bool sq,.bool pr,.int .i64 (n:Int),.int .i64 (n:Int),.int .i64 (n:Int)] 135)).heap.size=w.heap.size+1:=by simp
 rw [hsz0] at h1 h2;go_wp2
 go_ret2
 exact ⟨dg,dm,rfl,by omega,by omega,h3,h4,h5,h6,((Fr.refl [] w).alloc _).trans hf⟩
theorem implMode (M:Md) {n:Nat} {L:Lim} (h:LimOf n L) (he:M.enc<4) (w:World):
  Calls Tryz.prog 56 #[diagOpts .i64 M n] w (DPost M L w (.bool true)):=by
 have K:=Hz (zzMode M h he);obtain ⟨enc,sp,tx,em,sq,pr⟩:=M;dsimp only at he;have g0: ¬(enc:Int)<0:=by omega
 have g1: ¬(255:Int)<(enc:Int):=by omega
 have g2:IntKind.u8.wrap (enc:Int)=(enc:Int):=by
  show (enc:Int)%256=_
  omega
 unfold diagOpts at *
 go_enter Tryz.func56,Tryz.ntmps56
 go_wp2_with fail
 refine (K.out _).mono ?_
 rintro e w1 ⟨dg,dm,rfl,h1,h2,h3,h4,h5,h6,hf⟩;have hsz0:(w.alloc (.cells #[.int .i64 (enc:Int),.bool sp,.bool tx,.bool em,.bool sq,.bool pr,.int .i64 (n:Int),.int .i64 (n:Int),.int .i64 (n:Int)] 24)).heap.size=w.heap.size+1:=by simp
 rw [hsz0] at h1 h2;go_wp2
 go_quiet (fail)
 go_wp2
 go_ret2
 exact ⟨dg,dm,rfl,by omega,by omega,h3,h4,h5,h6,(((Fr.refl [] w).alloc _).trans hf).drewN _⟩
end
section
open Go.RowKit
theorem di_wellformed {X:Cx} {off:Nat} {bs:List UInt8} {w:World} (h:St X off bs w) (hn:X.L.nest≤65535) (hel:X.L.el≤2147483647) (hpa:X.L.pa≤2147483647) (more:Bool) (r:Option Nat) (hr:wfTop X.L X.xs more off r):
  Calls Tryz.prog 103 #[.pointer (some ⟨X.di,0,none⟩),.bool more] w fun e w'=> ∃v,e= .returned v∧ErrO r v∧St X off bs w'∧Gr X.B [X.d,X.wb] w w':=by
 have k1:=h.i1;have d1:=h.dec.c1;have hle:=h.dec.le;have K:=Hz (wellformed hn hel hpa h.dec h.dm h.n3 more r hr);go_enter Tryz.func103,Tryz.ntmps103
 go_wp2_with fail
 refine K.out.mono ?_
 rintro e w1 ⟨v,rfl,hv,⟨u,hu⟩,hf⟩;have k1':w1.cell? ⟨X.di,1,none⟩=some (.pointer (some ⟨X.d,0,none⟩)):=hf.cell k1 (by simpa using h.n1)
 have c1:w1.cell? ⟨X.d,1,none⟩=some u:=cell_blk hu.blk 1;have f1:w1.frozen? ⟨X.d,1,none⟩=false:=frozen_blk hu.blk 1;go_wp2;go_ret
 have hF:Fr [X.d] w (w1.setCell ⟨X.d,1,none⟩ (.int .i64 (off:Int))):=hf.setCell (by simp) _
 exact ⟨_,rfl,hv,h.moved hF (DecV.dec (x:=(off:Int)) (hu.set _) off rfl hle),h.grF hF⟩
theorem newDiagnose {w:World} {db o c dm dg:Nat} {xs:List UInt8} {M:Md} {L:Lim} (hrd:Rd w db o xs) (hcap:xs.length≤c) (hlen:xs.length≤1099511627776) (hdb:db<w.heap.size) (hM:DgM w dg dm M) (hD:DecM w dm L.nest L.el L.pa) (hu:U8 w):
  Calls Tryz.prog 86 #[.slice (some ⟨db,o,none⟩) xs.length c,.pointer (some ⟨dm,0,none⟩),.pointer (some ⟨dg,0,none⟩)] w fun e w'=> ∃X:Cx,e= .returned (.pointer (some ⟨X.di,0,none⟩))∧X.xs=xs∧X.L=L∧X.M=M∧X.dg=dg∧X.db=db∧X.o=o∧X.c=c∧w.heap.size≤X.B∧w.heap.size≤X.d∧w.heap.size≤X.wb∧St X 0 [] w'∧Fr [] w w':=by
 have l1:=blk_lt' hM;have l2:=blk_lt' hD;have lu:=hu.size;replace hu:=Hz hu;go_enter Tryz.func86,Tryz.ntmps86
 go_wp2;go_ret
 refine ⟨⟨w.heap.size+3,w.heap.size+2,dg,w.heap.size,w.heap.size+1,db,o,c,dm,xs,L,M⟩,rfl,rfl,rfl,rfl,rfl,rfl,rfl,rfl,by simp,by simp,by simp,?_,?_⟩
 ·refine ⟨blk_new' _ _ (by simp),blk_alloc (blk_alloc (blk_alloc hM _) _) _,⟨blk_alloc (blk_alloc (blk_new' _ _ (by simp)) _) _,?_,hcap,hlen,by dsimp only;omega,by simp⟩,blk_alloc (blk_alloc (blk_alloc hD _) _) _,⟨_,blk_alloc (blk_new' _ _ (by simp)) _,Row.nil _ _⟩,by simp,by simp,by dsimp only;omega,by simp,by simp,by dsimp only;omega,by dsimp only;omega,by dsimp only;omega,?_,by dsimp only;omega,by dsimp only;omega,by dsimp only;omega⟩
  rotate_left
  ·exact hu.out.fr (S:=[]) (by repeat (first|with_reducible exact Fr.refl _ _|with_reducible refine Fr.alloc ?_ _)) (by simp)
  exact hrd.fr (S:=[]) (by repeat (first|with_reducible exact Fr.refl _ _|with_reducible refine Fr.alloc ?_ _)) (by simp)
 ·repeat (first|with_reducible exact Fr.refl _ _|with_reducible refine Fr.alloc ?_ _)
end
end
section
open Go.RowKit
section
variable {X:Cx} {off:Nat} {bs:List UInt8} {w:World}
theorem di_uint (h:St X off bs w) {ai v o1:Nat} (hh:hd X.xs off= .ok (0,ai,v,o1)) (hlen:bs.length+(dec v).length≤room):
  Calls Tryz.prog 105 #[.pointer (some ⟨X.di,0,none⟩)] w (IPost X o1 bs (dec v,none) w):=by
 obtain ⟨hl,hb1,hb2⟩:=hd_byte hh;have hv:=(hd_val hh).1;have hai:=(hd_off hh).2.2.2;have hai2:=(hd_off hh).2.2.1;have k1:=h.i1;have k2:=h.i2;have d0:=h.dec.c0;have d1:=h.dec.c1;have ha:=h.dec.at_ off hl;have hm:=h.dec.len;have KT:=fun n=>nextCBORType (h.dec.drewN n) hl
 rw [hb1] at KT;have KH:=fun n=>getHead (h.dec.drewN n) hh
 have KF:=Hz (formatUint v hv);replace KT:=Hz KT;replace KH:=Hz KH;replace hh:=Hz hh;have g95:((X.xs[off].toNat:Int)==95)=false:=by simp;omega
 have g127:((X.xs[off].toNat:Int)==127)=false:=by simp;omega
 have g159:((X.xs[off].toNat:Int)==159)=false:=by simp;omega
 have g191:((X.xs[off].toNat:Int)==191)=false:=by simp;omega
 generalize (X.xs[off].toNat:Int)=x0 at *
 clear hb1 hb2 hai;have b1:(off:Int)<(X.xs.length:Int):=by omega
 have b2:(0:Int)≤(off:Int):=by omega
 have b3:(off:Int).toNat=off:=by omega
 go_enter Tryz.func105,Tryz.ntmps105
 go_wp2
 go_quiet (fail)
 go_wp2_with fail
 refine (KT.out _).mono ?_
 rintro e w1 ⟨rfl,nm,rfl⟩;go_wp2_with fail
 refine (KH.out _).mono ?_
 rintro e w1 ⟨rfl,hD,hf⟩;have h1:=(h.drewN _).moved hf hD;have G1:=h.grF (((Fr.refl [X.d] w).drewN _).trans hf);have k1:=h1.i1;have k2:=h1.i2;go_wp2
 go_region_held3 (fun w'=>w'.cell? ⟨X.di,2,none⟩=some (.pointer (some ⟨X.wb,0,none⟩))) (first|go_keep|exact h2.i2|exact h3.i2)
  (first|(go_at_call 122;refine (KF.out _).mono ?_;rintro e w2 ⟨rfl,hf2⟩;have h2:=St.kept (by first|exact h1|exact St.drewN h1 _) hf2;have G2:=(St.gr0 (by first|exact h1|exact St.drewN h1 _) hf2))|(go_at_call 104;refine (writeString h2.buf h2.lw h2.hB (dec v) hlen).mono ?_;rintro e w3 ⟨⟨u3,rfl⟩,hb3,hg3⟩;have h3:=h2.wrote hg3 hb3))
 go_wp2;go_ret
 exact ⟨_,_,rfl,rfl,fun _=>rfl,h3,(G1.drewN 1).trans (Gr.trans G2 (St.grW hg3))⟩
end
end
section
open Go.ChangeShapes Go.WideShapes Go.RowKit
theorem Tryz.own:ownKnob Tryz.prog.godebug=none:=by kernel_rfl
abbrev laidU:List (String×DataW Unit):=[("unicode/utf8.acceptRanges",Rows.laid_unicode_utf8_acceptRanges),("unicode/utf8.first",Rows.laid_unicode_utf8_first)]
noncomputable def laidWorld (os:Os):World:=
 let w0:=World.holding Tryz.prog os ⟨#[],#[],[]⟩
 let put (h:Array Obj) (g:Nat) (cs:Array Value):Array Obj:=h.modify g fun
  | .cells _ t frozen=> .cells cs t frozen
  |o=>o
 let h1:=put w0.heap 0 (Lib.firstTab.map fun z=>Value.int .u8 z).toArray
 let h2:=put h1 1 ((List.range 16).flatMap fun i=>[Value.int .u8 (Lib.accLo i),Value.int .u8 (Lib.accHi i)]).toArray
 {w0 with heap:=h2}
def renU:Shelf.Ren:={f:=fun k=>k,g:=fun k=>if k=3 then 0 else 1,t:=fun k=>if k=5 then 5 else if k=119 then 308 else if k=138 then 310 else 311}
theorem u8Types:U8Types Tryz.prog renU:=⟨Tryz.underlying5,Tryz.underlying308,Tryz.underlying310,Tryz.underlying311⟩
theorem laid_met (os:Os) (args:Array Value):laidMetH Tryz.prog laidU ((laidWorld os).forCall (fun _ _=>0) ⟨#[],args,[]⟩).memory:=by
 rw [MakeChecks.laidMetH_plain _ _ _ (by kernel_rfl)]
 exact (LaidIn.of_run (l:=laidU) [1,0] 8 (by kernel_rfl) (by kernel_rfl) (by kernel_rfl) (by kernel_rfl)).met
theorem u8_of_laid {W:World} (h:laidMetH Tryz.prog laidU W):U8 W:=by
 rw [MakeChecks.laidMetH_plain _ _ _ (by kernel_rfl)] at h
 have hf:Rows.laid_unicode_utf8_first=Lib.firstData:=Pinned.utf8First_eq;have ha:(Rows.laid_unicode_utf8_acceptRanges:DataW Unit)=Lib.acceptData:=by kernel_rfl
 have h1:=Lib.laidMet.reads h (.head _);have h2:=Lib.laidMet.reads h (.tail _ (.head _));rw [ha] at h1;rw [hf] at h2;exact utf8Tabs_of_readsT (ρ:=renU) u8Types ⟨by kernel_rfl,by kernel_rfl,by kernel_rfl,by kernel_rfl,by kernel_rfl,by kernel_rfl,by kernel_rfl⟩ h2 h1
theorem trodAll_below {H:Type} {enc:TypeId×Value→H} {W W':World} (hb:Below W.heap.size W W'): ∀{ts:List TypeId} {vs:List Value} {ds:List (DataW H)} {ps:List MemPlace},
  DataW.TrodAll enc Tryz.prog W 0 (fun _=>true) true ts vs ds ps→(∀t,t∈ts→Tryz.prog.readableRec t=true∧t<Tryz.prog.types.size)→(∀x,x∈ps→x.block<W.heap.size)→DataW.TrodAll enc Tryz.prog W' 0 (fun b=>decide (b<W.heap.size)) true ts vs ds ps
 |[],_,_,_,h,_,_=>by
  obtain ⟨rfl,rfl,rfl⟩:=trodAll_nil h;exact trodAll_mk0
 |t::ts,_,_,_,h,ht,hp=>by
  obtain ⟨v,vs1,d,ds1,a,b,rfl,rfl,rfl,h1,h2⟩:=trodAll_cons h;exact ⟨a,b,Below.trod Tryz.laidOut (ht t (by simp)).1 (ht t (by simp)).2 h1 hb (fun x hx=>hp x (by simp [hx])),trodAll_below hb h2 (fun u hu=>ht u (by simp [hu])) (fun x hx=>hp x (by simp [hx])),rfl⟩
theorem lift_row {k:FuncId} {fn:Func} {s:ChangeSpec} (os:Os) (started:os.Started) {H:Type} (enc:TypeId×Value→H) (hno:Tryz.checked.prog.inits.idxOf? k=none) (hfn:Tryz.prog.funcs[k]? =some fn) (hv:s.vars=[]) (hr:fn.resultTypes= #[4])
  (hsp: ∀ds:List (DataW H),ds.length=fn.params.toList.length→s.fn H (ds++[])={results:=[.lit (.bool true)],args:=ds})
  (hp: ∀t,t∈fn.params.toList→Tryz.prog.readableRec t=true∧t<Tryz.prog.types.size)
  (witness: ∃(w:World) (tape:Tape) (i:Input),w.os=os∧(w.forCall tape i).Shaped Tryz.prog∧i.vars=[]∧Input.okWide Tryz.prog (w.forCall tape i) .any w.heap.size k i∧
   ((s.pre enc Tryz.prog fn [] false (w.forCall tape i).memory i.args∧laidMetH Tryz.prog laidU (w.forCall tape i).memory)∧sizedMet enc Tryz.prog fn (OpenSpec.ofChange s) false (w.forCall tape i).memory i.args)∧({}:Assume).holds Tryz.prog (lone (Frame.enter Tryz.prog k i.args .normal) [] (w.forCall tape i)))
  (walk: ∀(W:World) (base:Nat) (args:Array Value) (ds:List (DataW H)) (ps:List MemPlace),(∀(j:Nat) t v,fn.params[j]? =some t→args[j]? =some v→Value.okWide Tryz.prog W .any base t v)→
   DataW.TrodAll enc Tryz.prog W 0 (fun _=>true) true fn.params.toList args.toList ds ps→U8 W→Calls Tryz.prog k args W fun e W'=>e= .returned (.bool true)∧Fr [] W W'):
  ReturnsInHanded {} Tryz.checked os k .any (fun w args=>(s.pre enc Tryz.prog fn [] false w args∧laidMetH Tryz.prog laidU w)∧sizedMet enc Tryz.prog fn (OpenSpec.ofChange s) false w args) (s.post enc Tryz.prog fn false true false false):=by
 refine returnsInHanded_of_change_and (C:=Tryz.checked) (X:=fun w _=>laidMetH Tryz.prog laidU w) (fun _ _ _ hh h=>h.of_heap hh) Tryz.own started hno hfn witness ?_
 intro W base args ds gs before hval hW _ _ hL _;have hW':=hW;obtain ⟨p,q,hA,hV,rfl,hfz,hnd⟩:=hW;rw [hv] at hV;obtain ⟨rfl,rfl⟩:=trodVars_none hV;refine (walk W base args ds p hval hA (u8_of_laid hL)).mono fun e W' ⟨he,hF⟩=> ?_
 subst he;have hB:=hF.below;have e1:=hsp ds (trodAll_length hA).2;refine ⟨_,rfl,ds,[],_,[],p,[],hW',?_,?_,?_,hB.frame _,fun h=>by cases h⟩
 ·rw [e1,hr];exact trodAll_mk1 (shut_bool Tryz.underlying4 true)
 ·rw [e1];exact trodAll_below hB hA hp (fun x hx=>by simpa using hW'.lt x (by simpa using hx))
 ·rw [e1,hv];rfl
end
end Go.Proofs.YteodinhkhhaafaaGreatDoor
