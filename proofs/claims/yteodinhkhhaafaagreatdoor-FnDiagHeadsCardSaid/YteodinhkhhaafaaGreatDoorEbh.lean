/- Walks of the program, and plain facts. -/
import Derived.Test.YteodinhkhhaafaaGreatDoorRows
import Derived.JoinedOf
import Derived.SevenTiedAt
import Derived.ChangeSame
import Derived.ChangeVars
import Derived.RowKit
import Derived.LaidLaws
import Derived.LaidMore
import Derived.OpenShut
import Derived.ProofKit
import Derived.Stop.Joined
import Derived.PinnedBridge
import Derived.Lib.LaidIn
import Derived.Lib.LaidU8T
import Derived.Carry
import Derived.ChangeCalls
import Derived.Test.YteodinhkhhaafaaGreatDoorEba
set_option linter.unusedVariables false
set_option linter.unusedSimpArgs false
set_option maxRecDepth 100000
set_option maxHeartbeats 6400000
namespace Go.Proofs.YteodinhkhhaafaaGreatDoor
set_option maxRecDepth 100000
theorem Tryz.mayEnter:Tryz.prog.mayEnter=true:=by kernel_rfl
theorem Tryz.liftsFinal:Tryz.prog.liftsFinal=Rows.fnDiagLimitsRow.lifted:=by kernel_rfl
theorem Tryz.make:Tryz.prog.make=some Rows.fnDiagLimitsRow.make:=by kernel_rfl
theorem Tryz.mainIs:Tryz.prog.mainIs=some (true,("6290c9495f33fe9badd3dbfab1b5d898f91c774e4e5da1dae7cabe16e93ab7d6" :String).toList):=by kernel_rfl
theorem Tryz.mapsRowed:mapsRowed Tryz.prog=true:=by kernel_rfl
theorem Tryz.plainKeys:Tryz.prog.plainKeys=Rows.fnDiagLimitsRow.plainKeys:=by kernel_rfl
theorem Tryz.stopsHeard:Tryz.prog.stopsHeard=true:=by kernel_rfl
theorem Tryz.laidOut:laidOutB Tryz.prog=true:=by kernel_rfl
section
open Go.ChangeShapes Go.WideShapes Go.RowKit
theorem Tryz.own:ownKnob Tryz.prog.godebug=none:=by kernel_rfl
abbrev laidU:List (String×DataW Unit):=[("unicode/utf8.acceptRanges",Rows.laid_unicode_utf8_acceptRanges),("unicode/utf8.first",Rows.laid_unicode_utf8_first)]
noncomputable def laidWorld (os:Os):World:=
 let w0:=World.holding Tryz.prog os ⟨#[],#[],[]⟩
 let put (h:Array Obj) (g:Nat) (cs:Array Value):Array Obj:=h.modify g fun
  | .cells _ t frozen=> .cells cs t frozen
  |o=>o
 let h1:=put w0.heap 0 (Lib.firstTab.map fun z=>Value.int .u8 z).toArray
 let h2:=put h1 1 ((List.range 16).flatMap fun i=>[Value.int .u8 (Lib.accLo i),Value.int .u8 (Lib.accHi i)]).toArray
 {w0 with heap:=h2}
def renU:Shelf.Ren:={f:=fun k=>k,g:=fun k=>if k=3 then 0 else 1,t:=fun k=>if k=5 then 5 else if k=119 then 308 else if k=138 then 310 else 311}
theorem u8Types:U8Types Tryz.prog renU:=⟨Tryz.underlying5,Tryz.underlying308,Tryz.underlying310,Tryz.underlying311⟩
theorem laid_met (os:Os) (args:Array Value):laidMetH Tryz.prog laidU ((laidWorld os).forCall (fun _ _=>0) ⟨#[],args,[]⟩).memory:=by
 rw [MakeChecks.laidMetH_plain _ _ _ (by kernel_rfl)]
 exact (LaidIn.of_run (l:=laidU) [1,0] 8 (by kernel_rfl) (by kernel_rfl) (by kernel_rfl) (by kernel_rfl)).met
theorem u8_of_laid {W:World} (h:laidMetH Tryz.prog laidU W):U8 W:=by
 rw [MakeChecks.laidMetH_plain _ _ _ (by kernel_rfl)] at h
 have hf:Rows.laid_unicode_utf8_first=Lib.firstData:=Pinned.utf8First_eq;have ha:(Rows.laid_unicode_utf8_acceptRanges:DataW Unit)=Lib.acceptData:=by kernel_rfl
 have h1:=Lib.laidMet.reads h (.head _);have h2:=Lib.laidMet.reads h (.tail _ (.head _));rw [ha] at h1;rw [hf] at h2;exact utf8Tabs_of_readsT (ρ:=renU) u8Types ⟨by kernel_rfl,by kernel_rfl,by kernel_rfl,by kernel_rfl,by kernel_rfl,by kernel_rfl,by kernel_rfl⟩ h2 h1
theorem trodAll_below {H:Type} {enc:TypeId×Value→H} {W W':World} (hb:Below W.heap.size W W'): ∀{ts:List TypeId} {vs:List Value} {ds:List (DataW H)} {ps:List MemPlace},
  DataW.TrodAll enc Tryz.prog W 0 (fun _=>true) true ts vs ds ps→(∀t,t∈ts→Tryz.prog.readableRec t=true∧t<Tryz.prog.types.size)→(∀x,x∈ps→x.block<W.heap.size)→DataW.TrodAll enc Tryz.prog W' 0 (fun b=>decide (b<W.heap.size)) true ts vs ds ps
 |[],_,_,_,h,_,_=>by
  obtain ⟨rfl,rfl,rfl⟩:=trodAll_nil h;exact trodAll_mk0
 |t::ts,_,_,_,h,ht,hp=>by
  obtain ⟨v,vs1,d,ds1,a,b,rfl,rfl,rfl,h1,h2⟩:=trodAll_cons h;exact ⟨a,b,Below.trod Tryz.laidOut (ht t (by simp)).1 (ht t (by simp)).2 h1 hb (fun x hx=>hp x (by simp [hx])),trodAll_below hb h2 (fun u hu=>ht u (by simp [hu])) (fun x hx=>hp x (by simp [hx])),rfl⟩
theorem lift_row {k:FuncId} {fn:Func} {s:ChangeSpec} (os:Os) (started:os.Started) {H:Type} (enc:TypeId×Value→H) (hno:Tryz.checked.prog.inits.idxOf? k=none) (hfn:Tryz.prog.funcs[k]? =some fn) (hv:s.vars=[]) (hr:fn.resultTypes= #[4])
  (hsp: ∀ds:List (DataW H),ds.length=fn.params.toList.length→s.fn H (ds++[])={results:=[.lit (.bool true)],args:=ds})
  (hp: ∀t,t∈fn.params.toList→Tryz.prog.readableRec t=true∧t<Tryz.prog.types.size)
  (witness: ∃(w:World) (tape:Tape) (i:Input),w.os=os∧(w.forCall tape i).Shaped Tryz.prog∧i.vars=[]∧Input.okWide Tryz.prog (w.forCall tape i) .any w.heap.size k i∧
   ((s.pre enc Tryz.prog fn [] false (w.forCall tape i).memory i.args∧laidMetH Tryz.prog laidU (w.forCall tape i).memory)∧sizedMet enc Tryz.prog fn (OpenSpec.ofChange s) false (w.forCall tape i).memory i.args)∧({}:Assume).holds Tryz.prog (lone (Frame.enter Tryz.prog k i.args .normal) [] (w.forCall tape i)))
  (walk: ∀(W:World) (base:Nat) (args:Array Value) (ds:List (DataW H)) (ps:List MemPlace),(∀(j:Nat) t v,fn.params[j]? =some t→args[j]? =some v→Value.okWide Tryz.prog W .any base t v)→
   DataW.TrodAll enc Tryz.prog W 0 (fun _=>true) true fn.params.toList args.toList ds ps→U8 W→Calls Tryz.prog k args W fun e W'=>e= .returned (.bool true)∧Fr [] W W'):
  ReturnsInHanded {} Tryz.checked os k .any (fun w args=>(s.pre enc Tryz.prog fn [] false w args∧laidMetH Tryz.prog laidU w)∧sizedMet enc Tryz.prog fn (OpenSpec.ofChange s) false w args) (s.post enc Tryz.prog fn false true false false):=by
 refine returnsInHanded_of_change_and (C:=Tryz.checked) (X:=fun w _=>laidMetH Tryz.prog laidU w) (fun _ _ _ hh h=>h.of_heap hh) Tryz.own started hno hfn witness ?_
 intro W base args ds gs before hval hW _ _ hL _;have hW':=hW;obtain ⟨p,q,hA,hV,rfl,hfz,hnd⟩:=hW;rw [hv] at hV;obtain ⟨rfl,rfl⟩:=trodVars_none hV;refine (walk W base args ds p hval hA (u8_of_laid hL)).mono fun e W' ⟨he,hF⟩=> ?_
 subst he;have hB:=hF.below;have e1:=hsp ds (trodAll_length hA).2;refine ⟨_,rfl,ds,[],_,[],p,[],hW',?_,?_,?_,hB.frame _,fun h=>by cases h⟩
 ·rw [e1,hr];exact trodAll_mk1 (shut_bool Tryz.underlying4 true)
 ·rw [e1];exact trodAll_below hB hA hp (fun x hx=>by simpa using hW'.lt x (by simpa using hx))
 ·rw [e1,hv];rfl
end
section
section
open Go.RowKit
theorem headB_le (m n f:Nat):(headB m n f).length≤9:=by
 unfold headB
 split
 ·simp
 ·rw [List.length_cons,beB_length];have h1:=lgB_lt f n;have:=Nat.pow_le_pow_right (n:=2) (by omega) (show lgB f n≤3 by omega)
  omega
end
end
end Go.Proofs.YteodinhkhhaafaaGreatDoor
