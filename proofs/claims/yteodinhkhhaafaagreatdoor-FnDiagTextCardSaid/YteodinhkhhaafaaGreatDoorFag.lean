/- Walks of the program, and plain facts. -/
import Derived.Test.YteodinhkhhaafaaGreatDoorFae
import Derived.BigRegion
set_option linter.unusedVariables false
set_option linter.unusedSimpArgs false
set_option maxRecDepth 100000
set_option maxHeartbeats 6400000
namespace Go.Proofs.YteodinhkhhaafaaGreatDoor
section
open Go.RowKit
theorem blk_new' (w:World) (o:Obj) {n:Nat} (h:n=w.heap.size):(w.alloc o).heap[n]? =some o:=h▸blk_new w o
def decOpts (n e p:Nat):Value:= .agg #[.int .i64 0,.int .i64 (n:Int),.int .i64 (e:Int),.int .i64 (p:Int),.int .i64 0,.int .i64 0,.int .i64 0,.int .i64 0,.int .i64 0,.int .i64 0,.int .i64 0,.pointer none,.int .i64 0,.int .i64 0,.int .i64 0]
theorem decMode_lim (n:Nat) (h1:16≤n) (h2:n≤60) (w:World):
  Calls Tryz.prog 113 #[decOpts n n n] w fun e w'=> ∃dm,e= .returned (.tuple #[.pointer (some ⟨dm,0,none⟩),.nilIface])∧w.heap.size≤dm∧DecM w' dm n n n∧Fr [] w w':=by
 have g1:((n:Int)==0)=false:=by simp;omega
 have g2: ¬(n:Int)<4:=by omega
 have g3: ¬(65535:Int)<(n:Int):=by omega
 have g4: ¬(n:Int)<16:=by omega
 have g5: ¬(2147483647:Int)<(n:Int):=by omega
 unfold decOpts;go_enter Tryz.func113,Tryz.ntmps113
 go_wp2_with (first|(go_at_call 143;go_in)|(go_at_call 144;go_in)|(go_at_call 145;go_in)|(go_at_call 146;go_in)|(go_at_call 147;go_in)|(go_at_call 148;go_in)|(go_at_call 149;go_in)|(go_at_call 150;go_in)|(go_at_call 151;go_in)|(go_at_call 152;go_in)|(go_at_call 153;go_in))
 go_ret2
 refine ⟨_,rfl,?_,?_,?_⟩
 ·simp
 ·exact blk_new' _ _ (by simp)
 ·repeat (first|with_reducible exact Fr.refl _ _|with_reducible refine Fr.setCell ?_ (by simp) _|with_reducible refine Fr.drewN ?_ _|with_reducible refine Fr.alloc ?_ _|with_reducible refine Fr.drew ?_)
theorem decMode_def (w:World):
  Calls Tryz.prog 113 #[decOpts 0 0 0] w fun e w'=> ∃dm,e= .returned (.tuple #[.pointer (some ⟨dm,0,none⟩),.nilIface])∧w.heap.size≤dm∧DecM w' dm 32 131072 131072∧Fr [] w w':=by
 unfold decOpts;go_enter Tryz.func113,Tryz.ntmps113
 go_wp2_with (first|(go_at_call 143;go_in)|(go_at_call 144;go_in)|(go_at_call 145;go_in)|(go_at_call 146;go_in)|(go_at_call 147;go_in)|(go_at_call 148;go_in)|(go_at_call 149;go_in)|(go_at_call 150;go_in)|(go_at_call 151;go_in)|(go_at_call 152;go_in)|(go_at_call 153;go_in))
 go_ret2
 refine ⟨_,rfl,?_,?_,?_⟩
 ·simp
 ·exact blk_new' _ _ (by simp)
 ·repeat (first|with_reducible exact Fr.refl _ _|with_reducible refine Fr.setCell ?_ (by simp) _|with_reducible refine Fr.drewN ?_ _|with_reducible refine Fr.alloc ?_ _|with_reducible refine Fr.drew ?_)
end
end Go.Proofs.YteodinhkhhaafaaGreatDoor
