/- Walks of the program, and plain facts. -/
import Derived.Test.YteodinhkhhaafaaGreatDoorRows
import Derived.JoinedOf
import Derived.SevenTiedAt
import Derived.KernelRfl
set_option linter.unusedVariables false
set_option linter.unusedSimpArgs false
set_option maxRecDepth 100000
set_option maxHeartbeats 6400000
namespace Go.Proofs.YteodinhkhhaafaaGreatDoor
set_option maxRecDepth 100000
theorem Tryz.mayEnter:Tryz.prog.mayEnter=true:=by kernel_rfl
theorem Tryz.liftsFinal:Tryz.prog.liftsFinal=Rows.fnDiagLimitsRow.lifted:=by kernel_rfl
theorem Tryz.make:Tryz.prog.make=some Rows.fnDiagLimitsRow.make:=by kernel_rfl
theorem Tryz.mainIs:Tryz.prog.mainIs=some (true,("6290c9495f33fe9badd3dbfab1b5d898f91c774e4e5da1dae7cabe16e93ab7d6" :String).toList):=by kernel_rfl
theorem Tryz.mapsRowed:mapsRowed Tryz.prog=true:=by kernel_rfl
theorem Tryz.plainKeys:Tryz.prog.plainKeys=Rows.fnDiagLimitsRow.plainKeys:=by kernel_rfl
theorem Tryz.stopsHeard:Tryz.prog.stopsHeard=true:=by kernel_rfl
theorem Tryz.laidOut:laidOutB Tryz.prog=true:=by kernel_rfl
end Go.Proofs.YteodinhkhhaafaaGreatDoor
