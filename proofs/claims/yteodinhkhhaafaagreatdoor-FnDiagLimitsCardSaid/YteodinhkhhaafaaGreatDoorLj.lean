/- FnDiagLimits, its row and its card: for every limit, number and kind the law returns true: arrays or maps nested n levels deep, arrays of n elements and maps of n pairs, are refused, with the error named after the limit, exactly if n is above the limit. -/
import Derived.Test.YteodinhkhhaafaaGreatDoorYg
import Derived.Test.YteodinhkhhaafaaGreatDoorCards
import Derived.Test.YteodinhkhhaafaaGreatDoorTie
set_option linter.unusedVariables false
set_option linter.unusedSimpArgs false
namespace Go.Proofs.YteodinhkhhaafaaGreatDoor
open Go.ChangeShapes Go.WideShapes Go.RowKit

set_option maxRecDepth 100000 in
theorem limits_f1 : Tryz.prog.inPlace 11 = Rows.fnDiagLimitsRow.inPlace := by kernel_rfl
set_option maxRecDepth 100000 in
theorem limits_f2 : Tryz.prog.unfollowed 11 = Rows.fnDiagLimitsRow.unfollowed := by kernel_rfl
set_option maxRecDepth 100000 in
theorem limits_f3 : Tryz.prog.recurses 11 = Rows.fnDiagLimitsRow.recurses := by kernel_rfl
set_option maxRecDepth 100000 in
theorem limits_f4 : Tryz.prog.varsNamed 11 = Rows.fnDiagLimitsRow.named := by kernel_rfl
set_option maxRecDepth 100000 in
theorem limits_facts : joinedFacts Tryz.prog 11 Tryz.f11 Rows.fnDiagLimitsSpec Rows.fnDiagLimitsRow = true := by
  unfold joinedFacts
  rw [limits_f1, limits_f2, limits_f3, limits_f4, Tryz.mayEnter, Tryz.liftsFinal, Tryz.make, Tryz.mapsRowed, Tryz.plainKeys, Tryz.stopsHeard, Tryz.laidOut]
  kernel_rfl
set_option maxRecDepth 100000 in
theorem limits_goes : false = Rows.fnDiagLimitsRow.goesBy Tryz.prog := by kernel_rfl
set_option maxRecDepth 100000 in
theorem limits_name : Tryz.prog.funcNamed "pub-necessaire/laws.FnDiagLimits" = some 11 := by kernel_rfl
theorem limits_row : Rows.FnDiagLimitsSaid :=
  OpenClaim.holds_of_wide 11 Tryz.f11 rfl rfl rfl rfl rfl rfl rfl ⟨rfl, rfl, rfl, rfl, rfl⟩ rfl rfl rfl rfl rfl limits_name Tryz.func11 limits_facts
    (of_decide_eq_true (by kernel_rfl)) (by unfold Func.isWrapper; first | (rw [if_pos (by decide +kernel)]; kernel_rfl) | (rw [if_neg (by decide +kernel)]; exact ⟨rfl, rfl⟩))
    (fun os started H enc _ => limits_lifted os started H enc)
theorem limits_card : Rows.FnDiagLimitsCardSaid :=
  Claim7.holds_tied_plain_at .later [] [.data, .pinned] true (true, "6290c9495f33fe9badd3dbfab1b5d898f91c774e4e5da1dae7cabe16e93ab7d6") true
    limits_row (fun _ h => by cases h) (by kernel_rfl) (fun _ h => by cases h) fnDiagLimits_row_tie rfl ⟨rfl, rfl⟩ Tryz.mainIs rfl
    (fun f fn hf hfn => by
      obtain rfl : f = 11 := Option.some.inj (limits_name.symm.trans hf) |>.symm
      obtain rfl : fn = Tryz.f11 := (Option.some.inj (Tryz.func11.symm.trans hfn)).symm
      exact ⟨by kernel_rfl, fun j t ht => by
        rw [Tryz.params11] at ht
        rcases j with _ | _ | _ | j
        · have h3 : t = 3 := by simpa using ht.symm
          subst h3
          exact (show Tryz.prog.wantsStandIn 3 = false by kernel_rfl)
        · have h3 : t = 3 := by simpa using ht.symm
          subst h3
          exact (show Tryz.prog.wantsStandIn 3 = false by kernel_rfl)
        · have h3 : t = 3 := by simpa using ht.symm
          subst h3
          exact (show Tryz.prog.wantsStandIn 3 = false by kernel_rfl)
        · simp at ht⟩)
    limits_goes
#print axioms limits_card
end Go.Proofs.YteodinhkhhaafaaGreatDoor
