/- FnDiagBytes, its row and its card: for every byte string and encoding the law returns true: the text of a byte string is its bytes in base 16, base 32, base 32 with the extended hex alphabet or base 64 for URLs, without padding, in quotes behind the name of the base. -/
import Derived.Test.YteodinhkhhaafaaGreatDoorKk
import Derived.Test.YteodinhkhhaafaaGreatDoorRz
import Derived.Test.YteodinhkhhaafaaGreatDoorCards
import Derived.Test.YteodinhkhhaafaaGreatDoorTie
set_option linter.unusedVariables false
set_option linter.unusedSimpArgs false
namespace Go.Proofs.YteodinhkhhaafaaGreatDoor
open Go.ChangeShapes Go.WideShapes Go.RowKit
open Go.ChangeMaps (open_string)

set_option maxRecDepth 100000 in
theorem bytes_lifted (os : Os) (started : os.Started) (H : Type) (enc : TypeId × Value → H) :
    ReturnsInHanded {} Tryz.checked os 6 .any (fun w args => (Rows.fnDiagBytesSpec.pre enc Tryz.prog Tryz.f6 [] false w args ∧ laidMetH Tryz.prog laidU w) ∧ sizedMet enc Tryz.prog Tryz.f6 (OpenSpec.ofChange Rows.fnDiagBytesSpec) false w args)
      (Rows.fnDiagBytesSpec.post enc Tryz.prog Tryz.f6 false true false false) := by
  refine lift_row os started enc (by kernel_rfl) Tryz.func6 rfl rfl ?_ ?_
    (ChangeSpec.witness_at (enc := enc) (C := Tryz.checked) (os := os) (X := fun w _ => laidMetH Tryz.prog laidU w) false (laidWorld os) #[.string ⟨#[]⟩, .int .i64 0] 8 rfl (by kernel_rfl) (by kernel_rfl) (by kernel_rfl) (by kernel_rfl) (by kernel_rfl) (laid_met os _)) ?_
  · intro ds h
    rw [Tryz.params6] at h
    match ds, h with
    | [d1, d2], _ => rfl
  · rw [Tryz.params6]
    intro t ht
    have ht2 : t = 9 ∨ t = 3 := by simpa using ht
    rcases ht2 with rfl | rfl
    all_goals exact ⟨by kernel_rfl, of_decide_eq_true (by kernel_rfl)⟩
  · intro W base args ds ps hval hA hu
    rw [Tryz.params6] at hA hval
    obtain ⟨v0, v1, d0, d1, p0, p1, rfl, rfl, rfl, h0, h1⟩ := trodAll_two hA
    obtain ⟨s, rfl, _⟩ := open_string Tryz.underlying9 (hval 0 9 v0 rfl rfl) h0
    obtain ⟨a, rfl, _⟩ := open_int Tryz.underlying3 (hval 1 3 v1 rfl rfl) h1
    rw [show (Value.string s) = .string ⟨s.data.toList.toArray⟩ from by cases s; simp]
    exact bytes_any _ a W hu
set_option maxRecDepth 100000 in
theorem bytes_f1 : Tryz.prog.inPlace 6 = Rows.fnDiagBytesRow.inPlace := by kernel_rfl
set_option maxRecDepth 100000 in
theorem bytes_f2 : Tryz.prog.unfollowed 6 = Rows.fnDiagBytesRow.unfollowed := by kernel_rfl
set_option maxRecDepth 100000 in
theorem bytes_f3 : Tryz.prog.recurses 6 = Rows.fnDiagBytesRow.recurses := by kernel_rfl
set_option maxRecDepth 100000 in
theorem bytes_f4 : Tryz.prog.varsNamed 6 = Rows.fnDiagBytesRow.named := by kernel_rfl
set_option maxRecDepth 100000 in
theorem bytes_facts : joinedFacts Tryz.prog 6 Tryz.f6 Rows.fnDiagBytesSpec Rows.fnDiagBytesRow = true := by
  unfold joinedFacts
  rw [bytes_f1, bytes_f2, bytes_f3, bytes_f4, Tryz.mayEnter, Tryz.liftsFinal, Tryz.make, Tryz.mapsRowed, Tryz.plainKeys, Tryz.stopsHeard, Tryz.laidOut]
  kernel_rfl
set_option maxRecDepth 100000 in
theorem bytes_goes : false = Rows.fnDiagBytesRow.goesBy Tryz.prog := by kernel_rfl
set_option maxRecDepth 100000 in
theorem bytes_name : Tryz.prog.funcNamed "pub-necessaire/laws.FnDiagBytes" = some 6 := by kernel_rfl
theorem bytes_row : Rows.FnDiagBytesSaid :=
  OpenClaim.holds_of_wide 6 Tryz.f6 rfl rfl rfl rfl rfl rfl rfl ⟨rfl, rfl, rfl, rfl, rfl⟩ rfl rfl rfl rfl rfl bytes_name Tryz.func6 bytes_facts
    (of_decide_eq_true (by kernel_rfl)) (by unfold Func.isWrapper; first | (rw [if_pos (by decide +kernel)]; kernel_rfl) | (rw [if_neg (by decide +kernel)]; exact ⟨rfl, rfl⟩))
    (fun os started H enc _ => bytes_lifted os started H enc)
theorem bytes_card : Rows.FnDiagBytesCardSaid :=
  Claim7.holds_tied_plain_at .later [] [.data, .pinned] true (true, "6290c9495f33fe9badd3dbfab1b5d898f91c774e4e5da1dae7cabe16e93ab7d6") true
    bytes_row (fun _ h => by cases h) (by kernel_rfl) (fun _ h => by cases h) fnDiagBytes_row_tie rfl ⟨rfl, rfl⟩ Tryz.mainIs rfl
    (fun f fn hf hfn => by
      obtain rfl : f = 6 := Option.some.inj (bytes_name.symm.trans hf) |>.symm
      obtain rfl : fn = Tryz.f6 := (Option.some.inj (Tryz.func6.symm.trans hfn)).symm
      exact ⟨by kernel_rfl, fun j t ht => by
        rw [Tryz.params6] at ht
        rcases j with _ | _ | j
        · have h3 : t = 9 := by simpa using ht.symm
          subst h3
          exact (show Tryz.prog.wantsStandIn 9 = false by kernel_rfl)
        · have h3 : t = 3 := by simpa using ht.symm
          subst h3
          exact (show Tryz.prog.wantsStandIn 3 = false by kernel_rfl)
        · simp at ht⟩)
    bytes_goes
#print axioms bytes_card
end Go.Proofs.YteodinhkhhaafaaGreatDoor
