/- FnDiagSpaced, its row and its card: for every byte string the law returns true: with white space, the text of a byte string in base 16 has one space between two bytes, and no other one. -/
import Derived.Test.YteodinhkhhaafaaGreatDoorKl
import Derived.Test.YteodinhkhhaafaaGreatDoorRz
import Derived.Test.YteodinhkhhaafaaGreatDoorCards
import Derived.Test.YteodinhkhhaafaaGreatDoorTie
set_option linter.unusedVariables false
set_option linter.unusedSimpArgs false
namespace Go.Proofs.YteodinhkhhaafaaGreatDoor
open Go.ChangeShapes Go.WideShapes Go.RowKit
open Go.ChangeMaps (open_string)

set_option maxRecDepth 100000 in
theorem spaced_lifted (os : Os) (started : os.Started) (H : Type) (enc : TypeId × Value → H) :
    ReturnsInHanded {} Tryz.checked os 15 .any (fun w args => (Rows.fnDiagSpacedSpec.pre enc Tryz.prog Tryz.f15 [] false w args ∧ laidMetH Tryz.prog laidU w) ∧ sizedMet enc Tryz.prog Tryz.f15 (OpenSpec.ofChange Rows.fnDiagSpacedSpec) false w args)
      (Rows.fnDiagSpacedSpec.post enc Tryz.prog Tryz.f15 false true false false) := by
  refine lift_row os started enc (by kernel_rfl) Tryz.func15 rfl rfl ?_ ?_
    (ChangeSpec.witness_at (enc := enc) (C := Tryz.checked) (os := os) (X := fun w _ => laidMetH Tryz.prog laidU w) false (laidWorld os) #[.string ⟨#[]⟩] 8 rfl (by kernel_rfl) (by kernel_rfl) (by kernel_rfl) (by kernel_rfl) (by kernel_rfl) (laid_met os _)) ?_
  · intro ds h
    rw [Tryz.params15] at h
    match ds, h with
    | [d1], _ => rfl
  · rw [Tryz.params15]
    intro t ht
    have ht2 : t = 9 := by simpa using ht
    obtain rfl := ht2
    all_goals exact ⟨by kernel_rfl, of_decide_eq_true (by kernel_rfl)⟩
  · intro W base args ds ps hval hA hu
    rw [Tryz.params15] at hA hval
    obtain ⟨v0, d0, rfl, rfl, h0⟩ := trodAll_one hA
    obtain ⟨s, rfl, _⟩ := open_string Tryz.underlying9 (hval 0 9 v0 rfl rfl) h0
    rw [show (Value.string s) = .string ⟨s.data.toList.toArray⟩ from by cases s; simp]
    exact spaced_any _ W hu
set_option maxRecDepth 100000 in
theorem spaced_f1 : Tryz.prog.inPlace 15 = Rows.fnDiagSpacedRow.inPlace := by kernel_rfl
set_option maxRecDepth 100000 in
theorem spaced_f2 : Tryz.prog.unfollowed 15 = Rows.fnDiagSpacedRow.unfollowed := by kernel_rfl
set_option maxRecDepth 100000 in
theorem spaced_f3 : Tryz.prog.recurses 15 = Rows.fnDiagSpacedRow.recurses := by kernel_rfl
set_option maxRecDepth 100000 in
theorem spaced_f4 : Tryz.prog.varsNamed 15 = Rows.fnDiagSpacedRow.named := by kernel_rfl
set_option maxRecDepth 100000 in
theorem spaced_facts : joinedFacts Tryz.prog 15 Tryz.f15 Rows.fnDiagSpacedSpec Rows.fnDiagSpacedRow = true := by
  unfold joinedFacts
  rw [spaced_f1, spaced_f2, spaced_f3, spaced_f4, Tryz.mayEnter, Tryz.liftsFinal, Tryz.make, Tryz.mapsRowed, Tryz.plainKeys, Tryz.stopsHeard, Tryz.laidOut]
  kernel_rfl
set_option maxRecDepth 100000 in
theorem spaced_goes : false = Rows.fnDiagSpacedRow.goesBy Tryz.prog := by kernel_rfl
set_option maxRecDepth 100000 in
theorem spaced_name : Tryz.prog.funcNamed "pub-necessaire/laws.FnDiagSpaced" = some 15 := by kernel_rfl
theorem spaced_row : Rows.FnDiagSpacedSaid :=
  OpenClaim.holds_of_wide 15 Tryz.f15 rfl rfl rfl rfl rfl rfl rfl ⟨rfl, rfl, rfl, rfl, rfl⟩ rfl rfl rfl rfl rfl spaced_name Tryz.func15 spaced_facts
    (of_decide_eq_true (by kernel_rfl)) (by unfold Func.isWrapper; first | (rw [if_pos (by decide +kernel)]; kernel_rfl) | (rw [if_neg (by decide +kernel)]; exact ⟨rfl, rfl⟩))
    (fun os started H enc _ => spaced_lifted os started H enc)
theorem spaced_card : Rows.FnDiagSpacedCardSaid :=
  Claim7.holds_tied_plain_at .later [] [.data, .pinned] true (true, "6290c9495f33fe9badd3dbfab1b5d898f91c774e4e5da1dae7cabe16e93ab7d6") true
    spaced_row (fun _ h => by cases h) (by kernel_rfl) (fun _ h => by cases h) fnDiagSpaced_row_tie rfl ⟨rfl, rfl⟩ Tryz.mainIs rfl
    (fun f fn hf hfn => by
      obtain rfl : f = 15 := Option.some.inj (spaced_name.symm.trans hf) |>.symm
      obtain rfl : fn = Tryz.f15 := (Option.some.inj (Tryz.func15.symm.trans hfn)).symm
      exact ⟨by kernel_rfl, fun j t ht => by
        rw [Tryz.params15] at ht
        rcases j with _ | j
        · have h3 : t = 9 := by simpa using ht.symm
          subst h3
          exact (show Tryz.prog.wantsStandIn 9 = false by kernel_rfl)
        · simp at ht⟩)
    spaced_goes
#print axioms spaced_card
end Go.Proofs.YteodinhkhhaafaaGreatDoor
