/- FnDiagBig, its row and its card: for every byte string and sign the law returns true: a bignum beyond 64 bits, the tag 2 or 3 of a byte string of definite length without leading zeros, is notated as its decimal number. -/
import Derived.Test.YteodinhkhhaafaaGreatDoorNh
import Derived.Test.YteodinhkhhaafaaGreatDoorRz
import Derived.Test.YteodinhkhhaafaaGreatDoorCards
import Derived.Test.YteodinhkhhaafaaGreatDoorTie
set_option linter.unusedVariables false
set_option linter.unusedSimpArgs false
namespace Go.Proofs.YteodinhkhhaafaaGreatDoor
open Go.ChangeShapes Go.WideShapes Go.RowKit
open Go.ChangeMaps (open_string)

set_option maxRecDepth 100000 in
theorem big_lifted (os : Os) (started : os.Started) (H : Type) (enc : TypeId × Value → H) :
    ReturnsInHanded {} Tryz.checked os 5 .any (fun w args => (Rows.fnDiagBigSpec.pre enc Tryz.prog Tryz.f5 [] false w args ∧ laidMetH Tryz.prog laidU w) ∧ sizedMet enc Tryz.prog Tryz.f5 (OpenSpec.ofChange Rows.fnDiagBigSpec) false w args)
      (Rows.fnDiagBigSpec.post enc Tryz.prog Tryz.f5 false true false false) := by
  refine lift_row os started enc (by kernel_rfl) Tryz.func5 rfl rfl ?_ ?_
    (ChangeSpec.witness_at (enc := enc) (C := Tryz.checked) (os := os) (X := fun w _ => laidMetH Tryz.prog laidU w) false (laidWorld os) #[.string ⟨#[]⟩, .bool false] 8 rfl (by kernel_rfl) (by kernel_rfl) (by kernel_rfl) (by kernel_rfl) (by kernel_rfl) (laid_met os _)) ?_
  · intro ds h
    rw [Tryz.params5] at h
    match ds, h with
    | [d1, d2], _ => rfl
  · rw [Tryz.params5]
    intro t ht
    have ht2 : t = 9 ∨ t = 4 := by simpa using ht
    rcases ht2 with rfl | rfl
    all_goals exact ⟨by kernel_rfl, of_decide_eq_true (by kernel_rfl)⟩
  · intro W base args ds ps hval hA hu
    rw [Tryz.params5] at hA hval
    obtain ⟨v0, v1, d0, d1, p0, p1, rfl, rfl, rfl, h0, h1⟩ := trodAll_two hA
    obtain ⟨s, rfl, _⟩ := open_string Tryz.underlying9 (hval 0 9 v0 rfl rfl) h0
    obtain ⟨a, rfl, _⟩ := open_bool Tryz.underlying4 (hval 1 4 v1 rfl rfl) h1
    rw [show (Value.string s) = .string ⟨s.data.toList.toArray⟩ from by cases s; simp]
    exact big_any _ a W hu
set_option maxRecDepth 100000 in
theorem big_f1 : Tryz.prog.inPlace 5 = Rows.fnDiagBigRow.inPlace := by kernel_rfl
set_option maxRecDepth 100000 in
theorem big_f2 : Tryz.prog.unfollowed 5 = Rows.fnDiagBigRow.unfollowed := by kernel_rfl
set_option maxRecDepth 100000 in
theorem big_f3 : Tryz.prog.recurses 5 = Rows.fnDiagBigRow.recurses := by kernel_rfl
set_option maxRecDepth 100000 in
theorem big_f4 : Tryz.prog.varsNamed 5 = Rows.fnDiagBigRow.named := by kernel_rfl
set_option maxRecDepth 100000 in
theorem big_facts : joinedFacts Tryz.prog 5 Tryz.f5 Rows.fnDiagBigSpec Rows.fnDiagBigRow = true := by
  unfold joinedFacts
  rw [big_f1, big_f2, big_f3, big_f4, Tryz.mayEnter, Tryz.liftsFinal, Tryz.make, Tryz.mapsRowed, Tryz.plainKeys, Tryz.stopsHeard, Tryz.laidOut]
  kernel_rfl
set_option maxRecDepth 100000 in
theorem big_goes : false = Rows.fnDiagBigRow.goesBy Tryz.prog := by kernel_rfl
set_option maxRecDepth 100000 in
theorem big_name : Tryz.prog.funcNamed "pub-necessaire/laws.FnDiagBig" = some 5 := by kernel_rfl
theorem big_row : Rows.FnDiagBigSaid :=
  OpenClaim.holds_of_wide 5 Tryz.f5 rfl rfl rfl rfl rfl rfl rfl ⟨rfl, rfl, rfl, rfl, rfl⟩ rfl rfl rfl rfl rfl big_name Tryz.func5 big_facts
    (of_decide_eq_true (by kernel_rfl)) (by unfold Func.isWrapper; first | (rw [if_pos (by decide +kernel)]; kernel_rfl) | (rw [if_neg (by decide +kernel)]; exact ⟨rfl, rfl⟩))
    (fun os started H enc _ => big_lifted os started H enc)
theorem big_card : Rows.FnDiagBigCardSaid :=
  Claim7.holds_tied_plain_at .later [] [.data, .pinned] true (true, "6290c9495f33fe9badd3dbfab1b5d898f91c774e4e5da1dae7cabe16e93ab7d6") true
    big_row (fun _ h => by cases h) (by kernel_rfl) (fun _ h => by cases h) fnDiagBig_row_tie rfl ⟨rfl, rfl⟩ Tryz.mainIs rfl
    (fun f fn hf hfn => by
      obtain rfl : f = 5 := Option.some.inj (big_name.symm.trans hf) |>.symm
      obtain rfl : fn = Tryz.f5 := (Option.some.inj (Tryz.func5.symm.trans hfn)).symm
      exact ⟨by kernel_rfl, fun j t ht => by
        rw [Tryz.params5] at ht
        rcases j with _ | _ | j
        · have h3 : t = 9 := by simpa using ht.symm
          subst h3
          exact (show Tryz.prog.wantsStandIn 9 = false by kernel_rfl)
        · have h3 : t = 4 := by simpa using ht.symm
          subst h3
          exact (show Tryz.prog.wantsStandIn 4 = false by kernel_rfl)
        · simp at ht⟩)
    big_goes
#print axioms big_card
end Go.Proofs.YteodinhkhhaafaaGreatDoor
