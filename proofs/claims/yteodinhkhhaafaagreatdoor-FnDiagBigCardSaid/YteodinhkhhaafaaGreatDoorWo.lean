/- The walk of wellformedInternal, whole; wellformed. The walks of the decoder's wellformed, and of diagnose's. -/
import Derived.Test.YteodinhkhhaafaaGreatDoorWn
import Derived.RegionTactic
import Derived.BigRegion
set_option linter.unusedVariables false
set_option linter.unusedSimpArgs false
namespace Go.Proofs.YteodinhkhhaafaaGreatDoor
section
open Go.RowKit

theorem item_all (L : Lim) (xs : List UInt8) (hn : L.nest ≤ 65535) (hel : L.el ≤ 2147483647) (hpa : L.pa ≤ 2147483647) : ∀ f, Item L xs f := by
  intro f
  induction f using Nat.strongRecOn with
  | _ f IH =>
    intro w d db o c dm off dep r h hM hmd hdep hr
    rcases f with _ | f
    · simp [wfI] at hr
    have IH' : ∀ g, g < f → Item L xs g := fun g hg => IH g (by omega)
    unfold wfI at hr
    cases hh : hd xs off with
    | error k =>
      rw [hh] at hr
      cases hr
      exact item_err h hM hmd hh
    | ok q =>
      obtain ⟨m, ai, v, o1⟩ := q
      rw [hh] at hr
      dsimp only at hr
      have hoff := hd_off hh
      have hval := hd_val hh
      have m8 : m = 0 ∨ m = 1 ∨ m = 2 ∨ m = 3 ∨ m = 4 ∨ m = 5 ∨ m = 6 ∨ m = 7 := by omega
      rcases m8 with rfl | rfl | rfl | rfl | rfl | rfl | rfl | rfl
      · rw [if_neg (by decide), if_neg (by decide), if_neg (by decide)] at hr
        cases hr
        exact item_int0 h hM hmd hdep hh
      · rw [if_neg (by decide), if_neg (by decide), if_neg (by decide)] at hr
        cases hr
        exact item_int1 h hM hmd hdep hh
      · rw [if_pos (.inl rfl)] at hr
        by_cases h31 : ai = 31
        · subst h31
          rw [if_pos rfl] at hr
          exact item_chunks2 h hM hmd hdep hn IH' r hh hr
        · rw [if_neg h31] at hr
          by_cases h63 : 9223372036854775808 ≤ v
          · rw [if_pos h63] at hr
            cases hr
            exact item_str_neg2 h hM hmd hdep hh h31 h63
          · rw [if_neg h63] at hr
            by_cases hs : xs.length - o1 < v
            · rw [if_pos hs] at hr
              cases hr
              exact item_str_short2 h hM hmd hdep hh h31 h63 hs
            · rw [if_neg hs] at hr
              cases hr
              exact item_str2 h hM hmd hdep hh h31 hs
      · rw [if_pos (.inr rfl)] at hr
        by_cases h31 : ai = 31
        · subst h31
          rw [if_pos rfl] at hr
          exact item_chunks3 h hM hmd hdep hn IH' r hh hr
        · rw [if_neg h31] at hr
          by_cases h63 : 9223372036854775808 ≤ v
          · rw [if_pos h63] at hr
            cases hr
            exact item_str_neg3 h hM hmd hdep hh h31 h63
          · rw [if_neg h63] at hr
            by_cases hs : xs.length - o1 < v
            · rw [if_pos hs] at hr
              cases hr
              exact item_str_short3 h hM hmd hdep hh h31 h63 hs
            · rw [if_neg hs] at hr
              cases hr
              exact item_str3 h hM hmd hdep hh h31 hs
      · rw [if_neg (by decide), if_pos (.inl rfl)] at hr
        by_cases hs : L.nest < dep + 1
        · rw [if_pos hs] at hr
          cases hr
          exact item_deep4 h hM hmd hdep hh hs
        · rw [if_neg hs] at hr
          by_cases h31 : ai = 31
          · subst h31
            rw [if_pos rfl] at hr
            exact item_open4 h hM hmd hdep hn hel hpa IH' r hh hs hr
          · rw [if_neg h31] at hr
            by_cases h63 : 9223372036854775808 ≤ v
            · rw [if_pos h63] at hr
              cases hr
              exact item_list_neg4 h hM hmd hdep hh hs h31 h63
            · rw [if_neg h63] at hr
              by_cases h2 : L.el < v
              · rw [if_pos ⟨rfl, h2⟩] at hr
                cases hr
                exact item_many4 h hM hmd hdep hh hs h31 h63 h2
              · rw [if_neg (fun e => h2 e.2), if_neg (by omega)] at hr
                exact item_list4 h hM hmd hdep hn hel IH' r hh hs h31 h2 hr
      · rw [if_neg (by decide), if_pos (.inr rfl)] at hr
        by_cases hs : L.nest < dep + 1
        · rw [if_pos hs] at hr
          cases hr
          exact item_deep5 h hM hmd hdep hh hs
        · rw [if_neg hs] at hr
          by_cases h31 : ai = 31
          · subst h31
            rw [if_pos rfl] at hr
            exact item_open5 h hM hmd hdep hn hel hpa IH' r hh hs hr
          · rw [if_neg h31] at hr
            by_cases h63 : 9223372036854775808 ≤ v
            · rw [if_pos h63] at hr
              cases hr
              exact item_list_neg5 h hM hmd hdep hh hs h31 h63
            · rw [if_neg h63] at hr
              rw [if_neg (by omega)] at hr
              by_cases h2 : L.pa < v
              · rw [if_pos ⟨rfl, h2⟩] at hr
                cases hr
                exact item_many5 h hM hmd hdep hh hs h31 h63 h2
              · rw [if_neg (fun e => h2 e.2)] at hr
                exact item_list5 h hM hmd hdep hn hpa IH' r hh hs h31 h2 hr
      · rw [if_neg (by decide), if_neg (by decide), if_pos rfl] at hr
        exact item_tag h hM hmd hdep hn IH' r hh hr
      · rw [if_neg (by decide), if_neg (by decide), if_neg (by decide)] at hr
        cases hr
        exact item_prim h hM hmd hdep hh
end
section
open Go.RowKit

/-- What wellformed answers: the bytes from a place on are one item, or begin with one. -/
def wfTop (L : Lim) (xs : List UInt8) (more : Bool) (off : Nat) (r : Option Nat) : Prop :=
  (off = xs.length ∧ r = some 1) ∨ (off < xs.length ∧ ∃ f r1, wfI L xs f off 0 = some r1 ∧
    r = (match r1 with | .error k => some k | .ok (_, o) => if more then none else if o = xs.length then none else some 4))
/-- An error's value, or none. -/
def ErrO (r : Option Nat) (v : Value) : Prop :=
  match r with
  | none => v = .nilIface
  | some k => ErrV k v
section
variable {w : World} {d db o c dm off n el pa : Nat} {L : Lim} {xs : List UInt8}

theorem wellformed (hn : L.nest ≤ 65535) (hel : L.el ≤ 2147483647) (hpa : L.pa ≤ 2147483647) (h : Dec w d db o c dm xs off) (hM : DecM w dm L.nest L.el L.pa) (hmd : dm ≠ d) (more : Bool) (r : Option Nat) (hr : wfTop L xs more off r) :
    Calls Tryz.prog 101 #[.pointer (some ⟨d, 0, none⟩), .bool more, .bool false] w fun e w' => ∃ v, e = .returned v ∧ ErrO r v ∧ (∃ u, DecV w' d db o c dm xs u) ∧ Fr [d] w w' := by
  have k0 := h.c0
  have k1 := h.c1
  have hle := h.le
  have hlen := h.len
  rcases hr with ⟨hl, rfl⟩ | ⟨hl, f, r1, hr1, rfl⟩
  · have g0 : ((xs.length : Int) == (off : Int)) = true := by simp; omega
    go_enter Tryz.func101, Tryz.ntmps101
    go_wp2
    go_quiet (fail)
    go_wp2
    go_ret
    exact ⟨_, rfl, by simp [ErrO, ErrV, eofS], ⟨_, by repeat (first | with_reducible exact h.v | with_reducible apply DecV.drewN)⟩, by
      repeat (first | with_reducible exact Fr.refl _ _ | with_reducible refine Fr.drewN ?_ _)⟩
  · have g0 : ((xs.length : Int) == (off : Int)) = false := by simp; omega
    go_enter Tryz.func101, Tryz.ntmps101
    go_wp2
    go_quiet (fail)
    have K : ∀ m, Calls Tryz.prog 114 #[.pointer (some ⟨d, 0, none⟩), .int .i64 ((0 : Nat) : Int), .bool false] (w.drewN m) (WPost (w.drewN m) d db o c dm xs r1) := fun m => item_all L xs hn hel hpa f (w.drewN m) d db o c dm off 0 r1 (h.drewN m) hM hmd (by omega) hr1
    replace K := Lib.hid K
    go_wp2_with fail
    refine (K.out _).mono ?_
    rintro e w1 h1
    rcases r1 with k | ⟨D, o'⟩
    · obtain ⟨v, rfl, hv, ⟨u, hu⟩, hf⟩ := h1
      obtain ⟨t, x, rfl⟩ := hv.iface
      go_wp2
      go_ret
      exact ⟨_, rfl, hv, ⟨_, hu⟩, by
        refine Fr.trans ?_ hf
        repeat (first | with_reducible exact Fr.refl _ _ | with_reducible refine Fr.drewN ?_ _)⟩
    · obtain ⟨rfl, hD, hf⟩ := h1
      have k0 := hD.c0
      have k1 := hD.c1
      go_wp2
      rcases more with _ | _
      · by_cases he : o' = xs.length
        · have g1 : ((o' : Int) != (xs.length : Int)) = false := by simp; omega
          go_quiet (fail)
          go_wp2
          go_ret
          exact ⟨_, rfl, by simp [he, ErrO], ⟨_, by repeat (first | with_reducible exact hD.v | with_reducible apply DecV.drewN)⟩, by
            refine Fr.trans (w' := w1) ?_ ?_
            · refine Fr.trans ?_ hf
              repeat (first | with_reducible exact Fr.refl _ _ | with_reducible refine Fr.drewN ?_ _)
            · repeat (first | with_reducible exact Fr.refl _ _ | with_reducible refine Fr.drewN ?_ _)⟩
        · have g1 : ((o' : Int) != (xs.length : Int)) = true := by simp; omega
          go_quiet (fail)
          go_wp2
          go_region
          all_goals
            go_wp2
            go_ret
            refine ⟨_, rfl, ?_, ?_, ?_⟩
            · simp only [he, if_false, Bool.false_eq_true]
              exact errv_ptr 4 (by omega) _
            · apply Exists.intro
              repeat (first | with_reducible exact hD.v | with_reducible apply DecV.drewN | with_reducible apply DecV.alloc | with_reducible apply DecV.drew)
            · refine Fr.trans (w' := w1) ?_ ?_
              · refine Fr.trans ?_ hf
                repeat (first | with_reducible exact Fr.refl _ _ | with_reducible refine Fr.drewN ?_ _)
              · repeat (first | with_reducible exact Fr.refl _ _ | with_reducible refine Fr.drewN ?_ _ | with_reducible refine Fr.alloc ?_ _ | with_reducible refine Fr.drew ?_)
      · go_quiet (fail)
        go_wp2
        go_ret
        exact ⟨_, rfl, rfl, ⟨_, by repeat (first | with_reducible exact hD.v | with_reducible apply DecV.drewN)⟩, by
          refine Fr.trans (w' := w1) ?_ ?_
          · refine Fr.trans ?_ hf
            repeat (first | with_reducible exact Fr.refl _ _ | with_reducible refine Fr.drewN ?_ _)
          · repeat (first | with_reducible exact Fr.refl _ _ | with_reducible refine Fr.drewN ?_ _)⟩
end
end
end Go.Proofs.YteodinhkhhaafaaGreatDoor
