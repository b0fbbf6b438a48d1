/- The walk of wellformedInternal: tags; the whole; wellformed. -/
import Derived.Test.YteodinhkhhaafaaGreatDoorWm
set_option linter.unusedVariables false
set_option linter.unusedSimpArgs false
namespace Go.Proofs.YteodinhkhhaafaaGreatDoor
open Go.RowKit

section
variable {w : World} {d db o c dm off dep : Nat} {L : Lim} {xs : List UInt8}
set_option maxRecDepth 100000 in
set_option maxHeartbeats 1600000 in
theorem item_tag (h : Dec w d db o c dm xs off) (hM : DecM w dm L.nest L.el L.pa) (hmd : dm ≠ d) (hdep : dep ≤ 65535) {ai v o1 f : Nat} (hn : L.nest ≤ 65535) (IH : ∀ g, g < f → Item L xs g) (r : Except Nat (Nat × Nat)) (hh : hd xs off = .ok (6, ai, v, o1)) (hr : wfT L xs f o1 dep = some r) :
    Calls Tryz.prog 114 #[.pointer (some ⟨d, 0, none⟩), .int .i64 (dep : Int), .bool false] w (WPost w d db o c dm xs r) := by
  have KI := ihead h hM hmd
  rw [hh] at KI
  have hv := hd_val hh
  have hm := h.len
  have n3 : ¬ dm = d := hmd
  have n4 : ¬ d = dm := fun e => hmd e.symm
  have g0 : ((ai : Int) == 31) = false := by have := (hd_off hh).2.2.2; simp; omega
  replace hr := Lib.hid hr
  replace IH := Lib.hid IH
  replace KI := Lib.hid KI
  replace hh := Lib.hid hh
  clear hv
  go_enter Tryz.func114, Tryz.ntmps114
  go_wp2_with fail
  refine KI.out.mono ?_
  rintro e w1 ⟨rfl, hD, hf⟩
  have hM1 := hM.fr hf (by simpa using hmd)
  have k0 := hD.c0
  have k1 := hD.c1
  have k2 := hD.c2
  have kf := hD.f1
  have m1 : w1.cell? ⟨dm, 1, none⟩ = some (.int .i64 (L.nest : Int)) := hM1.cell 1
  have m2 : w1.cell? ⟨dm, 2, none⟩ = some (.int .i64 (L.el : Int)) := hM1.cell 2
  have m3 : w1.cell? ⟨dm, 3, none⟩ = some (.int .i64 (L.pa : Int)) := hM1.cell 3
  have m4 : w1.cell? ⟨dm, 4, none⟩ = some (.int .i64 0) := hM1.cell 4
  have m5 : w1.cell? ⟨dm, 5, none⟩ = some (.int .i64 0) := hM1.cell 5
  have m11 : w1.cell? ⟨dm, 11, none⟩ = some (.pointer none) := hM1.cell 11
  have m14 : w1.cell? ⟨dm, 14, none⟩ = some (.int .i64 0) := hM1.cell 14
  go_wp2
  go_loopg [1, 20] f (fun k v1 v20 wr => ∃ dep off tn : Nat, v1 = .int .i64 (dep : Int) ∧ v20 = .int .u64 (tn : Int) ∧ k ≤ f ∧ dep ≤ 65535 ∧ Hid (wfT L xs k off dep = some r) ∧ Dec wr d db o c dm xs off ∧ Fr [d] w1 wr)
  case atStart => exact ⟨dep, o1, v, rfl, rfl, Nat.le_refl _, hdep, hr, hD, Fr.refl _ _⟩
  case round =>
    obtain ⟨dep, off2, tn, rfl, rfl, hk, hdep, hr2, hD2, hf2⟩ := hrel
    clear k0 k1 k2 kf m1 m2 m3 m4 m5 m11 m14
    have hr2 := hr2.out
    rcases gk with _ | g
    · simp [wfT] at hr2
    unfold wfT at hr2
    have hM2 : DecM wr dm L.nest L.el L.pa := hM1.fr hf2 (by simpa using hmd)
    have k0 := hD2.c0
    have k1 := hD2.c1
    have k2 := hD2.c2
    have kf := hD2.f1
    have m1 : wr.cell? ⟨dm, 1, none⟩ = some (.int .i64 (L.nest : Int)) := hM2.cell 1
    have m14 : wr.cell? ⟨dm, 14, none⟩ = some (.int .i64 0) := hM2.cell 14
    cases hx : xs[off2]? with
    | none =>
      rw [hx] at hr2
      cases hr2
      have hoff : off2 = xs.length := Nat.le_antisymm hD2.le (by simpa using List.getElem?_eq_none_iff.1 hx)
      have g1 : ((xs.length : Int) == (off2 : Int)) = true := by simp; omega
      have g2 : (xs.length == off2) = true := by simp; omega
      clear hx
      replace hoff := Lib.hid hoff
      go_wp2
      go_quiet (fail)
      go_wp2
      go_ret2
      exact ⟨_, rfl, rfl, ⟨_, hD2.v.drewN _⟩, (hf.trans hf2).drewN _⟩
    | some b =>
      obtain ⟨hl, rfl⟩ := getElem?_lt hx
      rw [hx] at hr2
      dsimp only at hr2
      have ha := hD2.at_ off2 hl
      have hb8 := u8lt xs[off2]
      have g1 : ((xs.length : Int) == (off2 : Int)) = false := by simp; omega
      have g2 : (xs.length == off2) = false := by simp; omega
      clear hx
      have K := Lib.hid (getType xs[off2])
      by_cases h6 : xs[off2].toNat / 32 = 6
      · rw [if_neg (fun hh => hh h6)] at hr2
        have g4 : ((xs[off2].toNat : Int) / 32 * 32 != 192) = false := by rw [bne_eq_false_iff_eq]; omega
        replace h6 := Lib.hid h6
        have KH := fun n : Nat => wellformedHead (hD2.drewN n) hM2 hmd
        cases hH : hd xs off2 with
        | error k =>
          rw [hH] at hr2 KH
          cases hr2
          replace KH := Lib.hid KH
          clear hH
          go_wp2
          go_quiet (fail)
          go_wp2
          go_quiet ((go_at_call 158; exact quiet2 (quiet_same (K.out _))))
          go_wp2_with fail
          refine (KH.out _).mono ?_
          rintro e w2 ⟨v2, rfl, hv2, hu2, hf3⟩
          obtain ⟨t, x, rfl⟩ := hv2.iface
          go_wp2
          go_ret2
          exact ⟨_, rfl, hv2, hu2, (hf.trans hf2).trans ⟨hf3.os, hf3.tape, hf3.output, hf3.size, hf3.block⟩⟩
        | ok q =>
          obtain ⟨mm, ai2, v2, o2⟩ := q
          rw [hH] at hr2 KH
          dsimp only at hr2
          replace KH := Lib.hid KH
          clear hH
          have TAIL : True := trivial
          by_cases hs : L.nest < dep + 1
          · rw [if_pos hs] at hr2
            cases hr2
            have t1 : (L.nest : Int) < (dep : Int) + 1 := by omega
            clear hs
            go_wp2
            go_quiet (fail)
            go_wp2
            go_quiet ((go_at_call 158; exact quiet2 (quiet_same (K.out _))))
            go_wp2_with fail
            refine (KH.out _).mono ?_
            rintro e w2 ⟨rfl, hD3, hf3⟩
            have hf3' : Fr [d] wr w2 := ⟨hf3.os, hf3.tape, hf3.output, hf3.size, hf3.block⟩
            have kk2 := hD3.c2
            have hM3 := hM2.fr hf3' (by simpa using hmd)
            have mm1 : w2.cell? ⟨dm, 1, none⟩ = some (.int .i64 (L.nest : Int)) := hM3.cell 1
            clear hf3
            go_wp2
            go_region
            all_goals
              go_wp2
              go_ret2
              refine ⟨_, rfl, errv_ptr 5 (by omega) _, ?_, ((hf.trans hf2).trans hf3').trans ?_⟩
              · apply Exists.intro
                repeat (first | with_reducible exact hD3.v | with_reducible apply DecV.alloc | with_reducible apply DecV.drewN | with_reducible apply DecV.drew)
              · repeat (first | with_reducible exact Fr.refl _ _ | with_reducible refine Fr.alloc ?_ _ | with_reducible refine Fr.drewN ?_ _ | with_reducible refine Fr.drew ?_)
          · rw [if_neg hs] at hr2
            have t1 : ¬ (L.nest : Int) < (dep : Int) + 1 := by omega
            have hd5 : dep + 1 ≤ 65535 := by omega
            clear hs
            replace hr2 := Lib.hid hr2
            go_wp2
            go_quiet (fail)
            go_wp2
            go_quiet ((go_at_call 158; exact quiet2 (quiet_same (K.out _))))
            go_wp2_with fail
            refine (KH.out _).mono ?_
            rintro e w2 ⟨rfl, hD3, hf3⟩
            have hf3' : Fr [d] wr w2 := ⟨hf3.os, hf3.tape, hf3.output, hf3.size, hf3.block⟩
            have kk2 := hD3.c2
            have hM3 := hM2.fr hf3' (by simpa using hmd)
            have mm1 : w2.cell? ⟨dm, 1, none⟩ = some (.int .i64 (L.nest : Int)) := hM3.cell 1
            clear hf3
            go_wp2
            go_roundg g
            case measure => omega
            case rel => exact ⟨dep + 1, o2, v2, by go_num, rfl, by omega, hd5, hr2, hD3, hf2.trans hf3'⟩
      · rw [if_pos h6] at hr2
        have g4 : ((xs[off2].toNat : Int) / 32 * 32 != 192) = true := by rw [bne_iff_ne]; omega
        replace h6 := Lib.hid h6
        have C := fun n : Nat => IH.out g (by omega) (wr.drewN n) d db o c dm off2 dep r (hD2.drewN n) hM2 hmd hdep hr2
        replace C := Lib.hid C
        clear hr2
        go_wp2
        go_quiet (fail)
        go_wp2
        go_quiet ((go_at_call 158; exact quiet2 (quiet_same (K.out _))))
        go_wp2_with fail
        refine (C.out _).mono ?_
        rintro e w2 h2
        rcases r with k | ⟨D, o'⟩
        · obtain ⟨v2, rfl, hv2, hu2, hf3⟩ := h2
          go_wp2
          go_ret2
          exact ⟨_, rfl, hv2, hu2, (hf.trans hf2).trans ⟨hf3.os, hf3.tape, hf3.output, hf3.size, hf3.block⟩⟩
        · obtain ⟨rfl, hD3, hf3⟩ := h2
          go_wp2
          go_ret2
          exact ⟨rfl, hD3, (hf.trans hf2).trans ⟨hf3.os, hf3.tape, hf3.output, hf3.size, hf3.block⟩⟩
end
end Go.Proofs.YteodinhkhhaafaaGreatDoor
