/- The item of diagnose: numbers. -/
import Derived.Test.YteodinhkhhaafaaGreatDoorWr
import Derived.Deep.RegionHeld3
set_option linter.unusedVariables false
set_option linter.unusedSimpArgs false
namespace Go.Proofs.YteodinhkhhaafaaGreatDoor
open Go.RowKit

section
variable {X : Cx} {off : Nat} {bs : List UInt8} {w : World}
set_option maxRecDepth 100000 in
set_option maxHeartbeats 3200000 in
theorem di_uint (h : St X off bs w) {ai v o1 : Nat} (hh : hd X.xs off = .ok (0, ai, v, o1)) (hlen : bs.length + (dec v).length ≤ room) :
    Calls Tryz.prog 105 #[.pointer (some ⟨X.di, 0, none⟩)] w (IPost X o1 bs (dec v, none) w) := by
  obtain ⟨hl, hb1, hb2⟩ := hd_byte hh
  have hv := (hd_val hh).1
  have hai := (hd_off hh).2.2.2
  have hai2 := (hd_off hh).2.2.1
  have k1 := h.i1
  have k2 := h.i2
  have d0 := h.dec.c0
  have d1 := h.dec.c1
  have ha := h.dec.at_ off hl
  have hm := h.dec.len
  have KT := fun n => nextCBORType (h.dec.drewN n) hl
  rw [hb1] at KT
  have KH := fun n => getHead (h.dec.drewN n) hh
  have KF := Lib.hid (formatUint v hv)
  replace KT := Lib.hid KT
  replace KH := Lib.hid KH
  replace hh := Lib.hid hh
  have g95 : ((X.xs[off].toNat : Int) == 95) = false := by simp; omega
  have g127 : ((X.xs[off].toNat : Int) == 127) = false := by simp; omega
  have g159 : ((X.xs[off].toNat : Int) == 159) = false := by simp; omega
  have g191 : ((X.xs[off].toNat : Int) == 191) = false := by simp; omega
  generalize (X.xs[off].toNat : Int) = x0 at *
  clear hb1 hb2 hai
  have b1 : (off : Int) < (X.xs.length : Int) := by omega
  have b2 : (0 : Int) ≤ (off : Int) := by omega
  have b3 : (off : Int).toNat = off := by omega
  go_enter Tryz.func105, Tryz.ntmps105
  go_wp2
  go_quiet (fail)
  go_wp2_with fail
  refine (KT.out _).mono ?_
  rintro e w1 ⟨rfl, nm, rfl⟩
  go_wp2_with fail
  refine (KH.out _).mono ?_
  rintro e w1 ⟨rfl, hD, hf⟩
  have h1 := (h.drewN _).moved hf hD
  have G1 := h.grF (((Fr.refl [X.d] w).drewN _).trans hf)
  have k1 := h1.i1
  have k2 := h1.i2
  go_wp2
  go_region_held3 (fun w' => w'.cell? ⟨X.di, 2, none⟩ = some (.pointer (some ⟨X.wb, 0, none⟩))) (first | go_keep | exact h2.i2 | exact h3.i2)
    (first | (go_at_call 122; refine (KF.out _).mono ?_; rintro e w2 ⟨rfl, hf2⟩; have h2 := St.kept (by first | exact h1 | exact St.drewN h1 _) hf2; have G2 := (St.gr0 (by first | exact h1 | exact St.drewN h1 _) hf2)) | (go_at_call 104; refine (writeString h2.buf h2.lw h2.hB (dec v) hlen).mono ?_; rintro e w3 ⟨⟨u3, rfl⟩, hb3, hg3⟩; have h3 := h2.wrote hg3 hb3))
  go_wp2
  go_ret
  exact ⟨_, _, rfl, rfl, fun _ => rfl, h3, (G1.drewN 1).trans (Gr.trans G2 (St.grW hg3))⟩
end
end Go.Proofs.YteodinhkhhaafaaGreatDoor
