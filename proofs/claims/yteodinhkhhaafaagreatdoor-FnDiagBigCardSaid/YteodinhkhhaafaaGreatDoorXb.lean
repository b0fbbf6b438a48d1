/- The item of diagnose: tags, simple values. -/
import Derived.Test.YteodinhkhhaafaaGreatDoorWt
import Derived.Deep.RegionHeld3
set_option linter.unusedVariables false
set_option linter.unusedSimpArgs false
namespace Go.Proofs.YteodinhkhhaafaaGreatDoor
open Go.RowKit

section
variable {X : Cx} {off : Nat} {bs : List UInt8} {w : World}
theorem Togo.lt {bs bs0 : List UInt8} {x : UInt8} {r r0 : R} (h : Togo bs (thenR (txt [x]) r) bs0 r0) (hl : bs0.length + r0.1.length ≤ room) : bs.length < 140737488355328 := by
  have := h.len_tx hl
  unfold room at this
  rw [List.length_singleton] at this
  omega
theorem Togo.lt1 {bs bs0 : List UInt8} {x : UInt8} {r0 : R} (h : Togo bs (txt [x]) bs0 r0) (hl : bs0.length + r0.1.length ≤ room) : bs.length < 140737488355328 := by
  have := h.len hl
  unfold room txt at this
  rw [List.length_singleton] at this
  omega
set_option maxRecDepth 100000 in
set_option maxHeartbeats 3200000 in
theorem di_tag (h : St X off bs w) {ai v o1 off2 : Nat} {r5 : R} (hh : hd X.xs off = .ok (6, ai, v, o1)) (h2 : v ≠ 2) (h3 : v ≠ 3) (hC : ItemC X o1 off2 r5) {res : R} (hres : thenR (txt (dec v)) (thenR (txt [40]) (thenR r5 (txt [41]))) = res) (hlen : bs.length + res.1.length ≤ room) :
    Calls Tryz.prog 105 #[.pointer (some ⟨X.di, 0, none⟩)] w (IPost X off2 bs res w) := by
  obtain ⟨hl, hb1, hb2⟩ := hd_byte hh
  have hv := (hd_val hh).1
  have hai := (hd_off hh).2.2.2
  have hai2 := (hd_off hh).2.2.1
  have k1 := h.i1
  have k2 := h.i2
  have d0 := h.dec.c0
  have d1 := h.dec.c1
  have ha := h.dec.at_ off hl
  have hm := h.dec.len
  have KT := fun n => nextCBORType (h.dec.drewN n) hl
  rw [hb1] at KT
  have KH := fun n => getHead (h.dec.drewN n) hh
  have KF := Lib.hid (formatUint v hv)
  have gt2 : ((v : Int) == 2) = false := by simp; omega
  have gt3 : ((v : Int) == 3) = false := by simp; omega
  have L0 : Togo bs (thenR (txt (dec v)) (thenR (txt [40]) (thenR r5 (txt [41])))) bs res := by rw [hres]; exact Togo.refl _ _
  replace hres := Lib.hid hres
  replace L0 := Lib.hid L0
  replace hC := Lib.hid hC
  have hlen1 := Lib.hid (L0.out.len_tx hlen)
  replace KT := Lib.hid KT
  replace KH := Lib.hid KH
  replace hh := Lib.hid hh
  have g95 : ((X.xs[off].toNat : Int) == 95) = false := by simp; omega
  have g127 : ((X.xs[off].toNat : Int) == 127) = false := by simp; omega
  have g159 : ((X.xs[off].toNat : Int) == 159) = false := by simp; omega
  have g191 : ((X.xs[off].toNat : Int) == 191) = false := by simp; omega
  generalize (X.xs[off].toNat : Int) = x0 at *
  clear hb1 hb2 hai
  have b1 : (off : Int) < (X.xs.length : Int) := by omega
  have b2 : (0 : Int) ≤ (off : Int) := by omega
  have b3 : (off : Int).toNat = off := by omega
  go_enter Tryz.func105, Tryz.ntmps105
  go_wp2
  go_quiet (fail)
  go_wp2_with fail
  refine (KT.out _).mono ?_
  rintro e w1 ⟨rfl, nm, rfl⟩
  go_wp2_with fail
  refine (KH.out _).mono ?_
  rintro e w1 ⟨rfl, hD, hf⟩
  have h1 := (h.drewN _).moved hf hD
  have G1 := h.grF (((Fr.refl [X.d] w).drewN _).trans hf)
  have k1 := h1.i1
  have k2 := h1.i2
  go_wp2
  go_region_held3 (fun w' => w'.cell? ⟨X.di, 2, none⟩ = some (.pointer (some ⟨X.wb, 0, none⟩))) (first | go_keep | exact h2.i2 | exact h3.i2)
    (first | (go_at_call 122; refine (KF.out _).mono ?_; rintro e w2 ⟨rfl, hf2⟩; have h2 := St.kept (by first | exact h1 | exact St.drewN h1 _) hf2; have G2 := (St.gr0 (by first | exact h1 | exact St.drewN h1 _) hf2)) | (go_at_call 104; refine (writeString h2.buf h2.lw h2.hB (dec v) hlen1.out).mono ?_; rintro e w3 ⟨⟨u3, rfl⟩, hb3, hg3⟩; have h3 := h2.wrote hg3 hb3))
  have G3 := (G1.drewN 1).trans (Gr.trans G2 (St.grW hg3))
  have L3 := Lib.hid L0.out.tx
  have K4 := Lib.hid (fun n => writeByte (h3.drewN n).buf h3.lw (h3.drewN n).hB 40 (L3.out.lt hlen))
  go_wp2_with fail
  refine (K4.out 0).mono ?_
  rintro e w4 ⟨rfl, hb4, hg4⟩
  have h4 := h3.wrote hg4 hb4
  have G4 := G3.trans (St.grW hg4)
  have L4 := Lib.hid L3.out.tx
  have K5 := Lib.hid (hC.out _ _ h4 (L4.out.len1 hlen))
  go_wp2_with fail
  refine K5.out.mono ?_
  rintro e w5 ⟨v5, o5, rfl, hv5, ho5, h5, hG5⟩
  have G5 := G4.trans hG5
  rcases hr5 : r5.2 with _ | k
  · rw [hr5] at hv5
    obtain rfl := hv5.nil
    have L5 := Lib.hid (L4.out.ok hr5)
    rw [ho5 hr5] at h5
    have i1_5 := h5.i1
    have i2_5 := h5.i2
    have K6 := Lib.hid (fun n => writeByte (h5.drewN n).buf h5.lw (h5.drewN n).hB 41 (L5.out.lt1 hlen))
    go_wp2_with fail
    refine (K6.out 0).mono ?_
    rintro e w6 ⟨rfl, hb6, hg6⟩
    have h6 := h5.wrote hg6 hb6
    have G6 := G5.trans (St.grW hg6)
    go_wp2
    go_ret
    exact IPost.done h6 G6 L5.out
  · rw [hr5] at hv5
    obtain ⟨t, x, rfl⟩ := hv5.ne
    go_wp2
    go_ret
    exact IPost.err (w1 := w) hv5 h5 G5 (L4.out.err hr5)
end
end Go.Proofs.YteodinhkhhaafaaGreatDoor
