/- The walk of encodeByteString: the bases. -/
import Derived.Test.YteodinhkhhaafaaGreatDoorXb
import Derived.Test.YteodinhkhhaafaaGreatDoorKe
import Derived.Deep.RegionHeld3
set_option linter.unusedVariables false
set_option linter.unusedSimpArgs false
namespace Go.Proofs.YteodinhkhhaafaaGreatDoor
open Go.RowKit

theorem St.i3 {X : Cx} {off : Nat} {bs : List UInt8} {w : World} (h : St X off bs w) : w.cell? ⟨X.dg, 0, none⟩ = some (.int .u8 (X.M.enc : Int)) := cell_blk h.dg 0
theorem St.i4 {X : Cx} {off : Nat} {bs : List UInt8} {w : World} (h : St X off bs w) : w.cell? ⟨X.dg, 1, none⟩ = some (.bool X.M.sp) := cell_blk h.dg 1
theorem St.i5 {X : Cx} {off : Nat} {bs : List UInt8} {w : World} (h : St X off bs w) : w.cell? ⟨X.dg, 2, none⟩ = some (.bool X.M.tx) := cell_blk h.dg 2
theorem St.i6 {X : Cx} {off : Nat} {bs : List UInt8} {w : World} (h : St X off bs w) : w.cell? ⟨X.dg, 3, none⟩ = some (.bool X.M.em) := cell_blk h.dg 3
theorem St.i7 {X : Cx} {off : Nat} {bs : List UInt8} {w : World} (h : St X off bs w) : w.cell? ⟨X.dg, 6, none⟩ = some (.pointer (some ⟨X.dm, 0, none⟩)) := cell_blk h.dg 6
theorem noteB_0 (b : List UInt8) : noteB 0 false b = [104, 39] ++ (hexB hexD b ++ [39]) := by simp [noteB]
theorem noteB_s (b : List UInt8) : noteB 0 true b = [104, 39] ++ (spacedB hexD 0 b ++ [39]) := by simp [noteB]
theorem noteB_1 (sp : Bool) (b : List UInt8) : noteB 1 sp b = [98, 51, 50, 39] ++ (baseB 5 b32D b ++ [39]) := by simp [noteB]
theorem noteB_2 (sp : Bool) (b : List UInt8) : noteB 2 sp b = [104, 51, 50, 39] ++ (baseB 5 h32D b ++ [39]) := by simp [noteB]
theorem noteB_3 (sp : Bool) (b : List UInt8) : noteB 3 sp b = [98, 54, 52, 39] ++ (baseB 6 b64D b ++ [39]) := by simp [noteB]
theorem spaced_snoc (ds : List UInt8) (x : UInt8) : ∀ (l : List UInt8) (i : Nat), spacedB ds i (l ++ [x]) = spacedB ds i l ++ ((if i + l.length = 0 then [] else [32]) ++ hexB ds [x])
  | [], i => by simp [spacedB]
  | c :: l, i => by
    rw [List.cons_append, spacedB, spaced_snoc ds x l (i + 1), spacedB, List.length_cons, show i + 1 + l.length = i + (l.length + 1) by omega]
    simp only [List.append_assoc]
theorem spaced_length (ds : List UInt8) : ∀ (l : List UInt8) (i : Nat), (spacedB ds i l).length ≤ 3 * l.length
  | [], i => by simp [spacedB]
  | c :: l, i => by
    have := spaced_length ds l (i + 1)
    rw [spacedB, List.length_append, List.length_append, hexB_length]
    have : (if i = 0 then ([] : List UInt8) else [32]).length ≤ 1 := by split <;> simp
    simp
    omega
/-- What falls through to the bases. -/
def Falls (X : Cx) (b : List UInt8) : Prop := b = [] ∨ X.M.tx = false ∧ X.M.em = false
section
variable {X : Cx} {off : Nat} {bs : List UInt8} {w : World}
set_option maxRecDepth 100000 in
set_option maxHeartbeats 3200000 in
theorem encBytes_hex (h : St X off bs w) {vb q c : Nat} {b : List UInt8} (hvb : vb < X.B) (hvw : vb ≠ X.wb) (hvd : vb ≠ X.d) (hrd : Rd w vb q b) (hbl : b.length ≤ 1099511627776) (henc : X.M.enc = 0) (hsp : X.M.sp = false) (hfall : Falls X b) (hlen : bs.length + (noteB X.M.enc X.M.sp b).length ≤ room) :
    Calls Tryz.prog 130 #[.pointer (some ⟨X.di, 0, none⟩), .slice (some ⟨vb, q, none⟩) b.length c] w (IPost X off bs (txt (noteB X.M.enc X.M.sp b)) w) := by
  rw [henc, hsp] at hlen ⊢
  rw [noteB_0] at hlen ⊢
  have L0 : Togo bs (thenR (txt [104, 39]) (thenR (txt (hexB hexD b)) (txt [39]))) bs (txt ([104, 39] ++ ((hexB hexD b) ++ [39]))) := Togo.refl _ _
  replace L0 := Lib.hid L0
  replace hlen := Lib.hid hlen
  replace hrd := Lib.hid hrd
  have KB := Lib.hid (fun (w' : World) (hr : Rd w' vb q b) => zzHex (c := c) hr hbl)
  go_enter Tryz.func130, Tryz.ntmps130
  go_upto_if 12 with (fail)
  go_cut [4] (fun s4 wx => s4 = .nilIface ∧ St X off bs wx ∧ Rd wx vb q b ∧ Gr X.B [X.d, X.wb] w wx)
  case first =>
    rcases hfall with hb0 | ⟨htx, hem⟩
    · have t0 : ¬ (0 : Int) < (b.length : Int) := by rw [hb0]; simp
      clear hb0
      go_wp2
      go_meet
      exact ⟨rfl, h, hrd.out, Gr.refl _ _ _⟩
    · by_cases hb0 : 0 < b.length
      · have t0 : (0 : Int) < (b.length : Int) := by omega
        have k0 := h.i0
        have k5 := h.i5
        have k6 := h.i6
        rw [htx] at k5
        rw [hem] at k6
        clear htx hem
        go_wp2
        go_meet
        exact ⟨rfl, h, hrd.out, Gr.refl _ _ _⟩
      · have t0 : ¬ (0 : Int) < (b.length : Int) := by omega
        clear htx hem
        go_wp2
        go_meet
        exact ⟨rfl, h, hrd.out, Gr.refl _ _ _⟩
  case rest =>
    obtain ⟨rfl, h1, hR, G1⟩ := hcut
    replace hR := Lib.hid hR
    have k0 := h1.i0
    have k2 := h1.i2
    have k3 := h1.i3
    rw [henc] at k3
    clear henc hfall
    have K1 := Lib.hid (fun n => writeString (h1.drewN n).buf h1.lw (h1.drewN n).hB [104, 39] (L0.out.len_tx hlen.out))
    go_wp2_with fail
    refine (K1.out 0).mono ?_
    rintro e w2 ⟨⟨u2, rfl⟩, hb2, hg2⟩
    have h2 := h1.wrote hg2 hb2
    have G2 := G1.trans (St.grW hg2)
    have hR2 := Lib.hid (hg2.rd hR.out hvb (by simpa using hvw))
    have L2 := Lib.hid L0.out.tx
    have k0' := h2.i0
    have k2' := h2.i2
    have k3' := h2.i3
    have k4' := h2.i4
    rw [hsp] at k4'
    clear hsp
    go_wp2
    go_region_held3 (fun w' => w'.cell? ⟨X.di, 2, none⟩ = some (.pointer (some ⟨X.wb, 0, none⟩))) (first | go_keep | exact h3.i2 | exact h4.i2)
      (first | (go_at_call 170; refine (KB.out _ (hR2.out.fr ((Fr.refl [] w2).drewN 1) (by simp))).mono ?_; rintro e w3 ⟨v3, rfl, hr3, hf3⟩; have hr3' := hr3.src; have h3 := St.kept (h2.drewN 1) hf3; have G3 := (St.gr0 (h2.drewN 1) hf3)) | (go_at_call 171; refine (writeSrc h3.buf h3.lw h3.hB (hexB hexD b) _ hr3' (L2.out.len_tx hlen.out)).mono ?_; rintro e w4 ⟨⟨u4, rfl⟩, hb4, hg4⟩; have h4 := h3.wrote hg4 hb4))
    have G4 := (G2.drewN 1).trans (G3.trans (St.grW hg4))
    have L4 := Lib.hid L2.out.tx
    have k2'' := h4.i2
    have K5 := Lib.hid (fun n => writeByte (h4.drewN n).buf h4.lw (h4.drewN n).hB 39 (L4.out.lt1 hlen.out))
    go_wp2_with fail
    refine (K5.out 0).mono ?_
    rintro e w5 ⟨rfl, hb5, hg5⟩
    have h5 := h4.wrote hg5 hb5
    have G5 := G4.trans (St.grW hg5)
    go_wp2
    go_ret
    exact IPost.done h5 G5 L4.out
set_option maxRecDepth 100000 in
set_option maxHeartbeats 3200000 in
theorem encBytes_b32 (h : St X off bs w) {vb q c : Nat} {b : List UInt8} (hvb : vb < X.B) (hvw : vb ≠ X.wb) (hvd : vb ≠ X.d) (hrd : Rd w vb q b) (hbl : b.length ≤ 1099511627776) (henc : X.M.enc = 1) (hfall : Falls X b) (hlen : bs.length + (noteB X.M.enc X.M.sp b).length ≤ room) :
    Calls Tryz.prog 130 #[.pointer (some ⟨X.di, 0, none⟩), .slice (some ⟨vb, q, none⟩) b.length c] w (IPost X off bs (txt (noteB X.M.enc X.M.sp b)) w) := by
  rw [henc] at hlen ⊢
  rw [noteB_1] at hlen ⊢
  have L0 : Togo bs (thenR (txt [98, 51, 50, 39]) (thenR (txt (baseB 5 b32D b)) (txt [39]))) bs (txt ([98, 51, 50, 39] ++ ((baseB 5 b32D b) ++ [39]))) := Togo.refl _ _
  replace L0 := Lib.hid L0
  replace hlen := Lib.hid hlen
  replace hrd := Lib.hid hrd
  have KB := Lib.hid (fun (w' : World) (hr : Rd w' vb q b) => zzBase32 (ds := b32D) (c := c) rfl hr hbl)
  go_enter Tryz.func130, Tryz.ntmps130
  go_upto_if 12 with (fail)
  go_cut [4] (fun s4 wx => s4 = .nilIface ∧ St X off bs wx ∧ Rd wx vb q b ∧ Gr X.B [X.d, X.wb] w wx)
  case first =>
    rcases hfall with hb0 | ⟨htx, hem⟩
    · have t0 : ¬ (0 : Int) < (b.length : Int) := by rw [hb0]; simp
      clear hb0
      go_wp2
      go_meet
      exact ⟨rfl, h, hrd.out, Gr.refl _ _ _⟩
    · by_cases hb0 : 0 < b.length
      · have t0 : (0 : Int) < (b.length : Int) := by omega
        have k0 := h.i0
        have k5 := h.i5
        have k6 := h.i6
        rw [htx] at k5
        rw [hem] at k6
        clear htx hem
        go_wp2
        go_meet
        exact ⟨rfl, h, hrd.out, Gr.refl _ _ _⟩
      · have t0 : ¬ (0 : Int) < (b.length : Int) := by omega
        clear htx hem
        go_wp2
        go_meet
        exact ⟨rfl, h, hrd.out, Gr.refl _ _ _⟩
  case rest =>
    obtain ⟨rfl, h1, hR, G1⟩ := hcut
    replace hR := Lib.hid hR
    have k0 := h1.i0
    have k2 := h1.i2
    have k3 := h1.i3
    rw [henc] at k3
    clear henc hfall
    have K1 := Lib.hid (fun n => writeString (h1.drewN n).buf h1.lw (h1.drewN n).hB [98, 51, 50, 39] (L0.out.len_tx hlen.out))
    go_wp2_with fail
    refine (K1.out 0).mono ?_
    rintro e w2 ⟨⟨u2, rfl⟩, hb2, hg2⟩
    have h2 := h1.wrote hg2 hb2
    have G2 := G1.trans (St.grW hg2)
    have hR2 := Lib.hid (hg2.rd hR.out hvb (by simpa using hvw))
    have L2 := Lib.hid L0.out.tx
    have k0' := h2.i0
    have k2' := h2.i2
    have k3' := h2.i3
    have k4' := h2.i4
    go_wp2
    go_region_held3 (fun w' => w'.cell? ⟨X.di, 2, none⟩ = some (.pointer (some ⟨X.wb, 0, none⟩))) (first | go_keep | exact h3.i2 | exact h4.i2)
      (first | (go_at_call 172; refine (KB.out _ (hR2.out.fr ((Fr.refl [] w2).drewN 1) (by simp))).mono ?_; rintro e w3 ⟨v3, rfl, hr3, hf3⟩; have hr3' := hr3.src; have h3 := St.kept (h2.drewN 1) hf3; have G3 := (St.gr0 (h2.drewN 1) hf3)) | (go_at_call 171; refine (writeSrc h3.buf h3.lw h3.hB (baseB 5 b32D b) _ hr3' (L2.out.len_tx hlen.out)).mono ?_; rintro e w4 ⟨⟨u4, rfl⟩, hb4, hg4⟩; have h4 := h3.wrote hg4 hb4))
    have G4 := (G2.drewN 1).trans (G3.trans (St.grW hg4))
    have L4 := Lib.hid L2.out.tx
    have k2'' := h4.i2
    have K5 := Lib.hid (fun n => writeByte (h4.drewN n).buf h4.lw (h4.drewN n).hB 39 (L4.out.lt1 hlen.out))
    go_wp2_with fail
    refine (K5.out 0).mono ?_
    rintro e w5 ⟨rfl, hb5, hg5⟩
    have h5 := h4.wrote hg5 hb5
    have G5 := G4.trans (St.grW hg5)
    go_wp2
    go_ret
    exact IPost.done h5 G5 L4.out
set_option maxRecDepth 100000 in
set_option maxHeartbeats 3200000 in
theorem encBytes_h32 (h : St X off bs w) {vb q c : Nat} {b : List UInt8} (hvb : vb < X.B) (hvw : vb ≠ X.wb) (hvd : vb ≠ X.d) (hrd : Rd w vb q b) (hbl : b.length ≤ 1099511627776) (henc : X.M.enc = 2) (hfall : Falls X b) (hlen : bs.length + (noteB X.M.enc X.M.sp b).length ≤ room) :
    Calls Tryz.prog 130 #[.pointer (some ⟨X.di, 0, none⟩), .slice (some ⟨vb, q, none⟩) b.length c] w (IPost X off bs (txt (noteB X.M.enc X.M.sp b)) w) := by
  rw [henc] at hlen ⊢
  rw [noteB_2] at hlen ⊢
  have L0 : Togo bs (thenR (txt [104, 51, 50, 39]) (thenR (txt (baseB 5 h32D b)) (txt [39]))) bs (txt ([104, 51, 50, 39] ++ ((baseB 5 h32D b) ++ [39]))) := Togo.refl _ _
  replace L0 := Lib.hid L0
  replace hlen := Lib.hid hlen
  replace hrd := Lib.hid hrd
  have KB := Lib.hid (fun (w' : World) (hr : Rd w' vb q b) => zzBase32 (ds := h32D) (c := c) rfl hr hbl)
  go_enter Tryz.func130, Tryz.ntmps130
  go_upto_if 12 with (fail)
  go_cut [4] (fun s4 wx => s4 = .nilIface ∧ St X off bs wx ∧ Rd wx vb q b ∧ Gr X.B [X.d, X.wb] w wx)
  case first =>
    rcases hfall with hb0 | ⟨htx, hem⟩
    · have t0 : ¬ (0 : Int) < (b.length : Int) := by rw [hb0]; simp
      clear hb0
      go_wp2
      go_meet
      exact ⟨rfl, h, hrd.out, Gr.refl _ _ _⟩
    · by_cases hb0 : 0 < b.length
      · have t0 : (0 : Int) < (b.length : Int) := by omega
        have k0 := h.i0
        have k5 := h.i5
        have k6 := h.i6
        rw [htx] at k5
        rw [hem] at k6
        clear htx hem
        go_wp2
        go_meet
        exact ⟨rfl, h, hrd.out, Gr.refl _ _ _⟩
      · have t0 : ¬ (0 : Int) < (b.length : Int) := by omega
        clear htx hem
        go_wp2
        go_meet
        exact ⟨rfl, h, hrd.out, Gr.refl _ _ _⟩
  case rest =>
    obtain ⟨rfl, h1, hR, G1⟩ := hcut
    replace hR := Lib.hid hR
    have k0 := h1.i0
    have k2 := h1.i2
    have k3 := h1.i3
    rw [henc] at k3
    clear henc hfall
    have K1 := Lib.hid (fun n => writeString (h1.drewN n).buf h1.lw (h1.drewN n).hB [104, 51, 50, 39] (L0.out.len_tx hlen.out))
    go_wp2_with fail
    refine (K1.out 0).mono ?_
    rintro e w2 ⟨⟨u2, rfl⟩, hb2, hg2⟩
    have h2 := h1.wrote hg2 hb2
    have G2 := G1.trans (St.grW hg2)
    have hR2 := Lib.hid (hg2.rd hR.out hvb (by simpa using hvw))
    have L2 := Lib.hid L0.out.tx
    have k0' := h2.i0
    have k2' := h2.i2
    have k3' := h2.i3
    have k4' := h2.i4
    go_wp2
    go_region_held3 (fun w' => w'.cell? ⟨X.di, 2, none⟩ = some (.pointer (some ⟨X.wb, 0, none⟩))) (first | go_keep | exact h3.i2 | exact h4.i2)
      (first | (go_at_call 172; refine (KB.out _ (hR2.out.fr ((Fr.refl [] w2).drewN 1) (by simp))).mono ?_; rintro e w3 ⟨v3, rfl, hr3, hf3⟩; have hr3' := hr3.src; have h3 := St.kept (h2.drewN 1) hf3; have G3 := (St.gr0 (h2.drewN 1) hf3)) | (go_at_call 171; refine (writeSrc h3.buf h3.lw h3.hB (baseB 5 h32D b) _ hr3' (L2.out.len_tx hlen.out)).mono ?_; rintro e w4 ⟨⟨u4, rfl⟩, hb4, hg4⟩; have h4 := h3.wrote hg4 hb4))
    have G4 := (G2.drewN 1).trans (G3.trans (St.grW hg4))
    have L4 := Lib.hid L2.out.tx
    have k2'' := h4.i2
    have K5 := Lib.hid (fun n => writeByte (h4.drewN n).buf h4.lw (h4.drewN n).hB 39 (L4.out.lt1 hlen.out))
    go_wp2_with fail
    refine (K5.out 0).mono ?_
    rintro e w5 ⟨rfl, hb5, hg5⟩
    have h5 := h4.wrote hg5 hb5
    have G5 := G4.trans (St.grW hg5)
    go_wp2
    go_ret
    exact IPost.done h5 G5 L4.out
set_option maxRecDepth 100000 in
set_option maxHeartbeats 3200000 in
theorem encBytes_b64 (h : St X off bs w) {vb q c : Nat} {b : List UInt8} (hvb : vb < X.B) (hvw : vb ≠ X.wb) (hvd : vb ≠ X.d) (hrd : Rd w vb q b) (hbl : b.length ≤ 1099511627776) (henc : X.M.enc = 3) (hfall : Falls X b) (hlen : bs.length + (noteB X.M.enc X.M.sp b).length ≤ room) :
    Calls Tryz.prog 130 #[.pointer (some ⟨X.di, 0, none⟩), .slice (some ⟨vb, q, none⟩) b.length c] w (IPost X off bs (txt (noteB X.M.enc X.M.sp b)) w) := by
  rw [henc] at hlen ⊢
  rw [noteB_3] at hlen ⊢
  have L0 : Togo bs (thenR (txt [98, 54, 52, 39]) (thenR (txt (baseB 6 b64D b)) (txt [39]))) bs (txt ([98, 54, 52, 39] ++ ((baseB 6 b64D b) ++ [39]))) := Togo.refl _ _
  replace L0 := Lib.hid L0
  replace hlen := Lib.hid hlen
  replace hrd := Lib.hid hrd
  have KB := Lib.hid (fun (w' : World) (hr : Rd w' vb q b) => zzBase64 (c := c) hr hbl)
  go_enter Tryz.func130, Tryz.ntmps130
  go_upto_if 12 with (fail)
  go_cut [4] (fun s4 wx => s4 = .nilIface ∧ St X off bs wx ∧ Rd wx vb q b ∧ Gr X.B [X.d, X.wb] w wx)
  case first =>
    rcases hfall with hb0 | ⟨htx, hem⟩
    · have t0 : ¬ (0 : Int) < (b.length : Int) := by rw [hb0]; simp
      clear hb0
      go_wp2
      go_meet
      exact ⟨rfl, h, hrd.out, Gr.refl _ _ _⟩
    · by_cases hb0 : 0 < b.length
      · have t0 : (0 : Int) < (b.length : Int) := by omega
        have k0 := h.i0
        have k5 := h.i5
        have k6 := h.i6
        rw [htx] at k5
        rw [hem] at k6
        clear htx hem
        go_wp2
        go_meet
        exact ⟨rfl, h, hrd.out, Gr.refl _ _ _⟩
      · have t0 : ¬ (0 : Int) < (b.length : Int) := by omega
        clear htx hem
        go_wp2
        go_meet
        exact ⟨rfl, h, hrd.out, Gr.refl _ _ _⟩
  case rest =>
    obtain ⟨rfl, h1, hR, G1⟩ := hcut
    replace hR := Lib.hid hR
    have k0 := h1.i0
    have k2 := h1.i2
    have k3 := h1.i3
    rw [henc] at k3
    clear henc hfall
    have K1 := Lib.hid (fun n => writeString (h1.drewN n).buf h1.lw (h1.drewN n).hB [98, 54, 52, 39] (L0.out.len_tx hlen.out))
    go_wp2_with fail
    refine (K1.out 0).mono ?_
    rintro e w2 ⟨⟨u2, rfl⟩, hb2, hg2⟩
    have h2 := h1.wrote hg2 hb2
    have G2 := G1.trans (St.grW hg2)
    have hR2 := Lib.hid (hg2.rd hR.out hvb (by simpa using hvw))
    have L2 := Lib.hid L0.out.tx
    have k0' := h2.i0
    have k2' := h2.i2
    have k3' := h2.i3
    have k4' := h2.i4
    go_wp2
    go_region_held3 (fun w' => w'.cell? ⟨X.di, 2, none⟩ = some (.pointer (some ⟨X.wb, 0, none⟩))) (first | go_keep | exact h3.i2 | exact h4.i2)
      (first | (go_at_call 173; refine (KB.out _ (hR2.out.fr ((Fr.refl [] w2).drewN 1) (by simp))).mono ?_; rintro e w3 ⟨v3, rfl, hr3, hf3⟩; have hr3' := hr3.src; have h3 := St.kept (h2.drewN 1) hf3; have G3 := (St.gr0 (h2.drewN 1) hf3)) | (go_at_call 171; refine (writeSrc h3.buf h3.lw h3.hB (baseB 6 b64D b) _ hr3' (L2.out.len_tx hlen.out)).mono ?_; rintro e w4 ⟨⟨u4, rfl⟩, hb4, hg4⟩; have h4 := h3.wrote hg4 hb4))
    have G4 := (G2.drewN 1).trans (G3.trans (St.grW hg4))
    have L4 := Lib.hid L2.out.tx
    have k2'' := h4.i2
    have K5 := Lib.hid (fun n => writeByte (h4.drewN n).buf h4.lw (h4.drewN n).hB 39 (L4.out.lt1 hlen.out))
    go_wp2_with fail
    refine (K5.out 0).mono ?_
    rintro e w5 ⟨rfl, hb5, hg5⟩
    have h5 := h4.wrote hg5 hb5
    have G5 := G4.trans (St.grW hg5)
    go_wp2
    go_ret
    exact IPost.done h5 G5 L4.out
end
end Go.Proofs.YteodinhkhhaafaaGreatDoor
