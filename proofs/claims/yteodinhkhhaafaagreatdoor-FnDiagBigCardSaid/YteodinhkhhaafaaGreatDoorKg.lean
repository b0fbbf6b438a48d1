/- The walk of encodeByteString: base 16 with white space. -/
import Derived.Test.YteodinhkhhaafaaGreatDoorKf
set_option linter.unusedVariables false
set_option linter.unusedSimpArgs false
namespace Go.Proofs.YteodinhkhhaafaaGreatDoor
open Go.RowKit

section
variable {X : Cx} {off : Nat} {bs : List UInt8} {w : World}
set_option maxRecDepth 100000 in
set_option maxHeartbeats 3200000 in
theorem encBytes_sp (h : St X off bs w) {vb q c : Nat} {b : List UInt8} (hvb : vb < X.B) (hvw : vb ≠ X.wb) (hvd : vb ≠ X.d) (hrd : Rd w vb q b) (hbl : b.length ≤ 1099511627776) (hcap : b.length ≤ c) (henc : X.M.enc = 0) (hsp : X.M.sp = true) (hfall : Falls X b) (hlen : bs.length + (noteB X.M.enc X.M.sp b).length ≤ room) :
    Calls Tryz.prog 130 #[.pointer (some ⟨X.di, 0, none⟩), .slice (some ⟨vb, q, none⟩) b.length c] w (IPost X off bs (txt (noteB X.M.enc X.M.sp b)) w) := by
  rw [henc, hsp] at hlen ⊢
  rw [noteB_s] at hlen ⊢
  have L0 : Togo bs (thenR (txt [104, 39]) (thenR (txt (spacedB hexD 0 b)) (txt [39]))) bs (txt ([104, 39] ++ ((spacedB hexD 0 b) ++ [39]))) := Togo.refl _ _
  replace L0 := Lib.hid L0
  replace hlen := Lib.hid hlen
  replace hrd := Lib.hid hrd
  go_enter Tryz.func130, Tryz.ntmps130
  go_upto_if 12 with (fail)
  go_cut [4] (fun s4 wx => s4 = .nilIface ∧ St X off bs wx ∧ Rd wx vb q b ∧ Gr X.B [X.d, X.wb] w wx)
  case first =>
    rcases hfall with hb0 | ⟨htx, hem⟩
    · have t0 : ¬ (0 : Int) < (b.length : Int) := by rw [hb0]; simp
      clear hb0
      go_wp2
      go_meet
      exact ⟨rfl, h, hrd.out, Gr.refl _ _ _⟩
    · by_cases hb0 : 0 < b.length
      · have t0 : (0 : Int) < (b.length : Int) := by omega
        have k0 := h.i0
        have k5 := h.i5
        have k6 := h.i6
        rw [htx] at k5
        rw [hem] at k6
        clear htx hem
        go_wp2
        go_meet
        exact ⟨rfl, h, hrd.out, Gr.refl _ _ _⟩
      · have t0 : ¬ (0 : Int) < (b.length : Int) := by omega
        clear htx hem
        go_wp2
        go_meet
        exact ⟨rfl, h, hrd.out, Gr.refl _ _ _⟩
  case rest =>
    obtain ⟨rfl, h1, hR, G1⟩ := hcut
    replace hR := Lib.hid hR
    have k0 := h1.i0
    have k2 := h1.i2
    have k3 := h1.i3
    rw [henc] at k3
    clear henc hfall
    have K1 := Lib.hid (fun n => writeString (h1.drewN n).buf h1.lw (h1.drewN n).hB [104, 39] (L0.out.len_tx hlen.out))
    go_wp2_with fail
    refine (K1.out 0).mono ?_
    rintro e w2 ⟨⟨u2, rfl⟩, hb2, hg2⟩
    have h2 := h1.wrote hg2 hb2
    have G2 := G1.trans (St.grW hg2)
    have hR2 := Lib.hid (hg2.rd hR.out hvb (by simpa using hvw))
    have L2 := Lib.hid L0.out.tx
    have k0' := h2.i0
    have k2' := h2.i2
    have k3' := h2.i3
    have k4' := h2.i4
    rw [hsp] at k4'
    clear hsp
    go_wp2
    go_loopg [8, 9, 95] b.length (fun k v8 v9 v95 wr => ∃ j : Nat, v95 = .int .i64 (j : Int) ∧ j + k = b.length ∧ Row wr w2.heap.size v8 (spacedB hexD 0 (b.take j)) ∧ Fr [] w2 wr)
    case atStart => exact ⟨0, by go_num, by omega, Row.nil _ _, Fr.refl _ _⟩
    case round =>
      obtain ⟨j, rfl, hj, hrow, hF⟩ := hrel
      obtain ⟨ao, n0, c0, rfl⟩ := hrow.shape
      have h3 := h2.kept hF
      by_cases hk : gk = 0
      · subst hk
        obtain rfl : j = b.length := by omega
        rw [List.take_of_length_le (Nat.le_refl _)] at hrow
        have t1 : ¬ (b.length : Int) < (b.length : Int) := by omega
        have k2'' := h3.i2
        have KW := Lib.hid (fun n => writeSrc (h3.drewN n).buf h3.lw (h3.drewN n).hB (spacedB hexD 0 b) _ (hrow.src.fr ((Fr.refl [] wr).drewN n)) (L2.out.len_tx hlen.out))
        go_wp2_with fail
        refine (KW.out 0).mono ?_
        rintro e w4 ⟨⟨u4, rfl⟩, hb4, hg4⟩
        have h4 := h3.wrote hg4 hb4
        have G4 := G2.trans ((St.gr0 h2 hF).trans (St.grW hg4))
        have L4 := Lib.hid L2.out.tx
        have k24 := h4.i2
        have K5 := Lib.hid (fun n => writeByte (h4.drewN n).buf h4.lw (h4.drewN n).hB 39 (L4.out.lt1 hlen.out))
        go_wp2_with fail
        refine (K5.out 0).mono ?_
        rintro e w5 ⟨rfl, hb5, hg5⟩
        have h5 := h4.wrote hg5 hb5
        have G5 := G4.trans (St.grW hg5)
        go_wp2
        go_ret
        exact IPost.done h5 G5 L4.out
      · obtain ⟨g, rfl⟩ : ∃ g, gk = g + 1 := ⟨gk - 1, by omega⟩
        have hjl : j < b.length := by omega
        have t1 : (j : Int) < (b.length : Int) := by omega
        have hsn := spaced_snoc hexD b[j] (b.take j) 0
        rw [← List.take_succ_eq_append_getElem hjl, Nat.zero_add, List.length_take, Nat.min_eq_left (by omega)] at hsn
        have hsl := spaced_length hexD (b.take j) 0
        rw [List.length_take, Nat.min_eq_left (by omega)] at hsl
        have hR1 : Rd wr vb (q + j) [b[j]] := fun i hi => by
          have : i = 0 := by simpa using hi
          subst this
          exact hF.cell (hR2.out j hjl) (by simp)
        replace hsn := Lib.hid hsn
        have s1 : ¬ c = j := by omega
        have s2 : (j : Int) + 1 ≤ (c : Int) := by omega
        have s3 : ((j : Int) + 1).toNat = j + 1 := by omega
        have hBs := hF.size
        by_cases hj0 : j = 0
        · subst hj0
          have KH : Hid (Calls Tryz.prog 170 #[.slice (some ⟨vb, q, none⟩) 1 c] wr fun e w' => ∃ v, e = .returned v ∧ Row w' wr.heap.size v (hexB hexD [b[0]]) ∧ Fr [] wr w') := Lib.hid (zzHex (xs := [b[0]]) (c := c) (by simpa using hR1) (by simp))
          rw [if_pos rfl, List.nil_append] at hsn
          generalize hexB hexD [b[0]] = hx at *
          have hxl : (spacedB hexD 0 (b.take 0)).length + hx.length ≤ 140737488355328 := by
            have := congrArg List.length hsn.out
            rw [List.length_append] at this
            have h9 := spaced_length hexD (b.take (0 + 1)) 0
            rw [List.length_take] at h9
            omega
          go_wp2_with fail
          refine KH.out.mono ?_
          rintro e w4 ⟨v4, rfl, hr4, hf4⟩
          have hs4 := hr4.src
          obtain ⟨ao4, n4, c4, rfl⟩ := hr4.shape
          have hrow4 := hrow.fr hf4 (by simp)
          have hB4 := hf4.size
          go_wp2_with (at_builtin; refine wpList_apSrc rfl _ _ rfl (B := w2.heap.size) _ (spacedB hexD 0 (b.take 0)) hx _ rfl rfl hs4 hrow4 (by omega) hxl ?_)
          intro v5 w5 hr5 hg5
          have hr5' : Row w5 w2.heap.size v5 (spacedB hexD 0 (b.take (0 + 1))) := by rw [hsn.out]; exact hr5
          have hF5 : Fr [] w2 w5 := (hF.trans hf4).grown hg5 (fun k hk => .inr (World.ownsRow.lt hrow4 k hk).1)
          go_wp2
          go_roundg g
          case measure => omega
          case rel => exact ⟨0 + 1, by go_num, by omega, hr5', hF5⟩
        · have t2 : (0 : Int) < (j : Int) := by omega
          rw [if_neg hj0] at hsn
          have hxl : (spacedB hexD 0 (b.take j)).length + 3 ≤ 140737488355328 := by omega
          go_wp2_with (at_builtin; refine wpList_apRow rfl _ _ rfl (B := w2.heap.size) _ (spacedB hexD 0 (b.take j)) [32] wr.heap.size 0 1 rfl rfl (rd_new (w := wr) rfl (by simp [enc])) (hrow.push rfl) (by simp; omega) (by simp; omega) ?_)
          intro v3 w3 hr3 hg3
          have hF3 : Fr [] w2 w3 := by
            refine Fr.grown ?_ hg3 (fun k hk => .inr (World.ownsRow.lt hrow k hk).1)
            exact hF.push rfl rfl rfl rfl
          obtain ⟨ao3, n3, c3, rfl⟩ := hr3.shape
          have hR3 : Rd w3 vb (q + j) [b[j]] := fun i hi => by
            have : i = 0 := by simpa using hi
            subst this
            exact hF3.cell (hR2.out j hjl) (by simp)
          have KH : Hid (Calls Tryz.prog 170 #[.slice (some ⟨vb, q + j, none⟩) 1 (c - j)] w3 fun e w' => ∃ v, e = .returned v ∧ Row w' w3.heap.size v (hexB hexD [b[j]]) ∧ Fr [] w3 w') := Lib.hid (zzHex (xs := [b[j]]) (c := c - j) hR3 (by simp))
          have hhl : (hexB hexD [b[j]]).length = 2 := by rw [hexB_length]; rfl
          generalize hexB hexD [b[j]] = hx at *
          have hB3 := hF3.size
          go_wp2_with fail
          refine KH.out.mono ?_
          rintro e w4 ⟨v4, rfl, hr4, hf4⟩
          have hs4 := hr4.src
          obtain ⟨ao4, n4, c4, rfl⟩ := hr4.shape
          have hrow4 := hr3.fr hf4 (by simp)
          have hB4 := hf4.size
          go_wp2_with (at_builtin; refine wpList_apSrc rfl _ _ rfl (B := w2.heap.size) _ (spacedB hexD 0 (b.take j) ++ [32]) hx _ rfl rfl hs4 hrow4 (by omega) (by simp; omega) ?_)
          intro v5 w5 hr5 hg5
          have hr5' : Row w5 w2.heap.size v5 (spacedB hexD 0 (b.take (j + 1))) := by rw [hsn.out]; exact hr5
          have hF5 : Fr [] w2 w5 := (hF3.trans hf4).grown hg5 (fun k hk => .inr (World.ownsRow.lt hrow4 k hk).1)
          go_wp2
          go_roundg g
          case measure => omega
          case rel => exact ⟨j + 1, by go_num, by omega, hr5', hF5⟩
end
end Go.Proofs.YteodinhkhhaafaaGreatDoor
