/- The item of diagnose: strings in chunks. -/
import Derived.Test.YteodinhkhhaafaaGreatDoorXd
import Derived.Deep.RegionHeld3
set_option linter.unusedVariables false
set_option linter.unusedSimpArgs false
namespace Go.Proofs.YteodinhkhhaafaaGreatDoor
open Go.RowKit

theorem St.step2 {X : Cx} {off : Nat} {bs : List UInt8} {w : World} (h : St X off bs w) (hl : off < X.xs.length) (n : Nat) (x : Int) (hx : x = (off : Int) + 1) : St X (off + 1) bs ((w.drewN n).setCell ⟨X.d, 1, none⟩ (.int .i64 x)) ∧ Gr X.B [X.d, X.wb] w ((w.drewN n).setCell ⟨X.d, 1, none⟩ (.int .i64 x)) := by
  subst hx
  exact h.step hl n
section
variable {X : Cx} {off : Nat} {bs : List UInt8} {w : World}
set_option maxRecDepth 100000 in
set_option maxHeartbeats 3200000 in
theorem di_none_b (h : St X off bs w) (hl : off < X.xs.length) (hb : X.xs[off].toNat = 95) (hl1 : off + 1 < X.xs.length) (hb1 : X.xs[off + 1].toNat = 255) (hlen : bs.length + (txt [39, 39, 95]).1.length ≤ room) :
    Calls Tryz.prog 105 #[.pointer (some ⟨X.di, 0, none⟩)] w (IPost X (off + 2) bs (txt [39, 39, 95]) w) := by
  have k1 := h.i1
  have k2 := h.i2
  have d0 := h.dec.c0
  have d1 := h.dec.c1
  have df := h.dec.f1
  have ha := h.dec.at_ off hl
  have hm := h.dec.len
  have g95 : ((X.xs[off].toNat : Int) == 95) = true := by simp; omega
  have g127 : ((X.xs[off].toNat : Int) == 127) = false := by simp; omega
  have g159 : ((X.xs[off].toNat : Int) == 159) = false := by simp; omega
  have g191 : ((X.xs[off].toNat : Int) == 191) = false := by simp; omega
  generalize (X.xs[off].toNat : Int) = x0 at *
  clear hb
  replace hlen := Lib.hid hlen
  have b1 : (off : Int) < (X.xs.length : Int) := by omega
  have b2 : (0 : Int) ≤ (off : Int) := by omega
  have b3 : (off : Int).toNat = off := by omega
  have wo : IntKind.i64.wrap ((off : Int) + 1) = ((off + 1 : Nat) : Int) := by
    have := wrap_pos (off + 1) (by omega)
    simpa using this
  go_enter Tryz.func105, Tryz.ntmps105
  go_wp2
  go_quiet (fail)
  obtain ⟨h1, G1⟩ := h.step hl nq
  have e0 := h1.dec.c0
  have e1 := h1.dec.c1
  have ef := h1.dec.f1
  have ea := h1.dec.at_ (off + 1) hl1
  have j1 := h1.i1
  have j2 := h1.i2
  have b4 : (off : Int) + 1 < (X.xs.length : Int) := by omega
  have b5 : (0 : Int) ≤ (off : Int) + 1 := by omega
  have b6 : ((off : Int) + 1).toNat = off + 1 := by omega
  have gE : ((X.xs[off + 1].toNat : Int) == 255) = true := by simp; omega
  simp only [Int.natCast_add, Int.cast_ofNat_Int] at e1
  have KQ := Lib.hid (isBreakFlag X.xs[off + 1])
  generalize (X.xs[off + 1].toNat : Int) = x1 at *
  clear hb1
  go_wp2
  go_quiet ((go_at_call 117; exact Calls.quiet_of_same (KQ.out _)))
  obtain ⟨h2, G2⟩ := h1.step2 hl1 nq ((off : Int) + 1 + 1) (by omega)
  have j3 := h2.i2
  have K2 := Lib.hid (writeString h2.buf h2.lw h2.hB [39, 39, 95] hlen.out)
  go_wp2_with fail
  refine K2.out.mono ?_
  rintro e w3 ⟨⟨u2, rfl⟩, hb3, hg3⟩
  have h3 := h2.wrote hg3 hb3
  have G3 := (G1.trans G2).trans (St.grW hg3)
  go_wp2
  go_ret
  exact ⟨_, _, rfl, rfl, fun _ => rfl, h3, G3⟩
set_option maxRecDepth 100000 in
set_option maxHeartbeats 3200000 in
theorem di_none_t (h : St X off bs w) (hl : off < X.xs.length) (hb : X.xs[off].toNat = 127) (hl1 : off + 1 < X.xs.length) (hb1 : X.xs[off + 1].toNat = 255) (hlen : bs.length + (txt [34, 34, 95]).1.length ≤ room) :
    Calls Tryz.prog 105 #[.pointer (some ⟨X.di, 0, none⟩)] w (IPost X (off + 2) bs (txt [34, 34, 95]) w) := by
  have k1 := h.i1
  have k2 := h.i2
  have d0 := h.dec.c0
  have d1 := h.dec.c1
  have df := h.dec.f1
  have ha := h.dec.at_ off hl
  have hm := h.dec.len
  have g95 : ((X.xs[off].toNat : Int) == 95) = false := by simp; omega
  have g127 : ((X.xs[off].toNat : Int) == 127) = true := by simp; omega
  have g159 : ((X.xs[off].toNat : Int) == 159) = false := by simp; omega
  have g191 : ((X.xs[off].toNat : Int) == 191) = false := by simp; omega
  generalize (X.xs[off].toNat : Int) = x0 at *
  clear hb
  replace hlen := Lib.hid hlen
  have b1 : (off : Int) < (X.xs.length : Int) := by omega
  have b2 : (0 : Int) ≤ (off : Int) := by omega
  have b3 : (off : Int).toNat = off := by omega
  have wo : IntKind.i64.wrap ((off : Int) + 1) = ((off + 1 : Nat) : Int) := by
    have := wrap_pos (off + 1) (by omega)
    simpa using this
  go_enter Tryz.func105, Tryz.ntmps105
  go_wp2
  go_quiet (fail)
  obtain ⟨h1, G1⟩ := h.step hl nq
  have e0 := h1.dec.c0
  have e1 := h1.dec.c1
  have ef := h1.dec.f1
  have ea := h1.dec.at_ (off + 1) hl1
  have j1 := h1.i1
  have j2 := h1.i2
  have b4 : (off : Int) + 1 < (X.xs.length : Int) := by omega
  have b5 : (0 : Int) ≤ (off : Int) + 1 := by omega
  have b6 : ((off : Int) + 1).toNat = off + 1 := by omega
  have gE : ((X.xs[off + 1].toNat : Int) == 255) = true := by simp; omega
  simp only [Int.natCast_add, Int.cast_ofNat_Int] at e1
  have KQ := Lib.hid (isBreakFlag X.xs[off + 1])
  generalize (X.xs[off + 1].toNat : Int) = x1 at *
  clear hb1
  go_wp2
  go_quiet ((go_at_call 117; exact Calls.quiet_of_same (KQ.out _)))
  obtain ⟨h2, G2⟩ := h1.step2 hl1 nq ((off : Int) + 1 + 1) (by omega)
  have j3 := h2.i2
  have K2 := Lib.hid (writeString h2.buf h2.lw h2.hB [34, 34, 95] hlen.out)
  go_wp2_with fail
  refine K2.out.mono ?_
  rintro e w3 ⟨⟨u2, rfl⟩, hb3, hg3⟩
  have h3 := h2.wrote hg3 hb3
  have G3 := (G1.trans G2).trans (St.grW hg3)
  go_wp2
  go_ret
  exact ⟨_, _, rfl, rfl, fun _ => rfl, h3, G3⟩
set_option maxRecDepth 100000 in
set_option maxHeartbeats 3200000 in
theorem di_chunks_b (h : St X off bs w) {off2 : Nat} {l : List R} (hl : off < X.xs.length) (hb : X.xs[off].toNat = 95) (hl1 : off + 1 < X.xs.length) (hb1 : X.xs[off + 1].toNat ≠ 255) (hKids : KidsO X (off + 1) off2 l) (hcap : l.length ≤ 2147483647) {res : R} (hres : thenR (txt [40, 95, 32]) (arrR [41] 0 l) = res) (hlen : bs.length + res.1.length ≤ room) :
    Calls Tryz.prog 105 #[.pointer (some ⟨X.di, 0, none⟩)] w (IPost X off2 bs res w) := by
  have k1 := h.i1
  have k2 := h.i2
  have d0 := h.dec.c0
  have d1 := h.dec.c1
  have df := h.dec.f1
  have ha := h.dec.at_ off hl
  have hm := h.dec.len
  have g95 : ((X.xs[off].toNat : Int) == 95) = true := by simp; omega
  have g127 : ((X.xs[off].toNat : Int) == 127) = false := by simp; omega
  have g159 : ((X.xs[off].toNat : Int) == 159) = false := by simp; omega
  have g191 : ((X.xs[off].toNat : Int) == 191) = false := by simp; omega
  generalize (X.xs[off].toNat : Int) = x0 at *
  clear hb
  have L0 : Togo bs (thenR (txt [40, 95, 32]) (arrR [41] 0 l)) bs res := by rw [hres]; exact Togo.refl _ _
  replace hres := Lib.hid hres
  replace L0 := Lib.hid L0
  replace hKids := Lib.hid hKids
  have b1 : (off : Int) < (X.xs.length : Int) := by omega
  have b2 : (0 : Int) ≤ (off : Int) := by omega
  have b3 : (off : Int).toNat = off := by omega
  have wo : IntKind.i64.wrap ((off : Int) + 1) = ((off + 1 : Nat) : Int) := by
    have := wrap_pos (off + 1) (by omega)
    simpa using this
  go_enter Tryz.func105, Tryz.ntmps105
  go_wp2
  go_quiet (fail)
  obtain ⟨h1, G1⟩ := h.step hl nq
  have e0 := h1.dec.c0
  have e1 := h1.dec.c1
  have ef := h1.dec.f1
  have ea := h1.dec.at_ (off + 1) hl1
  have j1 := h1.i1
  have j2 := h1.i2
  have b4 : (off : Int) + 1 < (X.xs.length : Int) := by omega
  have b5 : (0 : Int) ≤ (off : Int) + 1 := by omega
  have b6 : ((off : Int) + 1).toNat = off + 1 := by omega
  have gE : ((X.xs[off + 1].toNat : Int) == 255) = false := by simp; omega
  simp only [Int.natCast_add, Int.cast_ofNat_Int] at e1
  have KQ := Lib.hid (isBreakFlag X.xs[off + 1])
  generalize (X.xs[off + 1].toNat : Int) = x1 at *
  clear hb1
  go_wp2
  go_quiet ((go_at_call 117; exact Calls.quiet_of_same (KQ.out _)))
  have h1' := h1.drewN nq
  have G1' := G1.drewN nq
  clear G1
  have h1 := h1'
  have G1 := G1'
  clear h1' G1'
  have j3 := h1.i2
  have K2 := Lib.hid (writeString h1.buf h1.lw h1.hB [40, 95, 32] (L0.out.len_tx hlen))
  go_wp2_with fail
  refine K2.out.mono ?_
  rintro e w2 ⟨⟨u2, rfl⟩, hb2, hg2⟩
  have h2 := h1.wrote hg2 hb2
  have G2 := G1.trans (St.grW hg2)
  have L2 := Lib.hid L0.out.tx
  clear ha k1 k2 d0 d1 df
  go_wp2
  go_loopg [4] l.length (fun k v6 wr => ∃ (i : Nat) (l2 : List R) (off : Nat) (bs' : List UInt8), v6 = .int .i64 (i : Int) ∧ Hid (i + k = l.length) ∧ Hid (l2.length = k) ∧ Hid (KidsO X off off2 l2) ∧ Hid (Togo bs' (arrR [41] i l2) bs res) ∧ St X off bs' wr ∧ Gr X.B [X.d, X.wb] w wr)
  case atStart => exact ⟨0, l, off + 1, _, by go_num, Nat.zero_add _, rfl, hKids, L2, h2, G2⟩
  case round =>
    obtain ⟨i, l2, off3, bs3, rfl, hi, hlk, hK, L3, h3, G3⟩ := hrel
    have i1_3 := h3.i1
    have i2_3 := h3.i2
    by_cases hk : gk = 0
    · subst hk
      obtain rfl := List.eq_nil_of_length_eq_zero hlk.out
      obtain ⟨hl3, hb3, rfl⟩ : ∃ hl : off3 < X.xs.length, X.xs[off3].toNat = 255 ∧ off2 = off3 + 1 := by cases hK.out with | nil a b => exact ⟨a, b, rfl⟩
      have KB := Lib.hid (foundBreak_yes h3.dec hl3 (by simp [hb3]))
      go_wp2_with fail
      refine KB.out.mono ?_
      rintro e w4 ⟨rfl, hD4, hF4⟩
      have h4 := h3.moved hF4 hD4
      have G4 := G3.trans (h3.grF hF4)
      have i2_4 := h4.i2
      have K5 := Lib.hid (fun n => writeByte (h4.drewN n).buf h4.lw (h4.drewN n).hB 41 (L3.out.lt1 hlen))
      go_wp2_with fail
      refine (K5.out 0).mono ?_
      rintro e w5 ⟨rfl, hb5, hg5⟩
      have h5 := h4.wrote hg5 hb5
      have G5 := G4.trans (St.grW hg5)
      go_wp2
      go_ret
      exact IPost.done h5 G5 L3.out
    · obtain ⟨g, rfl⟩ : ∃ g, gk = g + 1 := ⟨gk - 1, by omega⟩
      clear hk
      have hi64 : i ≤ 2147483647 := by have := hi.out; omega
      obtain ⟨r5, l5, rfl⟩ : ∃ r l', l2 = r :: l' := by
        cases l2 with
        | nil => have := hlk.out; simp at this
        | cons r l' => exact ⟨r, l', rfl⟩
      obtain ⟨hl3, hb3, mid, C5, hK5⟩ : ∃ hl : off3 < X.xs.length, X.xs[off3].toNat ≠ 255 ∧ ∃ mid, ItemC X off3 mid r5 ∧ KidsO X mid off2 l5 := by cases hK.out with | cons a b c d => exact ⟨a, b, _, c, d⟩
      replace C5 := Lib.hid C5
      replace hK5 := Lib.hid hK5
      have hl5 : Hid (l5.length = g) := Lib.hid (by have := hlk.out; simp at this; exact this)
      replace L3 := Lib.hid (show Togo bs3 (thenR (txt (if i = 0 then [] else [44, 32])) (thenR r5 (arrR [41] (i + 1) l5))) bs res from L3.out)
      have KB := Lib.hid (foundBreak_no h3.dec hl3 (by simp; omega))
      clear hb3
      go_wp2_with fail
      refine KB.out.mono ?_
      rintro e w4 ⟨rfl, m4, rfl⟩
      have h4 := h3.drewN m4
      have G4 := G3.drewN m4
      have i2_4 := h4.i2
      by_cases h0 : i = 0
      · have t3 : ¬ (0 : Int) < (i : Int) := by omega
        have L4 := Lib.hid L3.out.tx
        rw [if_pos h0, List.append_nil] at L4
        have K7 := Lib.hid (C5.out _ _ h4 (L4.out.len1 hlen))
        go_wp2_with fail
        refine K7.out.mono ?_
        rintro e w7 ⟨v7, o7, rfl, hv7, ho7, h7, hG7⟩
        have G7 := G4.trans hG7
        rcases hr5 : r5.2 with _ | k
        · rw [hr5] at hv7
          obtain rfl := hv7.nil
          have L7 := Lib.hid (L4.out.ok hr5)
          rw [ho7 hr5] at h7
          have i1_7 := h7.i1
          have i2_7 := h7.i2
          go_wp2
          go_roundg g
          case measure => omega
          case rel => exact ⟨i + 1, l5, mid, _, by go_num, (show i + 1 + g = l.length by have := hi.out; omega), hl5, hK5, L7, h7, G7⟩
        · rw [hr5] at hv7
          obtain ⟨t, x, rfl⟩ := hv7.ne
          go_wp2
          go_ret
          exact IPost.err (w1 := w) hv7 h7 G7 (L4.out.err hr5)
      · have t3 : (0 : Int) < (i : Int) := by omega
        have L4' := L3
        rw [if_neg h0] at L4'
        replace L4' := Lib.hid L4'
        have L4 := Lib.hid L4'.out.tx
        have K6 := Lib.hid (fun n => writeString (h4.drewN n).buf h4.lw (h4.drewN n).hB [44, 32] (L4'.out.len_tx hlen))
        go_wp2_with fail
        refine (K6.out 0).mono ?_
        rintro e w6 ⟨⟨u6, rfl⟩, hb6, hg6⟩
        have h6 := h4.wrote hg6 hb6
        have G6 := G4.trans (St.grW hg6)
        have i1_6 := h6.i1
        have i2_6 := h6.i2
        have K7 := Lib.hid (C5.out _ _ h6 (L4.out.len1 hlen))
        go_wp2_with fail
        refine K7.out.mono ?_
        rintro e w7 ⟨v7, o7, rfl, hv7, ho7, h7, hG7⟩
        have G7 := G6.trans hG7
        rcases hr5 : r5.2 with _ | k
        · rw [hr5] at hv7
          obtain rfl := hv7.nil
          have L7 := Lib.hid (L4.out.ok hr5)
          rw [ho7 hr5] at h7
          have i1_7 := h7.i1
          have i2_7 := h7.i2
          go_wp2
          go_roundg g
          case measure => omega
          case rel => exact ⟨i + 1, l5, mid, _, by go_num, (show i + 1 + g = l.length by have := hi.out; omega), hl5, hK5, L7, h7, G7⟩
        · rw [hr5] at hv7
          obtain ⟨t, x, rfl⟩ := hv7.ne
          go_wp2
          go_ret
          exact IPost.err (w1 := w) hv7 h7 G7 (L4.out.err hr5)
set_option maxRecDepth 100000 in
set_option maxHeartbeats 3200000 in
theorem di_chunks_t (h : St X off bs w) {off2 : Nat} {l : List R} (hl : off < X.xs.length) (hb : X.xs[off].toNat = 127) (hl1 : off + 1 < X.xs.length) (hb1 : X.xs[off + 1].toNat ≠ 255) (hKids : KidsO X (off + 1) off2 l) (hcap : l.length ≤ 2147483647) {res : R} (hres : thenR (txt [40, 95, 32]) (arrR [41] 0 l) = res) (hlen : bs.length + res.1.length ≤ room) :
    Calls Tryz.prog 105 #[.pointer (some ⟨X.di, 0, none⟩)] w (IPost X off2 bs res w) := by
  have k1 := h.i1
  have k2 := h.i2
  have d0 := h.dec.c0
  have d1 := h.dec.c1
  have df := h.dec.f1
  have ha := h.dec.at_ off hl
  have hm := h.dec.len
  have g95 : ((X.xs[off].toNat : Int) == 95) = false := by simp; omega
  have g127 : ((X.xs[off].toNat : Int) == 127) = true := by simp; omega
  have g159 : ((X.xs[off].toNat : Int) == 159) = false := by simp; omega
  have g191 : ((X.xs[off].toNat : Int) == 191) = false := by simp; omega
  generalize (X.xs[off].toNat : Int) = x0 at *
  clear hb
  have L0 : Togo bs (thenR (txt [40, 95, 32]) (arrR [41] 0 l)) bs res := by rw [hres]; exact Togo.refl _ _
  replace hres := Lib.hid hres
  replace L0 := Lib.hid L0
  replace hKids := Lib.hid hKids
  have b1 : (off : Int) < (X.xs.length : Int) := by omega
  have b2 : (0 : Int) ≤ (off : Int) := by omega
  have b3 : (off : Int).toNat = off := by omega
  have wo : IntKind.i64.wrap ((off : Int) + 1) = ((off + 1 : Nat) : Int) := by
    have := wrap_pos (off + 1) (by omega)
    simpa using this
  go_enter Tryz.func105, Tryz.ntmps105
  go_wp2
  go_quiet (fail)
  obtain ⟨h1, G1⟩ := h.step hl nq
  have e0 := h1.dec.c0
  have e1 := h1.dec.c1
  have ef := h1.dec.f1
  have ea := h1.dec.at_ (off + 1) hl1
  have j1 := h1.i1
  have j2 := h1.i2
  have b4 : (off : Int) + 1 < (X.xs.length : Int) := by omega
  have b5 : (0 : Int) ≤ (off : Int) + 1 := by omega
  have b6 : ((off : Int) + 1).toNat = off + 1 := by omega
  have gE : ((X.xs[off + 1].toNat : Int) == 255) = false := by simp; omega
  simp only [Int.natCast_add, Int.cast_ofNat_Int] at e1
  have KQ := Lib.hid (isBreakFlag X.xs[off + 1])
  generalize (X.xs[off + 1].toNat : Int) = x1 at *
  clear hb1
  go_wp2
  go_quiet ((go_at_call 117; exact Calls.quiet_of_same (KQ.out _)))
  have h1' := h1.drewN nq
  have G1' := G1.drewN nq
  clear G1
  have h1 := h1'
  have G1 := G1'
  clear h1' G1'
  have j3 := h1.i2
  have K2 := Lib.hid (writeString h1.buf h1.lw h1.hB [40, 95, 32] (L0.out.len_tx hlen))
  go_wp2_with fail
  refine K2.out.mono ?_
  rintro e w2 ⟨⟨u2, rfl⟩, hb2, hg2⟩
  have h2 := h1.wrote hg2 hb2
  have G2 := G1.trans (St.grW hg2)
  have L2 := Lib.hid L0.out.tx
  clear ha k1 k2 d0 d1 df
  go_wp2
  go_loopg [4] l.length (fun k v6 wr => ∃ (i : Nat) (l2 : List R) (off : Nat) (bs' : List UInt8), v6 = .int .i64 (i : Int) ∧ Hid (i + k = l.length) ∧ Hid (l2.length = k) ∧ Hid (KidsO X off off2 l2) ∧ Hid (Togo bs' (arrR [41] i l2) bs res) ∧ St X off bs' wr ∧ Gr X.B [X.d, X.wb] w wr)
  case atStart => exact ⟨0, l, off + 1, _, by go_num, Nat.zero_add _, rfl, hKids, L2, h2, G2⟩
  case round =>
    obtain ⟨i, l2, off3, bs3, rfl, hi, hlk, hK, L3, h3, G3⟩ := hrel
    have i1_3 := h3.i1
    have i2_3 := h3.i2
    by_cases hk : gk = 0
    · subst hk
      obtain rfl := List.eq_nil_of_length_eq_zero hlk.out
      obtain ⟨hl3, hb3, rfl⟩ : ∃ hl : off3 < X.xs.length, X.xs[off3].toNat = 255 ∧ off2 = off3 + 1 := by cases hK.out with | nil a b => exact ⟨a, b, rfl⟩
      have KB := Lib.hid (foundBreak_yes h3.dec hl3 (by simp [hb3]))
      go_wp2_with fail
      refine KB.out.mono ?_
      rintro e w4 ⟨rfl, hD4, hF4⟩
      have h4 := h3.moved hF4 hD4
      have G4 := G3.trans (h3.grF hF4)
      have i2_4 := h4.i2
      have K5 := Lib.hid (fun n => writeByte (h4.drewN n).buf h4.lw (h4.drewN n).hB 41 (L3.out.lt1 hlen))
      go_wp2_with fail
      refine (K5.out 0).mono ?_
      rintro e w5 ⟨rfl, hb5, hg5⟩
      have h5 := h4.wrote hg5 hb5
      have G5 := G4.trans (St.grW hg5)
      go_wp2
      go_ret
      exact IPost.done h5 G5 L3.out
    · obtain ⟨g, rfl⟩ : ∃ g, gk = g + 1 := ⟨gk - 1, by omega⟩
      clear hk
      have hi64 : i ≤ 2147483647 := by have := hi.out; omega
      obtain ⟨r5, l5, rfl⟩ : ∃ r l', l2 = r :: l' := by
        cases l2 with
        | nil => have := hlk.out; simp at this
        | cons r l' => exact ⟨r, l', rfl⟩
      obtain ⟨hl3, hb3, mid, C5, hK5⟩ : ∃ hl : off3 < X.xs.length, X.xs[off3].toNat ≠ 255 ∧ ∃ mid, ItemC X off3 mid r5 ∧ KidsO X mid off2 l5 := by cases hK.out with | cons a b c d => exact ⟨a, b, _, c, d⟩
      replace C5 := Lib.hid C5
      replace hK5 := Lib.hid hK5
      have hl5 : Hid (l5.length = g) := Lib.hid (by have := hlk.out; simp at this; exact this)
      replace L3 := Lib.hid (show Togo bs3 (thenR (txt (if i = 0 then [] else [44, 32])) (thenR r5 (arrR [41] (i + 1) l5))) bs res from L3.out)
      have KB := Lib.hid (foundBreak_no h3.dec hl3 (by simp; omega))
      clear hb3
      go_wp2_with fail
      refine KB.out.mono ?_
      rintro e w4 ⟨rfl, m4, rfl⟩
      have h4 := h3.drewN m4
      have G4 := G3.drewN m4
      have i2_4 := h4.i2
      by_cases h0 : i = 0
      · have t3 : ¬ (0 : Int) < (i : Int) := by omega
        have L4 := Lib.hid L3.out.tx
        rw [if_pos h0, List.append_nil] at L4
        have K7 := Lib.hid (C5.out _ _ h4 (L4.out.len1 hlen))
        go_wp2_with fail
        refine K7.out.mono ?_
        rintro e w7 ⟨v7, o7, rfl, hv7, ho7, h7, hG7⟩
        have G7 := G4.trans hG7
        rcases hr5 : r5.2 with _ | k
        · rw [hr5] at hv7
          obtain rfl := hv7.nil
          have L7 := Lib.hid (L4.out.ok hr5)
          rw [ho7 hr5] at h7
          have i1_7 := h7.i1
          have i2_7 := h7.i2
          go_wp2
          go_roundg g
          case measure => omega
          case rel => exact ⟨i + 1, l5, mid, _, by go_num, (show i + 1 + g = l.length by have := hi.out; omega), hl5, hK5, L7, h7, G7⟩
        · rw [hr5] at hv7
          obtain ⟨t, x, rfl⟩ := hv7.ne
          go_wp2
          go_ret
          exact IPost.err (w1 := w) hv7 h7 G7 (L4.out.err hr5)
      · have t3 : (0 : Int) < (i : Int) := by omega
        have L4' := L3
        rw [if_neg h0] at L4'
        replace L4' := Lib.hid L4'
        have L4 := Lib.hid L4'.out.tx
        have K6 := Lib.hid (fun n => writeString (h4.drewN n).buf h4.lw (h4.drewN n).hB [44, 32] (L4'.out.len_tx hlen))
        go_wp2_with fail
        refine (K6.out 0).mono ?_
        rintro e w6 ⟨⟨u6, rfl⟩, hb6, hg6⟩
        have h6 := h4.wrote hg6 hb6
        have G6 := G4.trans (St.grW hg6)
        have i1_6 := h6.i1
        have i2_6 := h6.i2
        have K7 := Lib.hid (C5.out _ _ h6 (L4.out.len1 hlen))
        go_wp2_with fail
        refine K7.out.mono ?_
        rintro e w7 ⟨v7, o7, rfl, hv7, ho7, h7, hG7⟩
        have G7 := G6.trans hG7
        rcases hr5 : r5.2 with _ | k
        · rw [hr5] at hv7
          obtain rfl := hv7.nil
          have L7 := Lib.hid (L4.out.ok hr5)
          rw [ho7 hr5] at h7
          have i1_7 := h7.i1
          have i2_7 := h7.i2
          go_wp2
          go_roundg g
          case measure => omega
          case rel => exact ⟨i + 1, l5, mid, _, by go_num, (show i + 1 + g = l.length by have := hi.out; omega), hl5, hK5, L7, h7, G7⟩
        · rw [hr5] at hv7
          obtain ⟨t, x, rfl⟩ := hv7.ne
          go_wp2
          go_ret
          exact IPost.err (w1 := w) hv7 h7 G7 (L4.out.err hr5)
end
end Go.Proofs.YteodinhkhhaafaaGreatDoor
