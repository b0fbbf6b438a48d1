/- The item of diagnose: byte strings as a whole. -/
import Derived.Test.YteodinhkhhaafaaGreatDoorKg
set_option linter.unusedVariables false
set_option linter.unusedSimpArgs false
namespace Go.Proofs.YteodinhkhhaafaaGreatDoor
open Go.RowKit

section
variable {X : Cx} {off : Nat} {bs : List UInt8} {w : World}
/-- encodeByteString, where it falls through to the bases. -/
theorem encBytes (h : St X off bs w) {vb q c : Nat} {b : List UInt8} (hvb : vb < X.B) (hvw : vb ≠ X.wb) (hvd : vb ≠ X.d) (hrd : Rd w vb q b) (hbl : b.length ≤ 1099511627776) (hcap : b.length ≤ c) (henc : X.M.enc < 4) (hfall : Falls X b) (hlen : bs.length + (noteB X.M.enc X.M.sp b).length ≤ room) :
    Calls Tryz.prog 130 #[.pointer (some ⟨X.di, 0, none⟩), .slice (some ⟨vb, q, none⟩) b.length c] w (IPost X off bs (txt (noteB X.M.enc X.M.sp b)) w) := by
  have h4 : X.M.enc = 0 ∨ X.M.enc = 1 ∨ X.M.enc = 2 ∨ X.M.enc = 3 := by omega
  rcases h4 with e | e | e | e
  · cases hs : X.M.sp with
    | false => rw [← hs]; exact encBytes_hex h hvb hvw hvd hrd hbl e hs hfall hlen
    | true => rw [← hs]; exact encBytes_sp h hvb hvw hvd hrd hbl hcap e hs hfall hlen
  · exact encBytes_b32 h hvb hvw hvd hrd hbl e hfall hlen
  · exact encBytes_h32 h hvb hvw hvd hrd hbl e hfall hlen
  · exact encBytes_b64 h hvb hvw hvd hrd hbl e hfall hlen
/-- What encodeByteString does with bytes, wherever they lie in the input. -/
def EncB (X : Cx) (b : List UInt8) (r : R) : Prop := ∀ (off : Nat) (bs : List UInt8) (w : World) (q c : Nat), St X off bs w → Rd w X.db q b → b.length ≤ c → bs.length + r.1.length ≤ room →
  Calls Tryz.prog 130 #[.pointer (some ⟨X.di, 0, none⟩), .slice (some ⟨X.db, q, none⟩) b.length c] w (IPost X off bs r w)
theorem encB_falls {b : List UInt8} (hbl : b.length ≤ 1099511627776) (henc : X.M.enc < 4) (hfall : Falls X b) : EncB X b (txt (noteB X.M.enc X.M.sp b)) := fun off bs w q c h hrd hcap hlen =>
  encBytes h h.ldb h.nw h.dec.ne hrd hbl hcap henc hfall hlen
set_option maxRecDepth 100000 in
set_option maxHeartbeats 3200000 in
theorem di_bytes (h : St X off bs w) {ai v o1 : Nat} {b : List UInt8} {r : R} (hh : hd X.xs off = .ok (2, ai, v, o1)) (h31 : ai ≠ 31) (hvl : o1 + v ≤ X.xs.length) (hb : b = (X.xs.drop o1).take v) (hE : EncB X b r) (hlen : bs.length + r.1.length ≤ room) :
    Calls Tryz.prog 105 #[.pointer (some ⟨X.di, 0, none⟩)] w (IPost X (o1 + v) bs r w) := by
  obtain ⟨hl, hb1, hb2⟩ := hd_byte hh
  have hai := (hd_off hh).2.2.2
  have hai2 := (hd_off hh).2.2.1
  have k1 := h.i1
  have k2 := h.i2
  have d0 := h.dec.c0
  have d1 := h.dec.c1
  have ha := h.dec.at_ off hl
  have hm := h.dec.len
  have KT := fun n => nextCBORType (h.dec.drewN n) hl
  rw [hb1] at KT
  have KP := fun n => parseByteString (h.dec.drewN n) hh h31 hvl hb
  replace KT := Lib.hid KT
  replace KP := Lib.hid KP
  replace hh := Lib.hid hh
  replace hE := Lib.hid hE
  replace hb := Lib.hid hb
  have g95 : ((X.xs[off].toNat : Int) == 95) = false := by simp; omega
  have g127 : ((X.xs[off].toNat : Int) == 127) = false := by simp; omega
  have g159 : ((X.xs[off].toNat : Int) == 159) = false := by simp; omega
  have g191 : ((X.xs[off].toNat : Int) == 191) = false := by simp; omega
  generalize (X.xs[off].toNat : Int) = x0 at *
  clear hb1 hb2 hai h31
  have b1 : (off : Int) < (X.xs.length : Int) := by omega
  have b2 : (0 : Int) ≤ (off : Int) := by omega
  have b3 : (off : Int).toNat = off := by omega
  go_enter Tryz.func105, Tryz.ntmps105
  go_wp2
  go_quiet (fail)
  go_wp2_with fail
  refine (KT.out _).mono ?_
  rintro e w1 ⟨rfl, nm, rfl⟩
  go_wp2_with fail
  refine (KP.out _).mono ?_
  rintro e w1 ⟨q, n, rfl, hcap, hrd, hD, hf⟩
  have h1 := (h.drewN _).moved hf hD
  have G1 := h.grF (((Fr.refl [X.d] w).drewN _).trans hf)
  have KE := Lib.hid (hE.out _ _ _ q n h1 hrd hcap hlen)
  clear hrd hcap
  go_wp2_with fail
  refine KE.out.mono ?_
  rintro e w2 ⟨v2, o2, rfl, hv2, ho2, h2, hG2⟩
  have G2 := G1.trans hG2
  rcases hr : r.2 with _ | k
  · rw [hr] at hv2
    obtain rfl := hv2.nil
    go_wp2
    go_ret
    exact ⟨.nilIface, o2, rfl, (by rw [hr]; rfl), ho2, h2, G2⟩
  · rw [hr] at hv2
    obtain ⟨t, x, rfl⟩ := hv2.ne
    go_wp2
    go_ret
    exact ⟨.iface t x, o2, rfl, (by rw [hr]; exact hv2), ho2, h2, G2⟩
end
end Go.Proofs.YteodinhkhhaafaaGreatDoor
