/- The walks of the heads of strings, and of parseByteString: a string as a whole. -/
import Derived.Test.YteodinhkhhaafaaGreatDoorWl
import Derived.Test.YteodinhkhhaafaaGreatDoorKa
set_option linter.unusedVariables false
set_option linter.unusedSimpArgs false
namespace Go.Proofs.YteodinhkhhaafaaGreatDoor
open Go.RowKit

section
variable {w : World} {d db o c dm off : Nat} {xs : List UInt8}
def HeadFAt (w : World) (d db o c dm : Nat) (xs : List UInt8) (m ai v off' : Nat) (e : Ending) (w' : World) : Prop :=
  e = .returned (.tuple #[.int .u8 ((m * 32 : Nat) : Int), .int .u8 (ai : Int), .int .u64 (v : Int), .bool ((ai : Int) == 31)]) ∧ Dec w' d db o c dm xs off' ∧ Fr [d] w w'
theorem getHeadF (h : Dec w d db o c dm xs off) {m ai v off' : Nat} (hh : hd xs off = .ok (m, ai, v, off')) :
    Calls Tryz.prog 168 #[.pointer (some ⟨d, 0, none⟩)] w (HeadFAt w d db o c dm xs m ai v off') := by
  have K := Lib.hid (getHead h hh)
  clear hh
  go_enter Tryz.func168, Tryz.ntmps168
  go_wp2_with fail
  refine K.out.mono ?_
  rintro e w1 ⟨rfl, hD, hf⟩
  go_wp2
  refine bodyPost_ret (res4 rfl _ _ _) rfl ?_
  exact ⟨rfl, hD, hf⟩
/-- A string's bytes, in the decoder's own. -/
def StrAt (w : World) (d db o c dm : Nat) (xs : List UInt8) (off' : Nat) (b : List UInt8) (e : Ending) (w' : World) : Prop :=
  ∃ q n, e = .returned (.tuple #[.slice (some ⟨db, q, none⟩) b.length n, .bool false]) ∧ b.length ≤ n ∧ Rd w' db q b ∧ Dec w' d db o c dm xs off' ∧ Fr [d] w w'
set_option maxHeartbeats 1600000 in
theorem parseByteString (h : Dec w d db o c dm xs off) {m ai v o1 : Nat} (hh : hd xs off = .ok (m, ai, v, o1)) (hai : ai ≠ 31) (hl : o1 + v ≤ xs.length) {b : List UInt8} (hb : b = (xs.drop o1).take v) :
    Calls Tryz.prog 129 #[.pointer (some ⟨d, 0, none⟩)] w (StrAt w d db o c dm xs (o1 + v) b) := by
  have K := Lib.hid (getHeadF h hh)
  have g31 : ((ai : Int) == 31) = false := by simp; omega
  have hm := h.len
  have hbl : b.length = v := by rw [hb]; simp; omega
  replace hh := Lib.hid hh
  clear hai
  go_enter Tryz.func129, Tryz.ntmps129
  go_wp2_with fail
  refine K.out.mono ?_
  rintro e w1 ⟨rfl, hD, hf⟩
  have h0 := hD.c0
  have h1 := hD.c1
  have f1 := hD.f1
  have hc := hD.cap
  have gv : IntKind.i64.wrap (v : Int) = (v : Int) := IntWalk.i64_in _ (by omega)
  have gs : IntKind.i64.wrap ((o1 : Int) + (v : Int)) = (o1 : Int) + (v : Int) := IntWalk.i64_in _ (by omega)
  have g1 : (0 : Int) ≤ (o1 : Int) := by omega
  have g2 : (o1 : Int).toNat = o1 := by omega
  have g3 : (o1 : Int) ≤ (o1 : Int) + (v : Int) := by omega
  have g4 : (o1 : Int) + (v : Int) ≤ (c : Int) := by omega
  have g5 : ((o1 : Int) + (v : Int)).toNat = o1 + v := by omega
  have g6 : 0 ≤ (o1 : Int) + (v : Int) := by omega
  go_wp2
  by_cases hco : c = o1
  all_goals
    go_quiet (fail)
    go_wp2
    go_ret2
  · have hv0 : v = 0 := by omega
    subst hv0
    have hbn : b = [] := List.eq_nil_of_length_eq_zero hbl
    refine ⟨o, _, by rw [hbl]; rfl, by omega, by rw [hbn]; exact Rd.nil _ _ _, DecV.dec (x := (o1 : Int) + ((0 : Nat) : Int)) ?_ _ (by omega) (by omega), Fr.trans hf ?_⟩
    · repeat (first | with_reducible exact hD.v | with_reducible apply DecV.set | with_reducible apply DecV.drewN)
    · repeat (first | with_reducible exact Fr.refl _ _ | with_reducible refine Fr.setCell ?_ (by simp) _ | with_reducible refine Fr.drewN ?_ _)
  · have hD2 : Dec ((w1.drewN nq).setCell ⟨d, 1, none⟩ (.int .i64 ((o1 : Int) + (v : Int)))) d db o c dm xs (o1 + v) := by
      refine DecV.dec (x := (o1 : Int) + (v : Int)) ?_ _ (by omega) (by omega)
      repeat (first | with_reducible exact hD.v | with_reducible apply DecV.set | with_reducible apply DecV.drewN)
    refine ⟨o + o1, _, by rw [hbl]; rfl, by omega, ?_, hD2, Fr.trans hf ?_⟩
    · rw [hb]
      exact (hD2.rd.drop o1).take v
    · repeat (first | with_reducible exact Fr.refl _ _ | with_reducible refine Fr.setCell ?_ (by simp) _ | with_reducible refine Fr.drewN ?_ _)
end
end Go.Proofs.YteodinhkhhaafaaGreatDoor
