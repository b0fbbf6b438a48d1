/- The walk of Diag. -/
import Derived.Test.YteodinhkhhaafaaGreatDoorWx
import Derived.Test.YteodinhkhhaafaaGreatDoorWz
set_option linter.unusedVariables false
set_option linter.unusedSimpArgs false
namespace Go.Proofs.YteodinhkhhaafaaGreatDoor
open Go.RowKit

theorem toBytes (w : World) (xs : List UInt8) : ∃ c w1, (convert 9 59 (.string ⟨xs.toArray⟩)).run Tryz.prog w = .ok (.slice (some ⟨w.heap.size, 0, none⟩) xs.length c) w1 ∧ Rd w1 w.heap.size 0 xs ∧ xs.length ≤ c ∧ w.heap.size < w1.heap.size ∧ Fr [] w w1 := by
  have h := run_bytes_of_string w 9 59 5 ⟨xs.toArray⟩ Tryz.underlying9 Tryz.underlying59 Tryz.underlying5
  rw [size_mk] at h
  refine ⟨_, _, h, ?_, grownCap_ge _ _ _ _, by simp, ((Fr.refl [] w).drew).alloc _⟩
  intro j hj
  refine (cell_blk (blk_new w.drew _) _).trans ?_
  simp only [bytesRow, Nat.zero_add, List.map_toArray]
  rw [Array.getElem?_append_left (by simpa using hj)]
  simp [hj]
/-- An answer: a text, or the kind of an error. -/
def ans (r : R) : List UInt8 × Nat :=
  match r.2 with
  | none => (r.1, 0)
  | some k => ([], k)
set_option maxHeartbeats 1600000 in
theorem implDiag {xs : List UInt8} {M : Md} {n : Nat} {L : Lim} (hL : LimOf n L) (he : M.enc < 4) (hlen : xs.length ≤ 1099511627776) {r : R} (hr : Says xs L M M.sq r) (hroom : r.1.length ≤ room) (w : World) (hu : U8 w) :
    Calls Tryz.prog 26 #[.string ⟨xs.toArray⟩, diagOpts .i64 M n] w fun e w' => e = .returned (.tuple #[.string ⟨(ans r).1.toArray⟩, .int .i64 ((ans r).2 : Int)]) ∧ Fr [] w w' := by
  have K1 := Lib.hid (implMode M hL he)
  have hl := hL.le
  replace hr := Lib.hid hr
  replace hu := Lib.hid hu
  unfold diagOpts at *
  go_enter Tryz.func26, Tryz.ntmps26
  go_wp2_with fail
  refine (K1.out _).mono ?_
  rintro e w1 ⟨dg, dm, rfl, h1, h2, h3, h4, h5, h6, hf1⟩
  obtain ⟨c, w2, hconv, hrd, hcap, hsz, hf2⟩ := toBytes w1 xs
  have hF : Fr [] w w2 := (((Fr.refl [] w).alloc _).trans hf1).trans hf2
  have hu2 := hu.out.fr hF (by simp)
  have K2 := Lib.hid (diagnose hl hrd hcap hlen hsz (hf2.blk h3 (by simp)) (hf2.blk h4 (by simp)) hu2 hr.out hroom)
  clear h1 h2 h3 h4 hu2
  go_wp2_with fail
  refine K2.out.mono ?_
  rintro e w3 ⟨v, rfl, hv, hf3⟩
  obtain ⟨s, q⟩ := r
  cases q with
  | none =>
    obtain rfl := hv.nil
    go_wp2
    go_ret2
    exact ⟨rfl, hF.trans hf3⟩
  | some k =>
    have KK := Lib.hid (zzKind k v hv)
    obtain ⟨t, x, rfl⟩ := hv.ne
    go_wp2_with fail
    refine (KK.out _).mono ?_
    rintro e w4 ⟨rfl, rfl⟩
    go_wp2
    go_ret2
    exact ⟨rfl, hF.trans hf3⟩
end Go.Proofs.YteodinhkhhaafaaGreatDoor
