/- The walks of the modes of notation. The walks of diagnose's wellformed and newDiagnose. -/
import Derived.Test.YteodinhkhhaafaaGreatDoorWu
import Derived.Test.YteodinhkhhaafaaGreatDoorWr
set_option linter.unusedVariables false
set_option linter.unusedSimpArgs false
namespace Go.Proofs.YteodinhkhhaafaaGreatDoor
section
open Go.RowKit

/-- The limits that a number asks for: 0, by default. -/
def LimOf (n : Nat) (L : Lim) : Prop := (n = 0 ∧ L = ⟨32, 131072, 131072⟩) ∨ (16 ≤ n ∧ n ≤ 60 ∧ L = ⟨n, n, n⟩)
theorem LimOf.le {n : Nat} {L : Lim} (h : LimOf n L) : L.nest ≤ 65535 ∧ L.el ≤ 2147483647 ∧ L.pa ≤ 2147483647 := by
  rcases h with ⟨_, rfl⟩ | ⟨h1, h2, rfl⟩
  · decide
  · dsimp only; omega
theorem decMode {n : Nat} {L : Lim} (h : LimOf n L) (w : World) :
    Calls Tryz.prog 113 #[decOpts n n n] w fun e w' => ∃ dm, e = .returned (.tuple #[.pointer (some ⟨dm, 0, none⟩), .nilIface]) ∧ w.heap.size ≤ dm ∧ DecM w' dm L.nest L.el L.pa ∧ Fr [] w w' := by
  rcases h with ⟨rfl, rfl⟩ | ⟨h1, h2, rfl⟩
  · exact decMode_def w
  · exact decMode_lim n h1 h2 w

/-- The options of notation, as a value. -/
def diagOpts (k : IntKind) (M : Md) (n : Nat) : Value := .agg #[.int k (M.enc : Int), .bool M.sp, .bool M.tx, .bool M.em, .bool M.sq, .bool M.pr, .int .i64 (n : Int), .int .i64 (n : Int), .int .i64 (n : Int)]
/-- A mode's block. -/
def DgM (w : World) (dg dm : Nat) (M : Md) : Prop :=
  w.heap[dg]? = some (.cells #[.int .u8 (M.enc : Int), .bool M.sp, .bool M.tx, .bool M.em, .bool M.sq, .bool M.pr, .pointer (some ⟨dm, 0, none⟩)] 139 (0, 0))
/-- What a mode's making leaves. -/
def DPost (M : Md) (L : Lim) (w : World) (last : Value) (e : Ending) (w' : World) : Prop :=
  ∃ dg dm, e = .returned (.tuple #[.pointer (some ⟨dg, 0, none⟩), last]) ∧ w.heap.size ≤ dg ∧ w.heap.size ≤ dm ∧ DgM w' dg dm M ∧ DecM w' dm L.nest L.el L.pa ∧ dg < w'.heap.size ∧ dm < w'.heap.size ∧ Fr [] w w'
set_option maxRecDepth 100000 in
set_option maxHeartbeats 3200000 in
theorem dgMode (M : Md) {n : Nat} {L : Lim} (h : LimOf n L) (he : M.enc < 4) (w : World) :
    Calls Tryz.prog 102 #[diagOpts .u8 M n] w (DPost M L w .nilIface) := by
  have K := Lib.hid (decMode h)
  have g1 : (M.enc : Int) < 4 := by omega
  obtain ⟨enc, sp, tx, em, sq, pr⟩ := M
  dsimp only at he g1
  unfold diagOpts
  go_enter Tryz.func102, Tryz.ntmps102
  go_wp2_with (go_at_call 115; go_in)
  refine (K.out _).mono ?_
  rintro e w1 ⟨dm, rfl, hdm, hM, hf⟩
  have hb : w1.heap[w.heap.size]? = some (.cells #[.int .u8 (enc : Int), .bool sp, .bool tx, .bool em, .bool sq, .bool pr, .int .i64 (n : Int), .int .i64 (n : Int), .int .i64 (n : Int)] 135 (0, 0)) := hf.blk (blk_new w _) (by simp)
  have c0 := cell_blk hb 0
  have c1 := cell_blk hb 1
  have c2 := cell_blk hb 2
  have c3 := cell_blk hb 3
  have c4 := cell_blk hb 4
  have c5 := cell_blk hb 5
  simp only [List.getElem?_toArray, List.getElem?_cons_zero, List.getElem?_cons_succ] at c0 c1 c2 c3 c4 c5
  have hdl := blk_lt' hM
  have hsz := hf.size
  have hsz0 : (w.alloc (.cells #[.int .u8 (enc : Int), .bool sp, .bool tx, .bool em, .bool sq, .bool pr, .int .i64 (n : Int), .int .i64 (n : Int), .int .i64 (n : Int)] 135)).heap.size = w.heap.size + 1 := by simp
  rw [hsz0] at hdm hsz
  have hF : Fr [] w w1 := ((Fr.refl [] w).alloc _).trans hf
  clear hb
  go_wp2
  go_ret2
  refine ⟨_, dm, rfl, by omega, by omega, blk_new' _ _ (by simp), blk_alloc hM _, by simp, by simp; omega, hF.alloc _⟩
theorem zzMode (M : Md) {n : Nat} {L : Lim} (h : LimOf n L) (he : M.enc < 4) (w : World) :
    Calls Tryz.prog 85 #[diagOpts .u8 M n] w (DPost M L w .nilIface) := by
  have K := Lib.hid (dgMode M h he)
  obtain ⟨enc, sp, tx, em, sq, pr⟩ := M
  unfold diagOpts at *
  go_enter Tryz.func85, Tryz.ntmps85
  go_wp2_with fail
  refine (K.out _).mono ?_
  rintro e w1 ⟨dg, dm, rfl, h1, h2, h3, h4, h5, h6, hf⟩
  have hsz0 : (w.alloc (.cells #[.int .u8 (enc : Int), .bool sp, .bool tx, .bool em, .bool sq, .bool pr, .int .i64 (n : Int), .int .i64 (n : Int), .int .i64 (n : Int)] 135)).heap.size = w.heap.size + 1 := by simp
  rw [hsz0] at h1 h2
  go_wp2
  go_ret2
  exact ⟨dg, dm, rfl, by omega, by omega, h3, h4, h5, h6, ((Fr.refl [] w).alloc _).trans hf⟩
set_option maxRecDepth 100000 in
set_option maxHeartbeats 3200000 in
theorem implMode (M : Md) {n : Nat} {L : Lim} (h : LimOf n L) (he : M.enc < 4) (w : World) :
    Calls Tryz.prog 56 #[diagOpts .i64 M n] w (DPost M L w (.bool true)) := by
  have K := Lib.hid (zzMode M h he)
  obtain ⟨enc, sp, tx, em, sq, pr⟩ := M
  dsimp only at he
  have g0 : ¬ (enc : Int) < 0 := by omega
  have g1 : ¬ (255 : Int) < (enc : Int) := by omega
  have g2 : IntKind.u8.wrap (enc : Int) = (enc : Int) := by
    show (enc : Int) % 256 = _
    omega
  unfold diagOpts at *
  go_enter Tryz.func56, Tryz.ntmps56
  go_wp2_with fail
  refine (K.out _).mono ?_
  rintro e w1 ⟨dg, dm, rfl, h1, h2, h3, h4, h5, h6, hf⟩
  have hsz0 : (w.alloc (.cells #[.int .i64 (enc : Int), .bool sp, .bool tx, .bool em, .bool sq, .bool pr, .int .i64 (n : Int), .int .i64 (n : Int), .int .i64 (n : Int)] 24)).heap.size = w.heap.size + 1 := by simp
  rw [hsz0] at h1 h2
  go_wp2
  go_quiet (fail)
  go_wp2
  go_ret2
  exact ⟨dg, dm, rfl, by omega, by omega, h3, h4, h5, h6, (((Fr.refl [] w).alloc _).trans hf).drewN _⟩
end
section
open Go.RowKit

theorem di_wellformed {X : Cx} {off : Nat} {bs : List UInt8} {w : World} (h : St X off bs w) (hn : X.L.nest ≤ 65535) (hel : X.L.el ≤ 2147483647) (hpa : X.L.pa ≤ 2147483647) (more : Bool) (r : Option Nat) (hr : wfTop X.L X.xs more off r) :
    Calls Tryz.prog 103 #[.pointer (some ⟨X.di, 0, none⟩), .bool more] w fun e w' => ∃ v, e = .returned v ∧ ErrO r v ∧ St X off bs w' ∧ Gr X.B [X.d, X.wb] w w' := by
  have k1 := h.i1
  have d1 := h.dec.c1
  have hle := h.dec.le
  have K := Lib.hid (wellformed hn hel hpa h.dec h.dm h.n3 more r hr)
  go_enter Tryz.func103, Tryz.ntmps103
  go_wp2_with fail
  refine K.out.mono ?_
  rintro e w1 ⟨v, rfl, hv, ⟨u, hu⟩, hf⟩
  have k1' : w1.cell? ⟨X.di, 1, none⟩ = some (.pointer (some ⟨X.d, 0, none⟩)) := hf.cell k1 (by simpa using h.n1)
  have c1 : w1.cell? ⟨X.d, 1, none⟩ = some u := cell_blk hu.blk 1
  have f1 : w1.frozen? ⟨X.d, 1, none⟩ = false := frozen_blk hu.blk 1
  go_wp2
  go_ret
  have hF : Fr [X.d] w (w1.setCell ⟨X.d, 1, none⟩ (.int .i64 (off : Int))) := hf.setCell (by simp) _
  exact ⟨_, rfl, hv, h.moved hF (DecV.dec (x := (off : Int)) (hu.set _) off rfl hle), h.grF hF⟩

theorem newDiagnose {w : World} {db o c dm dg : Nat} {xs : List UInt8} {M : Md} {L : Lim} (hrd : Rd w db o xs) (hcap : xs.length ≤ c) (hlen : xs.length ≤ 1099511627776) (hdb : db < w.heap.size) (hM : DgM w dg dm M) (hD : DecM w dm L.nest L.el L.pa) (hu : U8 w) :
    Calls Tryz.prog 86 #[.slice (some ⟨db, o, none⟩) xs.length c, .pointer (some ⟨dm, 0, none⟩), .pointer (some ⟨dg, 0, none⟩)] w fun e w' => ∃ X : Cx, e = .returned (.pointer (some ⟨X.di, 0, none⟩)) ∧ X.xs = xs ∧ X.L = L ∧ X.M = M ∧ X.dg = dg ∧ X.db = db ∧ X.o = o ∧ X.c = c ∧ w.heap.size ≤ X.B ∧ w.heap.size ≤ X.d ∧ w.heap.size ≤ X.wb ∧ St X 0 [] w' ∧ Fr [] w w' := by
  have l1 := blk_lt' hM
  have l2 := blk_lt' hD
  have lu := hu.size
  replace hu := Lib.hid hu
  go_enter Tryz.func86, Tryz.ntmps86
  go_wp2
  go_ret
  refine ⟨⟨w.heap.size + 3, w.heap.size + 2, dg, w.heap.size, w.heap.size + 1, db, o, c, dm, xs, L, M⟩, rfl, rfl, rfl, rfl, rfl, rfl, rfl, rfl, by simp, by simp, by simp, ?_, ?_⟩
  · refine ⟨blk_new' _ _ (by simp), blk_alloc (blk_alloc (blk_alloc hM _) _) _, ⟨blk_alloc (blk_alloc (blk_new' _ _ (by simp)) _) _, ?_, hcap, hlen, by dsimp only; omega, by simp⟩, blk_alloc (blk_alloc (blk_alloc hD _) _) _, ⟨_, blk_alloc (blk_new' _ _ (by simp)) _, Row.nil _ _⟩, by simp, by simp, by dsimp only; omega, by simp, by simp, by dsimp only; omega, by dsimp only; omega, by dsimp only; omega, ?_, by dsimp only; omega, by dsimp only; omega, by dsimp only; omega⟩
    rotate_left
    · exact hu.out.fr (S := []) (by repeat (first | with_reducible exact Fr.refl _ _ | with_reducible refine Fr.alloc ?_ _)) (by simp)
    exact hrd.fr (S := []) (by repeat (first | with_reducible exact Fr.refl _ _ | with_reducible refine Fr.alloc ?_ _)) (by simp)
  · repeat (first | with_reducible exact Fr.refl _ _ | with_reducible refine Fr.alloc ?_ _)
end
end Go.Proofs.YteodinhkhhaafaaGreatDoor
