/- The walk of getHead: the head of an item that is there. -/
import Derived.Test.YteodinhkhhaafaaGreatDoorWa
set_option linter.unusedVariables false
set_option linter.unusedSimpArgs false
namespace Go.Proofs.YteodinhkhhaafaaGreatDoor
open Go.RowKit

theorem be1 (xs : List UInt8) (i : Nat) (h : i < xs.length) : be ((xs.drop i).take 1) = xs[i].toNat := by
  rw [List.drop_eq_getElem_cons h]; simp only [List.take_succ_cons, List.take_zero, be, List.foldl_cons, List.foldl_nil]; omega
theorem be2 (xs : List UInt8) (i : Nat) (h : i + 1 < xs.length) : be ((xs.drop i).take 2) = two xs[i] xs[i + 1] := by
  rw [List.drop_eq_getElem_cons (by omega), List.drop_eq_getElem_cons h]; simp only [List.take_succ_cons, List.take_zero, be, List.foldl_cons, List.foldl_nil, two]; omega
theorem be4 (xs : List UInt8) (i : Nat) (h : i + 3 < xs.length) : be ((xs.drop i).take 4) = four (two xs[i] xs[i + 1]) (two xs[i + 2] xs[i + 3]) := by
  rw [List.drop_eq_getElem_cons (by omega), List.drop_eq_getElem_cons (show i + 1 < _ by omega), List.drop_eq_getElem_cons (show i + 1 + 1 < _ by omega), List.drop_eq_getElem_cons (show i + 1 + 1 + 1 < _ by omega)]
  simp only [List.take_succ_cons, List.take_zero, be, List.foldl_cons, List.foldl_nil, two, four, Nat.add_assoc, Nat.reduceAdd]; omega
theorem be8 (xs : List UInt8) (i : Nat) (h : i + 7 < xs.length) : be ((xs.drop i).take 8) = eight (four (two xs[i] xs[i + 1]) (two xs[i + 2] xs[i + 3])) (four (two xs[i + 4] xs[i + 5]) (two xs[i + 6] xs[i + 7])) := by
  rw [List.drop_eq_getElem_cons (by omega), List.drop_eq_getElem_cons (show i + 1 < _ by omega), List.drop_eq_getElem_cons (show i + 1 + 1 < _ by omega), List.drop_eq_getElem_cons (show i + 1 + 1 + 1 < _ by omega),
    List.drop_eq_getElem_cons (show i + 1 + 1 + 1 + 1 < _ by omega), List.drop_eq_getElem_cons (show i + 1 + 1 + 1 + 1 + 1 < _ by omega), List.drop_eq_getElem_cons (show i + 1 + 1 + 1 + 1 + 1 + 1 < _ by omega), List.drop_eq_getElem_cons (show i + 1 + 1 + 1 + 1 + 1 + 1 + 1 < _ by omega)]
  simp only [List.take_succ_cons, List.take_zero, be, List.foldl_cons, List.foldl_nil, two, four, eight, Nat.add_assoc, Nat.reduceAdd]; omega

/-- What getHead leaves. -/
def HeadAt (w : World) (d db o c dm : Nat) (xs : List UInt8) (m ai v off' : Nat) (e : Ending) (w' : World) : Prop :=
  e = .returned (.tuple #[.int .u8 ((m * 32 : Nat) : Int), .int .u8 (ai : Int), .int .u64 (v : Int)]) ∧ Dec w' d db o c dm xs off' ∧ Fr [d] w w'

section
variable {w : World} {d db o c dm off : Nat} {xs : List UInt8}
theorem getHead_0 (h : Dec w d db o c dm xs off) (hl : off < xs.length) (k : Nat) (hk : xs[off].toNat % 32 = k) (h23 : k ≤ 23 ∨ 28 ≤ k) :
    Calls Tryz.prog 121 #[.pointer (some ⟨d, 0, none⟩)] w (HeadAt w d db o c dm xs (xs[off].toNat / 32) k k (off + 1)) := by
  have h0 := h.c0
  have h1 := h.c1
  have f1 := h.f1
  have ha := h.at_ off hl
  have hm := h.len
  have K := parseInitialByte xs[off]
  rw [hk] at K
  have K := Lib.hid K
  have hk31 : k < 32 := by omega
  clear hk
  rcases h23 with h23 | h23
  all_goals
    go_enter Tryz.func121, Tryz.ntmps121
    go_wp2
    go_quiet ((go_at_call 160; exact Calls.quiet_of_same (K.out _)))
    go_wp2
    refine bodyPost_ret (results_tmp3 rfl _ _ _) rfl ?_
    exact ⟨rfl, h.move (off + 1) (by omega) _⟩
theorem getHead_1 (h : Dec w d db o c dm xs off) (hl : off + 1 < xs.length) (hk : xs[off].toNat % 32 = 24) :
    Calls Tryz.prog 121 #[.pointer (some ⟨d, 0, none⟩)] w (HeadAt w d db o c dm xs (xs[off].toNat / 32) 24 xs[off + 1].toNat (off + 1 + 1)) := by
  have h0 := h.c0
  have h1 := h.c1
  have f1 := h.f1
  have ha := h.at_ off (by omega)
  have hb := h.at_ (off + 1) (by omega)
  have l0 := u8lt (xs[off + 1]'(by omega))
  have hm := h.len
  have hc := h.cap
  have n1 : ¬ db = d := h.ne
  have n2 : ¬ d = db := fun e => h.ne e.symm
  have K := parseInitialByte (xs[off]'(by omega))
  rw [hk] at K
  have K := Lib.hid K
  clear hk
  go_enter Tryz.func121, Tryz.ntmps121
  go_wp2
  go_quiet ((go_at_call 160; exact Calls.quiet_of_same (K.out _)))
  go_wp2
  have g0 : (off : Int) + 1 < (xs.length : Int) := by omega
  have g1 : 0 ≤ (off : Int) + 1 := by omega
  have g2 : ((off : Int) + 1).toNat = off + 1 := by omega
  go_quiet (fail)
  go_wp2
  refine bodyPost_ret (results_tmp3 rfl _ _ _) rfl ?_
  refine ⟨rfl, DecV.dec (x := (off : Int) + 1 + 1) ?_ _ (by omega) (by omega), ?_⟩
  · repeat (first | with_reducible exact h.v | with_reducible apply DecV.set | with_reducible apply DecV.drewN)
  · repeat (first | with_reducible exact Fr.refl _ _ | with_reducible refine Fr.setCell ?_ (by simp) _ | with_reducible refine Fr.drewN ?_ _)
theorem getHead_2 (h : Dec w d db o c dm xs off) (hl : off + 2 < xs.length) (hk : xs[off].toNat % 32 = 25) :
    Calls Tryz.prog 121 #[.pointer (some ⟨d, 0, none⟩)] w (HeadAt w d db o c dm xs (xs[off].toNat / 32) 25 (two xs[off + 1] xs[off + 2]) (off + 1 + 2)) := by
  have h0 := h.c0
  have h1 := h.c1
  have f1 := h.f1
  have ha := h.at_ off (by omega)
  have hx0 := fun (v : Value) (m n : Nat) => ((Fr.refl [d] (w.drewN m)).setCell (p := ⟨d, 1, none⟩) (by simp) v).drewN n |>.cell (p := ⟨db, o + (off + 1), none⟩) ((show w.cell? ⟨db, o + (off + 1), none⟩ = w.cell? ⟨db, o + (off + 1), none⟩ from congrArg (fun z => w.cell? ⟨db, z, none⟩) (by omega)).trans (h.at_ (off + 1) (by omega))) (by simpa using h.ne)
  have hx1 := fun (v : Value) (m n : Nat) => ((Fr.refl [d] (w.drewN m)).setCell (p := ⟨d, 1, none⟩) (by simp) v).drewN n |>.cell (p := ⟨db, o + (off + 1) + 1, none⟩) ((show w.cell? ⟨db, o + (off + 1) + 1, none⟩ = w.cell? ⟨db, o + (off + 2), none⟩ from congrArg (fun z => w.cell? ⟨db, z, none⟩) (by omega)).trans (h.at_ (off + 2) (by omega))) (by simpa using h.ne)
  have l0 := two_lt (xs[off + 1]'(by omega)) (xs[off + 2]'(by omega))
  have hm := h.len
  have hc := h.cap
  have n1 : ¬ db = d := h.ne
  have n2 : ¬ d = db := fun e => h.ne e.symm
  have K := parseInitialByte (xs[off]'(by omega))
  rw [hk] at K
  have K := Lib.hid K
  clear hk
  go_enter Tryz.func121, Tryz.ntmps121
  go_wp2
  go_quiet ((go_at_call 160; exact Calls.quiet_of_same (K.out _)))
  go_wp2
  have g0 : (off : Int) + 1 < (xs.length : Int) := by omega
  have g1 : 0 ≤ (off : Int) + 1 := by omega
  have g2 : ((off : Int) + 1).toNat = off + 1 := by omega
  have g3 : (off : Int) + 1 + 2 ≤ (c : Int) := by omega
  have g4 : ((off : Int) + 1 + 2).toNat = off + 1 + 2 := by omega
  have g5 : ¬ c = off + 1 := by omega
  have g6 : (off : Int) + 1 ≤ (off : Int) + 1 + 2 := by omega
  have g7 : 0 ≤ (off : Int) + 1 + 2 := by omega
  have g8 : IntKind.i64.wrap ((off : Int) + 1 + 2) = (off : Int) + 1 + 2 := IntWalk.i64_in _ (by omega)
  go_quiet ((go_at_call 161; exact Calls.quiet_of (beUint16 db (o + (off + 1)) 2 (c - (off + 1)) xs[off + 1] xs[off + 2] _ (by omega) (hx0 _ _ _) (hx1 _ _ _))))
  go_wp2
  refine bodyPost_ret (results_tmp3 rfl _ _ _) rfl ?_
  refine ⟨rfl, DecV.dec (x := (off : Int) + 1 + 2) ?_ _ (by omega) (by omega), ?_⟩
  · repeat (first | with_reducible exact h.v | with_reducible apply DecV.set | with_reducible apply DecV.drewN)
  · repeat (first | with_reducible exact Fr.refl _ _ | with_reducible refine Fr.setCell ?_ (by simp) _ | with_reducible refine Fr.drewN ?_ _)
theorem getHead_4 (h : Dec w d db o c dm xs off) (hl : off + 4 < xs.length) (hk : xs[off].toNat % 32 = 26) :
    Calls Tryz.prog 121 #[.pointer (some ⟨d, 0, none⟩)] w (HeadAt w d db o c dm xs (xs[off].toNat / 32) 26 (four (two xs[off + 1] xs[off + 2]) (two xs[off + 3] xs[off + 4])) (off + 1 + 4)) := by
  have h0 := h.c0
  have h1 := h.c1
  have f1 := h.f1
  have ha := h.at_ off (by omega)
  have hx0 := fun (v : Value) (m n : Nat) => ((Fr.refl [d] (w.drewN m)).setCell (p := ⟨d, 1, none⟩) (by simp) v).drewN n |>.cell (p := ⟨db, o + (off + 1), none⟩) ((show w.cell? ⟨db, o + (off + 1), none⟩ = w.cell? ⟨db, o + (off + 1), none⟩ from congrArg (fun z => w.cell? ⟨db, z, none⟩) (by omega)).trans (h.at_ (off + 1) (by omega))) (by simpa using h.ne)
  have hx1 := fun (v : Value) (m n : Nat) => ((Fr.refl [d] (w.drewN m)).setCell (p := ⟨d, 1, none⟩) (by simp) v).drewN n |>.cell (p := ⟨db, o + (off + 1) + 1, none⟩) ((show w.cell? ⟨db, o + (off + 1) + 1, none⟩ = w.cell? ⟨db, o + (off + 2), none⟩ from congrArg (fun z => w.cell? ⟨db, z, none⟩) (by omega)).trans (h.at_ (off + 2) (by omega))) (by simpa using h.ne)
  have hx2 := fun (v : Value) (m n : Nat) => ((Fr.refl [d] (w.drewN m)).setCell (p := ⟨d, 1, none⟩) (by simp) v).drewN n |>.cell (p := ⟨db, o + (off + 1) + 2, none⟩) ((show w.cell? ⟨db, o + (off + 1) + 2, none⟩ = w.cell? ⟨db, o + (off + 3), none⟩ from congrArg (fun z => w.cell? ⟨db, z, none⟩) (by omega)).trans (h.at_ (off + 3) (by omega))) (by simpa using h.ne)
  have hx3 := fun (v : Value) (m n : Nat) => ((Fr.refl [d] (w.drewN m)).setCell (p := ⟨d, 1, none⟩) (by simp) v).drewN n |>.cell (p := ⟨db, o + (off + 1) + 2 + 1, none⟩) ((show w.cell? ⟨db, o + (off + 1) + 2 + 1, none⟩ = w.cell? ⟨db, o + (off + 4), none⟩ from congrArg (fun z => w.cell? ⟨db, z, none⟩) (by omega)).trans (h.at_ (off + 4) (by omega))) (by simpa using h.ne)
  have l0 := four_lt _ _ (two_lt (xs[off + 1]'(by omega)) (xs[off + 2]'(by omega))) (two_lt (xs[off + 3]'(by omega)) (xs[off + 4]'(by omega)))
  have hm := h.len
  have hc := h.cap
  have n1 : ¬ db = d := h.ne
  have n2 : ¬ d = db := fun e => h.ne e.symm
  have K := parseInitialByte (xs[off]'(by omega))
  rw [hk] at K
  have K := Lib.hid K
  clear hk
  go_enter Tryz.func121, Tryz.ntmps121
  go_wp2
  go_quiet ((go_at_call 160; exact Calls.quiet_of_same (K.out _)))
  go_wp2
  have g0 : (off : Int) + 1 < (xs.length : Int) := by omega
  have g1 : 0 ≤ (off : Int) + 1 := by omega
  have g2 : ((off : Int) + 1).toNat = off + 1 := by omega
  have g3 : (off : Int) + 1 + 4 ≤ (c : Int) := by omega
  have g4 : ((off : Int) + 1 + 4).toNat = off + 1 + 4 := by omega
  have g5 : ¬ c = off + 1 := by omega
  have g6 : (off : Int) + 1 ≤ (off : Int) + 1 + 4 := by omega
  have g7 : 0 ≤ (off : Int) + 1 + 4 := by omega
  have g8 : IntKind.i64.wrap ((off : Int) + 1 + 4) = (off : Int) + 1 + 4 := IntWalk.i64_in _ (by omega)
  go_quiet ((go_at_call 162; exact Calls.quiet_of (beUint32 db (o + (off + 1)) 4 (c - (off + 1)) xs[off + 1] xs[off + 2] xs[off + 3] xs[off + 4] _ (by omega) (by omega) (hx0 _ _ _) (hx1 _ _ _) (hx2 _ _ _) (hx3 _ _ _))))
  go_wp2
  refine bodyPost_ret (results_tmp3 rfl _ _ _) rfl ?_
  refine ⟨rfl, DecV.dec (x := (off : Int) + 1 + 4) ?_ _ (by omega) (by omega), ?_⟩
  · repeat (first | with_reducible exact h.v | with_reducible apply DecV.set | with_reducible apply DecV.drewN)
  · repeat (first | with_reducible exact Fr.refl _ _ | with_reducible refine Fr.setCell ?_ (by simp) _ | with_reducible refine Fr.drewN ?_ _)
theorem getHead_8 (h : Dec w d db o c dm xs off) (hl : off + 8 < xs.length) (hk : xs[off].toNat % 32 = 27) :
    Calls Tryz.prog 121 #[.pointer (some ⟨d, 0, none⟩)] w (HeadAt w d db o c dm xs (xs[off].toNat / 32) 27 (eight (four (two xs[off + 1] xs[off + 2]) (two xs[off + 3] xs[off + 4])) (four (two xs[off + 5] xs[off + 6]) (two xs[off + 7] xs[off + 8]))) (off + 1 + 8)) := by
  have h0 := h.c0
  have h1 := h.c1
  have f1 := h.f1
  have ha := h.at_ off (by omega)
  have hx0 := fun (v : Value) (m n : Nat) => ((Fr.refl [d] (w.drewN m)).setCell (p := ⟨d, 1, none⟩) (by simp) v).drewN n |>.cell (p := ⟨db, o + (off + 1), none⟩) ((show w.cell? ⟨db, o + (off + 1), none⟩ = w.cell? ⟨db, o + (off + 1), none⟩ from congrArg (fun z => w.cell? ⟨db, z, none⟩) (by omega)).trans (h.at_ (off + 1) (by omega))) (by simpa using h.ne)
  have hx1 := fun (v : Value) (m n : Nat) => ((Fr.refl [d] (w.drewN m)).setCell (p := ⟨d, 1, none⟩) (by simp) v).drewN n |>.cell (p := ⟨db, o + (off + 1) + 1, none⟩) ((show w.cell? ⟨db, o + (off + 1) + 1, none⟩ = w.cell? ⟨db, o + (off + 2), none⟩ from congrArg (fun z => w.cell? ⟨db, z, none⟩) (by omega)).trans (h.at_ (off + 2) (by omega))) (by simpa using h.ne)
  have hx2 := fun (v : Value) (m n : Nat) => ((Fr.refl [d] (w.drewN m)).setCell (p := ⟨d, 1, none⟩) (by simp) v).drewN n |>.cell (p := ⟨db, o + (off + 1) + 2, none⟩) ((show w.cell? ⟨db, o + (off + 1) + 2, none⟩ = w.cell? ⟨db, o + (off + 3), none⟩ from congrArg (fun z => w.cell? ⟨db, z, none⟩) (by omega)).trans (h.at_ (off + 3) (by omega))) (by simpa using h.ne)
  have hx3 := fun (v : Value) (m n : Nat) => ((Fr.refl [d] (w.drewN m)).setCell (p := ⟨d, 1, none⟩) (by simp) v).drewN n |>.cell (p := ⟨db, o + (off + 1) + 2 + 1, none⟩) ((show w.cell? ⟨db, o + (off + 1) + 2 + 1, none⟩ = w.cell? ⟨db, o + (off + 4), none⟩ from congrArg (fun z => w.cell? ⟨db, z, none⟩) (by omega)).trans (h.at_ (off + 4) (by omega))) (by simpa using h.ne)
  have hx4 := fun (v : Value) (m n : Nat) => ((Fr.refl [d] (w.drewN m)).setCell (p := ⟨d, 1, none⟩) (by simp) v).drewN n |>.cell (p := ⟨db, o + (off + 1) + 4, none⟩) ((show w.cell? ⟨db, o + (off + 1) + 4, none⟩ = w.cell? ⟨db, o + (off + 5), none⟩ from congrArg (fun z => w.cell? ⟨db, z, none⟩) (by omega)).trans (h.at_ (off + 5) (by omega))) (by simpa using h.ne)
  have hx5 := fun (v : Value) (m n : Nat) => ((Fr.refl [d] (w.drewN m)).setCell (p := ⟨d, 1, none⟩) (by simp) v).drewN n |>.cell (p := ⟨db, o + (off + 1) + 4 + 1, none⟩) ((show w.cell? ⟨db, o + (off + 1) + 4 + 1, none⟩ = w.cell? ⟨db, o + (off + 6), none⟩ from congrArg (fun z => w.cell? ⟨db, z, none⟩) (by omega)).trans (h.at_ (off + 6) (by omega))) (by simpa using h.ne)
  have hx6 := fun (v : Value) (m n : Nat) => ((Fr.refl [d] (w.drewN m)).setCell (p := ⟨d, 1, none⟩) (by simp) v).drewN n |>.cell (p := ⟨db, o + (off + 1) + 4 + 2, none⟩) ((show w.cell? ⟨db, o + (off + 1) + 4 + 2, none⟩ = w.cell? ⟨db, o + (off + 7), none⟩ from congrArg (fun z => w.cell? ⟨db, z, none⟩) (by omega)).trans (h.at_ (off + 7) (by omega))) (by simpa using h.ne)
  have hx7 := fun (v : Value) (m n : Nat) => ((Fr.refl [d] (w.drewN m)).setCell (p := ⟨d, 1, none⟩) (by simp) v).drewN n |>.cell (p := ⟨db, o + (off + 1) + 4 + 2 + 1, none⟩) ((show w.cell? ⟨db, o + (off + 1) + 4 + 2 + 1, none⟩ = w.cell? ⟨db, o + (off + 8), none⟩ from congrArg (fun z => w.cell? ⟨db, z, none⟩) (by omega)).trans (h.at_ (off + 8) (by omega))) (by simpa using h.ne)
  have hm := h.len
  have hc := h.cap
  have n1 : ¬ db = d := h.ne
  have n2 : ¬ d = db := fun e => h.ne e.symm
  have K := parseInitialByte (xs[off]'(by omega))
  rw [hk] at K
  have K := Lib.hid K
  clear hk
  go_enter Tryz.func121, Tryz.ntmps121
  go_wp2
  go_quiet ((go_at_call 160; exact Calls.quiet_of_same (K.out _)))
  go_wp2
  have g0 : (off : Int) + 1 < (xs.length : Int) := by omega
  have g1 : 0 ≤ (off : Int) + 1 := by omega
  have g2 : ((off : Int) + 1).toNat = off + 1 := by omega
  have g3 : (off : Int) + 1 + 8 ≤ (c : Int) := by omega
  have g4 : ((off : Int) + 1 + 8).toNat = off + 1 + 8 := by omega
  have g5 : ¬ c = off + 1 := by omega
  have g6 : (off : Int) + 1 ≤ (off : Int) + 1 + 8 := by omega
  have g7 : 0 ≤ (off : Int) + 1 + 8 := by omega
  have g8 : IntKind.i64.wrap ((off : Int) + 1 + 8) = (off : Int) + 1 + 8 := IntWalk.i64_in _ (by omega)
  go_quiet ((go_at_call 163; exact Calls.quiet_of (beUint64 db (o + (off + 1)) 8 (c - (off + 1)) xs[off + 1] xs[off + 2] xs[off + 3] xs[off + 4] xs[off + 5] xs[off + 6] xs[off + 7] xs[off + 8] _ (by omega) (by omega) (hx0 _ _ _) (hx1 _ _ _) (hx2 _ _ _) (hx3 _ _ _) (hx4 _ _ _) (hx5 _ _ _) (hx6 _ _ _) (hx7 _ _ _))))
  go_wp2
  refine bodyPost_ret (results_tmp3 rfl _ _ _) rfl ?_
  refine ⟨rfl, DecV.dec (x := (off : Int) + 1 + 8) ?_ _ (by omega) (by omega), ?_⟩
  · repeat (first | with_reducible exact h.v | with_reducible apply DecV.set | with_reducible apply DecV.drewN)
  · repeat (first | with_reducible exact Fr.refl _ _ | with_reducible refine Fr.setCell ?_ (by simp) _ | with_reducible refine Fr.drewN ?_ _)

theorem getElem?_lt {xs : List UInt8} {off : Nat} {b : UInt8} (e : xs[off]? = some b) : ∃ hl : off < xs.length, xs[off] = b := by
  obtain ⟨hl, h⟩ := List.getElem?_eq_some_iff.1 e
  exact ⟨hl, h⟩

/-- getHead, wherever there is a head. -/
theorem getHead (h : Dec w d db o c dm xs off) {m ai v off' : Nat} (hh : hd xs off = .ok (m, ai, v, off')) :
    Calls Tryz.prog 121 #[.pointer (some ⟨d, 0, none⟩)] w (HeadAt w d db o c dm xs m ai v off') := by
  unfold hd at hh
  split at hh
  · cases hh
  · rename_i b e
    obtain ⟨hl, rfl⟩ := getElem?_lt e
    split at hh
    · cases hh
      exact getHead_0 h hl _ rfl (.inl (by omega))
    · split at hh
      · split at hh
        · cases hh
        · split at hh
          · cases hh
          · rename_i h24 h28 hlen hs
            have h4 : xs[off].toNat % 32 = 24 ∨ xs[off].toNat % 32 = 25 ∨ xs[off].toNat % 32 = 26 ∨ xs[off].toNat % 32 = 27 := by omega
            rcases h4 with h4 | h4 | h4 | h4 <;> rw [h4] at hh hlen <;> simp only [Nat.reduceSub, Nat.reducePow] at hh hlen
            · rw [be1 _ _ (by omega)] at hh; cases hh
              exact getHead_1 h (by omega) h4
            · rw [be2 _ _ (by omega)] at hh; cases hh
              exact getHead_2 h (by omega) h4
            · rw [be4 _ _ (by omega)] at hh; cases hh
              exact getHead_4 h (by omega) h4
            · rw [be8 _ _ (by omega)] at hh; cases hh
              exact getHead_8 h (by omega) h4
      · split at hh
        · split at hh
          · cases hh
          · cases hh
            exact getHead_0 h hl _ ‹_› (.inr (by omega))
        · cases hh
end
end Go.Proofs.YteodinhkhhaafaaGreatDoor
