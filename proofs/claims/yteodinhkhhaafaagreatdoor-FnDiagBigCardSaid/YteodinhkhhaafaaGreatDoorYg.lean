/- The walk of FnDiagLimits. The walk of FnDiagLimits: maps of n pairs, nests. FnDiagLimits: arrays, or maps, nested n levels deep, and arrays of n elements, maps of n pairs, are refused exactly if n is above the limit: the walk of the law, lifted. -/
import Derived.Test.YteodinhkhhaafaaGreatDoorYa
import Derived.Test.YteodinhkhhaafaaGreatDoorRz
set_option linter.unusedVariables false
set_option linter.unusedSimpArgs false
namespace Go.Proofs.YteodinhkhhaafaaGreatDoor
section
open Go.RowKit

theorem headB_le (m n f : Nat) : (headB m n f).length ≤ 9 := by
  unfold headB
  split
  · simp
  · rw [List.length_cons, beB_length]
    have h1 := lgB_lt f n
    have := Nat.pow_le_pow_right (n := 2) (by omega) (show lgB f n ≤ 3 by omega)
    omega
def M0 : Md := ⟨0, false, false, false, false, false⟩
set_option maxRecDepth 100000 in
set_option maxHeartbeats 1600000 in
theorem law_limits2 (a b c : Int) (w : World) (lim n : Nat) (hlim : wrap64 (16 + wrap64 ((IntKind.u64.wrap a).tmod 45)) = (lim : Int)) (hn : wrap64 ((IntKind.u64.wrap b).tmod 80) = (n : Int)) (hc : wrap64 ((IntKind.u64.wrap c).tmod 4) = 2)
    (h1 : 16 ≤ lim) (h2 : lim ≤ 60) (hn2 : n < 80) (hu : U8 w) : Calls Tryz.prog 11 #[.int .i64 a, .int .i64 b, .int .i64 c] w fun e w' => e = .returned (.bool true) ∧ Fr [] w w' := by
  have gu : IntKind.u64.wrap (n : Int) = (n : Int) := by show (n : Int) % 18446744073709551616 = _; omega
  replace hu := Lib.hid hu
  have KH := Lib.hid (head 4 n (by omega) (by omega))
  go_enter Tryz.func11, Tryz.ntmps11
  go_wp2_with fail
  refine (KH.out _).mono ?_
  rintro e w1 ⟨rfl, hf⟩
  go_wp2_with fail
  have hhl := headB_le 4 n 0
  have hb := hf.blk (blk_new w _) (by simp)
  have c0 := cell_blk hb 0
  have c1 := cell_blk hb 1
  have c2 := cell_blk hb 2
  have c3 := cell_blk hb 3
  have c4 := cell_blk hb 4
  have c5 := cell_blk hb 5
  have c6 := cell_blk hb 6
  have c7 := cell_blk hb 7
  have c8 := cell_blk hb 8
  simp only [List.getElem?_toArray, List.getElem?_cons_zero, List.getElem?_cons_succ] at c0 c1 c2 c3 c4 c5 c6 c7 c8
  have hF : Fr [] w w1 := ((Fr.refl [] w).alloc _).trans hf
  clear hb hf
  go_loopg [8, 64] n (fun k v8 v64 wr => ∃ j : Nat, v64 = .int .i64 (j : Int) ∧ j + k = n ∧ v8 = .string ⟨(headB 4 n 0 ++ List.replicate j 1).toArray⟩ ∧ wr = w1)
  case atStart => exact ⟨0, by go_num, by omega, by simp, rfl⟩
  case round =>
    obtain ⟨j, rfl, hj, rfl, rfl⟩ := hrel
    by_cases hk : gk = 0
    · subst hk
      obtain rfl : j = n := by omega
      have t1 : ¬ (j : Int) < (j : Int) := by omega
      obtain ⟨r, hs, hr1, hr2, hr3⟩ := lim_says lim 2 j h1 h2 hn2 M0 false
      have hD : limData 2 j = headB 4 j 0 ++ List.replicate j 1 := rfl
      have KD := implDiag (M := M0) (.inr ⟨h1, h2, rfl⟩) (by decide) (by rw [hD]; simp; omega) hs hr1 wr (hu.out.fr hF (by simp))
      unfold diagOpts at KD
      rw [hD] at KD
      replace KD := Lib.hid KD
      go_wp2_with fail
      refine KD.out.mono ?_
      rintro e w2 ⟨rfl, hf2⟩
      by_cases hlt : lim < j
      · have t2 : (lim : Int) < (j : Int) := by omega
        rw [hr2 hlt]
        go_wp2
        go_ret
        exact ⟨rfl, hF.trans hf2⟩
      · have t2 : ¬ (lim : Int) < (j : Int) := by omega
        obtain ⟨ha, hb⟩ := hr3 hlt
        rw [show ans r = (r.1, 0) from by unfold ans; rw [ha]]
        have hne : ((⟨r.1.toArray⟩ : ByteArray) == ⟨#[]⟩) = false := ba_ne (fun e => by
          have h0 := congrArg ByteArray.size e
          rw [size_mk] at h0
          exact absurd h0 (by show ¬ r.1.length = 0; omega))
        go_wp2
        go_ret
        refine ⟨?_, hF.trans hf2⟩
        have key : ∀ b : Bool, b = true → Ending.returned (.bool b) = .returned (.bool true) := by rintro _ rfl; rfl
        refine key _ ?_
        cases hrr : r.1 with
        | nil => rw [hrr] at hb; simp at hb
        | cons x l => rfl
    · obtain ⟨g, rfl⟩ : ∃ g, gk = g + 1 := ⟨gk - 1, by omega⟩
      have t1 : (j : Int) < (n : Int) := by omega
      have hq : ¬ 9223372036854775807 < (headB 4 n 0).length + j + 1 := by omega
      go_wp2_with fail
      go_roundg g
      case measure => omega
      case rel => exact ⟨j + 1, by go_num, by omega, by rw [show (⟨#[1]⟩ : ByteArray) = ⟨[1].toArray⟩ from rfl, mk_append, List.append_assoc, ← List.replicate_succ'], rfl⟩
end
section
open Go.RowKit

theorem prsB_snoc : ∀ n i, prsB (n + 1) i = prsB n i ++ (headB 0 (i + n) 0 ++ [1])
  | 0, i => by simp [prsB]
  | n + 1, i => by
    rw [prsB, prsB_snoc n (i + 1), prsB, show i + 1 + n = i + (n + 1) from by omega]
    simp only [List.append_assoc]
theorem prsB_le : ∀ n i, (prsB n i).length ≤ 10 * n
  | 0, i => by simp [prsB]
  | n + 1, i => by
    have := prsB_le n (i + 1)
    have := headB_le 0 i 0
    simp [prsB]
    omega
theorem nestB_le (mp : Bool) : ∀ n, (nestB mp n).length ≤ 2 * n + 1
  | 0 => by simp [nestB]
  | n + 1 => by
    have := nestB_le mp n
    cases mp <;> simp [nestB] <;> omega
set_option maxRecDepth 100000 in
set_option maxHeartbeats 1600000 in
theorem law_limits3 (a b c : Int) (w : World) (lim n : Nat) (hlim : wrap64 (16 + wrap64 ((IntKind.u64.wrap a).tmod 45)) = (lim : Int)) (hn : wrap64 ((IntKind.u64.wrap b).tmod 80) = (n : Int)) (hc : wrap64 ((IntKind.u64.wrap c).tmod 4) = 3)
    (h1 : 16 ≤ lim) (h2 : lim ≤ 60) (hn2 : n < 80) (hu : U8 w) : Calls Tryz.prog 11 #[.int .i64 a, .int .i64 b, .int .i64 c] w fun e w' => e = .returned (.bool true) ∧ Fr [] w w' := by
  replace hu := Lib.hid hu
  have gu : ∀ n : Nat, n < 1000 → IntKind.u64.wrap (n : Int) = (n : Int) := fun n h => by show (n : Int) % 18446744073709551616 = _; omega
  have gun := gu n (by omega)
  have KH := Lib.hid (head 5 n (by omega) (by omega))
  go_enter Tryz.func11, Tryz.ntmps11
  go_wp2_with fail
  refine (KH.out _).mono ?_
  rintro e w1 ⟨rfl, hf⟩
  go_wp2_with fail
  have hhl := headB_le 5 n 0
  have hb1 := hf.blk (blk_new w _) (by simp)
  have hF1 : Fr [] w w1 := ((Fr.refl [] w).alloc _).trans hf
  replace hb1 := Lib.hid hb1
  clear hf
  go_loopg [8, 10, 35] n (fun k v8 v10 v35 wr => ∃ j : Nat, v35 = .int .i64 (j : Int) ∧ j + k = n ∧ v8 = .string ⟨(headB 5 n 0 ++ prsB j 0).toArray⟩ ∧ Fr [] w1 wr)
  case atStart => exact ⟨0, by go_num, by omega, by simp [prsB], Fr.refl _ _⟩
  case round =>
    obtain ⟨j, rfl, hj, rfl, hF2⟩ := hrel
    have hp := prsB_le j 0
    by_cases hk : gk = 0
    · subst hk
      obtain rfl : j = n := by omega
      have t1 : ¬ (j : Int) < (j : Int) := by omega
      have hb := hF2.blk hb1.out (by simp)
      have hF := hF1.trans hF2
      have c0 := cell_blk hb 0
      have c1 := cell_blk hb 1
      have c2 := cell_blk hb 2
      have c3 := cell_blk hb 3
      have c4 := cell_blk hb 4
      have c5 := cell_blk hb 5
      have c6 := cell_blk hb 6
      have c7 := cell_blk hb 7
      have c8 := cell_blk hb 8
      simp only [List.getElem?_toArray, List.getElem?_cons_zero, List.getElem?_cons_succ] at c0 c1 c2 c3 c4 c5 c6 c7 c8
      clear hb
      obtain ⟨r, hs, hr1, hr2, hr3⟩ := lim_says lim 3 j h1 h2 hn2 M0 false
      have hD : limData 3 j = headB 5 j 0 ++ prsB j 0 := rfl
      have KD := implDiag (M := M0) (.inr ⟨h1, h2, rfl⟩) (by decide) (by rw [hD]; rw [List.length_append]; omega) hs hr1 wr (hu.out.fr hF (by simp))
      unfold diagOpts at KD
      rw [hD] at KD
      replace KD := Lib.hid KD
      go_wp2_with fail
      refine KD.out.mono ?_
      rintro e w2 ⟨rfl, hf2⟩
      by_cases hlt : lim < j
      · have t2 : (lim : Int) < (j : Int) := by omega
        rw [hr2 hlt]
        go_wp2
        go_ret
        exact ⟨rfl, hF.trans hf2⟩
      · have t2 : ¬ (lim : Int) < (j : Int) := by omega
        obtain ⟨ha, hb⟩ := hr3 hlt
        rw [show ans r = (r.1, 0) from by unfold ans; rw [ha]]
        have hne : ((⟨r.1.toArray⟩ : ByteArray) == ⟨#[]⟩) = false := ba_ne (fun e => by
          have h0 := congrArg ByteArray.size e
          rw [size_mk] at h0
          exact absurd h0 (by show ¬ r.1.length = 0; omega))
        go_wp2
        go_ret
        refine ⟨?_, hF.trans hf2⟩
        have key : ∀ b : Bool, b = true → Ending.returned (.bool b) = .returned (.bool true) := by rintro _ rfl; rfl
        refine key _ ?_
        cases hrr : r.1 with
        | nil => rw [hrr] at hb; simp at hb
        | cons x l => rfl
    · obtain ⟨g, rfl⟩ : ∃ g, gk = g + 1 := ⟨gk - 1, by omega⟩
      have t1 : (j : Int) < (n : Int) := by omega
      have guj := gu j (by omega)
      have KJ := Lib.hid (head 0 j (by omega) (by omega))
      have hjl := headB_le 0 j 0
      go_wp2_with fail
      refine (KJ.out _).mono ?_
      rintro e w3 ⟨rfl, hf3⟩
      have hq1 : ¬ 9223372036854775807 < (headB 0 j 0).length + 1 := by omega
      have hq : ¬ 9223372036854775807 < (headB 5 n 0).length + (prsB j 0).length + ((headB 0 j 0).length + 1) := by omega
      go_wp2_with fail
      go_roundg g
      case measure => omega
      case rel => exact ⟨j + 1, by go_num, by omega, by rw [show (⟨#[1]⟩ : ByteArray) = ⟨[1].toArray⟩ from rfl, mk_append, mk_append, List.append_assoc, prsB_snoc, Nat.zero_add], hF2.trans hf3⟩
set_option maxRecDepth 100000 in
set_option maxHeartbeats 1600000 in
theorem law_limits0 (a b c : Int) (w : World) (lim n : Nat) (hlim : wrap64 (16 + wrap64 ((IntKind.u64.wrap a).tmod 45)) = (lim : Int)) (hn : wrap64 ((IntKind.u64.wrap b).tmod 80) = (n : Int)) (hc : wrap64 ((IntKind.u64.wrap c).tmod 4) = 0)
    (h1 : 16 ≤ lim) (h2 : lim ≤ 60) (hn2 : n < 80) (hu : U8 w) : Calls Tryz.prog 11 #[.int .i64 a, .int .i64 b, .int .i64 c] w fun e w' => e = .returned (.bool true) ∧ Fr [] w w' := by
  replace hu := Lib.hid hu
  obtain ⟨w1, hw1⟩ : ∃ w1, w1 = w.alloc (.cells #[.int .i64 0, .bool false, .bool false, .bool false, .bool false, .bool false, .int .i64 (lim : Int), .int .i64 (lim : Int), .int .i64 (lim : Int)] 24) := ⟨_, rfl⟩
  have hb1 : w1.heap[w.heap.size]? = some (.cells #[.int .i64 0, .bool false, .bool false, .bool false, .bool false, .bool false, .int .i64 (lim : Int), .int .i64 (lim : Int), .int .i64 (lim : Int)] 24 (0, 0)) := by rw [hw1]; exact blk_new w _
  have hF1 : Fr [] w w1 := by rw [hw1]; exact (Fr.refl [] w).alloc _
  replace hb1 := Lib.hid hb1
  replace hw1 := Lib.hid hw1
  go_enter Tryz.func11, Tryz.ntmps11
  go_wp2_with fail
  go_loopg [8, 49] n (fun k v8 v49 wr => ∃ j : Nat, v49 = .int .i64 (j : Int) ∧ j + k = n ∧ v8 = .string ⟨(nestB false j).toArray⟩ ∧ Fr [] w1 wr)
  case atStart => exact ⟨0, by go_num, by omega, rfl, by rw [hw1.out]; exact Fr.refl _ _⟩
  case round =>
    obtain ⟨j, rfl, hj, rfl, hF2⟩ := hrel
    by_cases hk : gk = 0
    · subst hk
      obtain rfl : j = n := by omega
      have t1 : ¬ (j : Int) < (j : Int) := by omega
      have hb := hF2.blk hb1.out (by simp)
      have hF := hF1.trans hF2
      have c0 := cell_blk hb 0
      have c1 := cell_blk hb 1
      have c2 := cell_blk hb 2
      have c3 := cell_blk hb 3
      have c4 := cell_blk hb 4
      have c5 := cell_blk hb 5
      have c6 := cell_blk hb 6
      have c7 := cell_blk hb 7
      have c8 := cell_blk hb 8
      simp only [List.getElem?_toArray, List.getElem?_cons_zero, List.getElem?_cons_succ] at c0 c1 c2 c3 c4 c5 c6 c7 c8
      clear hb
      obtain ⟨r, hs, hr1, hr2, hr3⟩ := lim_says lim 0 j h1 h2 hn2 M0 false
      have hD : limData 0 j = nestB false j := rfl
      have KD := implDiag (M := M0) (.inr ⟨h1, h2, rfl⟩) (by decide) (by rw [hD]; have := nestB_le false j; omega) hs hr1 wr (hu.out.fr hF (by simp))
      unfold diagOpts at KD
      rw [hD] at KD
      replace KD := Lib.hid KD
      go_wp2_with fail
      refine KD.out.mono ?_
      rintro e w2 ⟨rfl, hf2⟩
      by_cases hlt : lim < j
      · have t2 : (lim : Int) < (j : Int) := by omega
        rw [hr2 hlt]
        go_wp2
        go_ret
        exact ⟨rfl, hF.trans hf2⟩
      · have t2 : ¬ (lim : Int) < (j : Int) := by omega
        obtain ⟨ha, hb⟩ := hr3 hlt
        rw [show ans r = (r.1, 0) from by unfold ans; rw [ha]]
        have hne : ((⟨r.1.toArray⟩ : ByteArray) == ⟨#[]⟩) = false := ba_ne (fun e => by
          have h0 := congrArg ByteArray.size e
          rw [size_mk] at h0
          exact absurd h0 (by show ¬ r.1.length = 0; omega))
        go_wp2
        go_ret
        refine ⟨?_, hF.trans hf2⟩
        have key : ∀ b : Bool, b = true → Ending.returned (.bool b) = .returned (.bool true) := by rintro _ rfl; rfl
        refine key _ ?_
        cases hrr : r.1 with
        | nil => rw [hrr] at hb; simp at hb
        | cons x l => rfl
    · obtain ⟨g, rfl⟩ : ∃ g, gk = g + 1 := ⟨gk - 1, by omega⟩
      have t1 : (j : Int) < (n : Int) := by omega
      have hq1 := nestB_le false j
      have hq : ¬ 9223372036854775807 < 1 + (nestB false j).length := by omega
      go_wp2_with fail
      go_roundg g
      case measure => omega
      case rel => exact ⟨j + 1, by go_num, by omega, by rw [show (⟨#[129]⟩ : ByteArray) = ⟨[129].toArray⟩ from rfl, mk_append]; rfl, hF2.alloc _⟩
set_option maxRecDepth 100000 in
set_option maxHeartbeats 1600000 in
theorem law_limits1 (a b c : Int) (w : World) (lim n : Nat) (hlim : wrap64 (16 + wrap64 ((IntKind.u64.wrap a).tmod 45)) = (lim : Int)) (hn : wrap64 ((IntKind.u64.wrap b).tmod 80) = (n : Int)) (hc : wrap64 ((IntKind.u64.wrap c).tmod 4) = 1)
    (h1 : 16 ≤ lim) (h2 : lim ≤ 60) (hn2 : n < 80) (hu : U8 w) : Calls Tryz.prog 11 #[.int .i64 a, .int .i64 b, .int .i64 c] w fun e w' => e = .returned (.bool true) ∧ Fr [] w w' := by
  replace hu := Lib.hid hu
  obtain ⟨w1, hw1⟩ : ∃ w1, w1 = w.alloc (.cells #[.int .i64 0, .bool false, .bool false, .bool false, .bool false, .bool false, .int .i64 (lim : Int), .int .i64 (lim : Int), .int .i64 (lim : Int)] 24) := ⟨_, rfl⟩
  have hb1 : w1.heap[w.heap.size]? = some (.cells #[.int .i64 0, .bool false, .bool false, .bool false, .bool false, .bool false, .int .i64 (lim : Int), .int .i64 (lim : Int), .int .i64 (lim : Int)] 24 (0, 0)) := by rw [hw1]; exact blk_new w _
  have hF1 : Fr [] w w1 := by rw [hw1]; exact (Fr.refl [] w).alloc _
  replace hb1 := Lib.hid hb1
  replace hw1 := Lib.hid hw1
  go_enter Tryz.func11, Tryz.ntmps11
  go_wp2_with fail
  go_loopg [8, 49] n (fun k v8 v49 wr => ∃ j : Nat, v49 = .int .i64 (j : Int) ∧ j + k = n ∧ v8 = .string ⟨(nestB true j).toArray⟩ ∧ Fr [] w1 wr)
  case atStart => exact ⟨0, by go_num, by omega, rfl, by rw [hw1.out]; exact Fr.refl _ _⟩
  case round =>
    obtain ⟨j, rfl, hj, rfl, hF2⟩ := hrel
    by_cases hk : gk = 0
    · subst hk
      obtain rfl : j = n := by omega
      have t1 : ¬ (j : Int) < (j : Int) := by omega
      have hb := hF2.blk hb1.out (by simp)
      have hF := hF1.trans hF2
      have c0 := cell_blk hb 0
      have c1 := cell_blk hb 1
      have c2 := cell_blk hb 2
      have c3 := cell_blk hb 3
      have c4 := cell_blk hb 4
      have c5 := cell_blk hb 5
      have c6 := cell_blk hb 6
      have c7 := cell_blk hb 7
      have c8 := cell_blk hb 8
      simp only [List.getElem?_toArray, List.getElem?_cons_zero, List.getElem?_cons_succ] at c0 c1 c2 c3 c4 c5 c6 c7 c8
      clear hb
      obtain ⟨r, hs, hr1, hr2, hr3⟩ := lim_says lim 1 j h1 h2 hn2 M0 false
      have hD : limData 1 j = nestB true j := rfl
      have KD := implDiag (M := M0) (.inr ⟨h1, h2, rfl⟩) (by decide) (by rw [hD]; have := nestB_le true j; omega) hs hr1 wr (hu.out.fr hF (by simp))
      unfold diagOpts at KD
      rw [hD] at KD
      replace KD := Lib.hid KD
      go_wp2_with fail
      refine KD.out.mono ?_
      rintro e w2 ⟨rfl, hf2⟩
      by_cases hlt : lim < j
      · have t2 : (lim : Int) < (j : Int) := by omega
        rw [hr2 hlt]
        go_wp2
        go_ret
        exact ⟨rfl, hF.trans hf2⟩
      · have t2 : ¬ (lim : Int) < (j : Int) := by omega
        obtain ⟨ha, hb⟩ := hr3 hlt
        rw [show ans r = (r.1, 0) from by unfold ans; rw [ha]]
        have hne : ((⟨r.1.toArray⟩ : ByteArray) == ⟨#[]⟩) = false := ba_ne (fun e => by
          have h0 := congrArg ByteArray.size e
          rw [size_mk] at h0
          exact absurd h0 (by show ¬ r.1.length = 0; omega))
        go_wp2
        go_ret
        refine ⟨?_, hF.trans hf2⟩
        have key : ∀ b : Bool, b = true → Ending.returned (.bool b) = .returned (.bool true) := by rintro _ rfl; rfl
        refine key _ ?_
        cases hrr : r.1 with
        | nil => rw [hrr] at hb; simp at hb
        | cons x l => rfl
    · obtain ⟨g, rfl⟩ : ∃ g, gk = g + 1 := ⟨gk - 1, by omega⟩
      have t1 : (j : Int) < (n : Int) := by omega
      have hq1 := nestB_le true j
      have hq : ¬ 9223372036854775807 < 2 + (nestB true j).length := by omega
      go_wp2_with fail
      go_roundg g
      case measure => omega
      case rel => exact ⟨j + 1, by go_num, by omega, by rw [show (⟨#[161, 2]⟩ : ByteArray) = ⟨[161, 2].toArray⟩ from rfl, mk_append]; rfl, hF2.alloc _⟩
end
section
open Go.ChangeShapes Go.WideShapes Go.RowKit

theorem limits_any (a b c : Int) (w : World) (hu : U8 w) : Calls Tryz.prog 11 #[.int .i64 a, .int .i64 b, .int .i64 c] w fun e w' => e = .returned (.bool true) ∧ Fr [] w w' := by
  obtain ⟨l, hl, _, hl2⟩ := rem_nat a 45 (by decide) (by decide)
  obtain ⟨n, hn, _, hn2⟩ := rem_nat b 80 (by decide) (by decide)
  obtain ⟨k, hk, _, hk2⟩ := rem_nat c 4 (by decide) (by decide)
  have hlim : wrap64 (16 + wrap64 ((IntKind.u64.wrap a).tmod 45)) = ((16 + l : Nat) : Int) := by
    rw [show wrap64 ((IntKind.u64.wrap a).tmod 45) = (l : Int) from hl2]
    unfold wrap64
    omega
  have hk4 : k = 0 ∨ k = 1 ∨ k = 2 ∨ k = 3 := by omega
  rcases hk4 with rfl | rfl | rfl | rfl
  · exact law_limits0 a b c w (16 + l) n hlim hn2 hk2 (by omega) (by omega) hn hu
  · exact law_limits1 a b c w (16 + l) n hlim hn2 hk2 (by omega) (by omega) hn hu
  · exact law_limits2 a b c w (16 + l) n hlim hn2 hk2 (by omega) (by omega) hn hu
  · exact law_limits3 a b c w (16 + l) n hlim hn2 hk2 (by omega) (by omega) hn hu
set_option maxRecDepth 100000 in
theorem limits_lifted (os : Os) (started : os.Started) (H : Type) (enc : TypeId × Value → H) :
    ReturnsInHanded {} Tryz.checked os 11 .any (fun w args => (Rows.fnDiagLimitsSpec.pre enc Tryz.prog Tryz.f11 [] false w args ∧ laidMetH Tryz.prog laidU w) ∧ sizedMet enc Tryz.prog Tryz.f11 (OpenSpec.ofChange Rows.fnDiagLimitsSpec) false w args)
      (Rows.fnDiagLimitsSpec.post enc Tryz.prog Tryz.f11 false true false false) := by
  refine lift_row os started enc (by kernel_rfl) Tryz.func11 rfl rfl ?_ ?_
    (ChangeSpec.witness_at (enc := enc) (C := Tryz.checked) (os := os) (X := fun w _ => laidMetH Tryz.prog laidU w) false (laidWorld os) #[.int .i64 0, .int .i64 0, .int .i64 0] 8 rfl (by kernel_rfl) (by kernel_rfl) (by kernel_rfl) (by kernel_rfl) (by kernel_rfl) (laid_met os _)) ?_
  · intro ds h
    rw [Tryz.params11] at h
    match ds, h with
    | [d1, d2, d3], _ => rfl
  · rw [Tryz.params11]
    intro t ht
    have : t = 3 := by simpa using ht
    subst this
    exact ⟨by kernel_rfl, of_decide_eq_true (by kernel_rfl)⟩
  · intro W base args ds ps hval hA hu
    rw [Tryz.params11] at hA hval
    obtain ⟨v0, v1, v2, d0, d1, d2, p0, p1, p2, rfl, rfl, rfl, h0, h1, h2⟩ := trodAll_three hA
    obtain ⟨a, rfl, _⟩ := open_int Tryz.underlying3 (hval 0 3 v0 rfl rfl) h0
    obtain ⟨b, rfl, _⟩ := open_int Tryz.underlying3 (hval 1 3 v1 rfl rfl) h1
    obtain ⟨c, rfl, _⟩ := open_int Tryz.underlying3 (hval 2 3 v2 rfl rfl) h2
    exact limits_any a b c W hu
end
end Go.Proofs.YteodinhkhhaafaaGreatDoor
