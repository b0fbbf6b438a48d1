/- The walks of the reference: bytes in a base. -/
import Derived.Test.YteodinhkhhaafaaGreatDoorKf
set_option linter.unusedVariables false
set_option linter.unusedSimpArgs false
namespace Go.Proofs.YteodinhkhhaafaaGreatDoor
open Go.RowKit

theorem wrapI_lt (x : Nat) (h : x < 9223372036854775808) : IntKind.i64.wrap (x : Int) = (x : Int) := IntWalk.i64_in _ (by omega)
theorem ofInt_i64 (a : Nat) (ha : a < 9223372036854775808) : (BitVec.ofInt 64 (a : Int)).toNat = a := by
  rw [BitVec.ofInt_natCast, BitVec.toNat_ofNat]; exact Nat.mod_eq_of_lt (by omega)
theorem i64_and_nat (a b : Nat) (ha : a < 9223372036854775808) (hb : b < 9223372036854775808) : bits .and .i64 (a : Int) (b : Int) = ((a &&& b : Nat) : Int) := by
  have hx : a &&& b < 2 ^ 63 := Nat.and_lt_two_pow _ (by omega)
  show IntKind.i64.wrap ((BitVec.ofInt 64 (a : Int) &&& BitVec.ofInt 64 (b : Int)).toNat : Int) = _
  rw [BitVec.toNat_and, ofInt_i64 a ha, ofInt_i64 b hb]
  exact wrapI_lt _ (by omega)
theorem i64_or_nat (a b : Nat) (ha : a < 9223372036854775808) (hb : b < 9223372036854775808) : bits .or .i64 (a : Int) (b : Int) = ((a ||| b : Nat) : Int) := by
  have hx : a ||| b < 2 ^ 63 := Nat.or_lt_two_pow (by omega) (by omega)
  show IntKind.i64.wrap ((BitVec.ofInt 64 (a : Int) ||| BitVec.ofInt 64 (b : Int)).toNat : Int) = _
  rw [BitVec.toNat_or, ofInt_i64 a ha, ofInt_i64 b hb]
  exact wrapI_lt _ (by omega)
theorem ori_acc (A x : Nat) (hA : A < 128) (hx : x < 256) : bits .or .i64 ((A : Int) * 256) (x : Int) = ((A * 256 + x : Nat) : Int) := by
  rw [show (A : Int) * 256 = ((A * 256 : Nat) : Int) by omega, i64_or_nat _ _ (by omega) (by omega), nat_join 8 _ _ (by omega) (by omega)]
theorem mask_i (n : Nat) (h : n ≤ 16) : IntKind.i64.wrap (IntKind.i64.wrap (2 ^ n) - 1) = ((2 ^ n - 1 : Nat) : Int) := by
  have hp := Nat.pow_le_pow_right (n := 2) (by omega) h
  have h1 : 1 ≤ 2 ^ n := Nat.pow_pos (by omega)
  rw [pow_int, wrapI_lt _ (by omega), show ((2 ^ n : Nat) : Int) - 1 = ((2 ^ n - 1 : Nat) : Int) by omega, wrapI_lt _ (by omega)]
theorem andi_mask (A n : Nat) (hA : A < 9223372036854775808) (h : n ≤ 16) : bits .and .i64 (A : Int) (IntKind.i64.wrap (IntKind.i64.wrap (2 ^ n) - 1)) = ((A % 2 ^ n : Nat) : Int) := by
  have hp := Nat.pow_le_pow_right (n := 2) (by omega) h
  rw [mask_i n h, i64_and_nat _ _ hA (by omega), Nat.and_two_pow_sub_one_eq_mod]
theorem wrap_eq (x : Int) : IntKind.i64.wrap x = wrap64 x := by rw [IntKind.wrap_i64, wrap64]
theorem mod_div (B k n : Nat) (h : n ≤ k) : B % 2 ^ k / 2 ^ (k - n) = B / 2 ^ (k - n) % 2 ^ n := by
  rw [show 2 ^ k = 2 ^ (k - n) * 2 ^ n from by rw [← Nat.pow_add]; congr 1; omega, Nat.mod_mul_right_div_self]
theorem mod_mod_le (B k m : Nat) (h : m ≤ k) : B % 2 ^ k % 2 ^ m = B % 2 ^ m := Nat.mod_mod_of_dvd _ (Nat.pow_dvd_pow 2 h)
/-- string(out), nil or not. -/
theorem rowStr {w : World} {B : Nat} {v : Value} {bs : List UInt8} (h : Row w B v bs) : (convert 59 9 v).run Tryz.prog w = .ok (.string ⟨bs.toArray⟩) w := by
  rcases h.2 with ⟨rfl, hn⟩ | ⟨g, cap, cur, rfl, hg, hh, hr3⟩
  · have hbs : bs = [] := List.eq_nil_of_length_eq_zero hn
    subst hbs
    exact Lib.run_convert_nil_bytes w 59 9 5 0 Tryz.underlying59 Tryz.underlying5 Tryz.underlying9
  · exact toStr (Rd.of_own h) cap
set_option maxRecDepth 100000 in
set_option maxHeartbeats 3200000 in
theorem based {w : World} {n : Nat} {xs ds : List UInt8} (h0 : 0 < n) (h8 : n ≤ 8) (hds : ds.length = 2 ^ n) (hlen : xs.length ≤ 1099511627776) :
    Calls Tryz.prog 71 #[.string ⟨xs.toArray⟩, .int .i64 (n : Int), .string ⟨ds.toArray⟩] w fun e w' => e = .returned (.string ⟨(baseB n ds xs).toArray⟩) ∧ Fr [] w w' := by
  replace hds := Lib.hid hds
  go_enter Tryz.func71, Tryz.ntmps71
  go_wp2
  go_loopg [7, 8, 9, 10] xs.length (fun k v7 v8 v9 v10 wr => ∃ (j A h : Nat) (out : List Nat), v10 = .int .i64 (j : Int) ∧ j + k = xs.length ∧ v8 = .int .i64 (A : Int) ∧ v9 = .int .i64 (h : Int) ∧ A < 2 ^ h ∧ h < n ∧ Hid (out ++ bdg n (xs.drop j) A h = bdg n xs 0 0) ∧ Row wr w.heap.size v7 (out.map (ltr ds)) ∧ Fr [] w wr)
  case atStart => exact ⟨0, 0, 0, [], by go_num, by omega, by go_num, by go_num, by omega, h0, Lib.hid (by simp), Row.nil _ _, Fr.refl _ _⟩
  case round =>
    obtain ⟨j, A, h, out, rfl, hj, rfl, rfl, hA, hh, heq, hrow, hF⟩ := hrel
    by_cases hk : gk = 0
    · subst hk
      obtain rfl : j = xs.length := by omega
      rw [List.drop_of_length_le (Nat.le_refl _), bdg] at heq
      have t1 : ¬ (xs.length : Int) < (xs.length : Int) := by omega
      by_cases hz : 0 < h
      · rw [if_pos hz] at heq
        have t2 : (0 : Int) < (h : Int) := by omega
        have hfin := heq.out
        have hol := congrArg List.length hfin
        rw [List.length_append, List.length_singleton] at hol
        have hbl := bdg_length n h0 xs 0 0 h0
        have hpw : A * 2 ^ (n - h) < 2 ^ n := by
          have h1 : A * 2 ^ (n - h) < 2 ^ h * 2 ^ (n - h) := Nat.mul_lt_mul_of_pos_right hA (Nat.pow_pos (by omega))
          rwa [← Nat.pow_add, show h + (n - h) = n by omega] at h1
        have hp8 := Nat.pow_le_pow_right (n := 2) (by omega) h8
        have gsl : IntKind.i64.wrap ((A : Int) * 2 ^ (n - h)) = ((A * 2 ^ (n - h) : Nat) : Int) := by
          rw [pow_int, ← Int.natCast_mul]
          exact wrapI_lt _ (by omega)
        rw [← hds.out] at hpw
        have hlo : (out.map (ltr ds)).length + [ltr ds (A * 2 ^ (n - h))].length ≤ 140737488355328 := by simp; omega
        have hrow2 : baseB n ds xs = (out.map (ltr ds)) ++ [ltr ds (A * 2 ^ (n - h))] := by
          unfold baseB
          rw [← hfin, List.map_append]
          rfl
        have hBs := hF.size
        generalize A * 2 ^ (n - h) = z at *
        have hba := ba_getD ds z hpw
        replace hba := Lib.hid hba
        replace hrow2 := Lib.hid hrow2
        replace heq := Lib.hid heq
        replace hfin := Lib.hid hfin
        clear hol hbl hp8
        obtain ⟨ao, n0, c0, rfl⟩ := hrow.shape
        go_wp2_with (at_builtin; refine wpList_apRow rfl _ _ rfl (B := w.heap.size) _ (out.map (ltr ds)) [ltr ds z] wr.heap.size 0 1 rfl rfl (rd_new (w := wr) rfl (by simp only [enc, List.map_cons, List.map_nil]; rw [← hba.out])) (hrow.push rfl) (by simp; omega) hlo ?_)
        intro v' w' hr' hg
        have hF2 : Fr [] w w' := by
          refine Fr.grown ?_ hg (fun k hk => .inr (World.ownsRow.lt hrow k hk).1)
          exact hF.push rfl rfl rfl rfl
        rw [← hrow2.out] at hr'
        have hst := rowStr hr'
        go_wp2
        go_ret
        exact ⟨rfl, hF2⟩
      · rw [if_neg hz, List.append_nil] at heq
        have t2 : ¬ (0 : Int) < (h : Int) := by omega
        have hrow2 : baseB n ds xs = out.map (ltr ds) := by unfold baseB; rw [← heq.out]
        rw [← hrow2] at hrow
        clear hrow2
        have hst := rowStr hrow
        go_wp2
        go_ret
        exact ⟨rfl, hF⟩
    · obtain ⟨ao, n0, c0, rfl⟩ := hrow.shape
      obtain ⟨g, rfl⟩ : ∃ g, gk = g + 1 := ⟨gk - 1, by omega⟩
      have hjl : j < xs.length := by omega
      have t1 : (j : Int) < (xs.length : Int) := by omega
      have hE := heq.out
      rw [bdg_step n xs j A h hjl] at hE
      clear heq
      have hxb : ((⟨xs.toArray⟩ : ByteArray)[j]'(by show j < xs.toArray.size; simpa using hjl)) = xs[j] := rfl
      generalize hxe : xs[j] = x at hE hxb
      have hb := x.toNat_lt
      have hp8 := Nat.pow_le_pow_right (n := 2) (by omega) (show h ≤ 7 by omega)
      have hA8 : A < 128 := by omega
      have gor := ori_acc A x.toNat hA8 hb
      have hBm : (A * 256 + x.toNat) % 2 ^ (h + 8) = A * 256 + x.toNat := Nat.mod_eq_of_lt (by rw [Nat.pow_add]; have : 2 ^ 8 = 256 := rfl; omega)
      generalize hBB : A * 256 + x.toNat = BB at *
      have hB2 : BB < 32768 := by omega
      replace hBB := Lib.hid hBB
      replace hBm := Lib.hid hBm
      replace hxe := Lib.hid hxe
      have hmn := Nat.mod_lt (h + 8) h0
      have hol : Hid (out.length + (dgs n BB (h + 8)).length ≤ 8 * xs.length) := by
        have := congrArg List.length hE
        rw [List.length_append, List.length_append] at this
        have hbl := bdg_length n h0 xs 0 0 h0
        exact Lib.hid (by omega)
      replace hE := Lib.hid hE
      go_wp2
      go_loopg [7, 8, 9] (h + 8) (fun k v7 v8 v9 wr => ∃ (x : Nat) (out' : List Nat), v9 = .int .i64 (k : Int) ∧ v8 = .int .i64 (x : Int) ∧ Hid (x = BB % 2 ^ k) ∧ k < 16 ∧ Hid (k % n = (h + 8) % n) ∧ Hid (out' ++ dgs n BB k = out ++ dgs n BB (h + 8)) ∧ Row wr w.heap.size v7 (out'.map (ltr ds)) ∧ Fr [] w wr)
      case atStart => exact ⟨BB, out, by go_num, rfl, Lib.hid hBm.out.symm, by omega, rfl, rfl, hrow, hF⟩
      case round =>
        obtain ⟨x2, out', rfl, rfl, hx2, hk16, hmod, heq', hrow', hF'⟩ := hrel
        obtain ⟨ao', n0', c0', rfl⟩ := hrow'.shape
        by_cases hkn : gk < n
        · have t2 : ¬ (n : Int) ≤ (gk : Int) := by omega
          have hk2 : gk = (h + 8) % n := by rw [← hmod.out, Nat.mod_eq_of_lt hkn]
          have hE2 := hE.out
          rw [← hk2, ← hx2.out] at hE2
          have he2 := heq'.out
          rw [dgs_no hkn, List.append_nil] at he2
          rw [← List.append_assoc, ← he2] at hE2
          have hAl : x2 < 2 ^ gk := by rw [hx2.out]; exact Nat.mod_lt _ (Nat.pow_pos (by omega))
          replace hE2 := Lib.hid hE2
          replace hk2 := Lib.hid hk2
          clear he2
          go_wp2
          go_roundg g
          case measure => omega
          case rel => exact ⟨j + 1, x2, gk, out', by go_num, by omega, rfl, rfl, hAl, hkn, hE2, hrow', hF'⟩
        · have t2 : (n : Int) ≤ (gk : Int) := by omega
          have hx3 : x2 ≤ BB := by rw [hx2.out]; exact Nat.mod_le _ _
          have gsh : (x2 : Int) / 2 ^ (gk - n) = ((x2 / 2 ^ (gk - n) : Nat) : Int) := by rw [pow_int]; omega
          have hxd : x2 / 2 ^ (gk - n) = BB / 2 ^ (gk - n) % 2 ^ n := by rw [hx2.out]; exact mod_div BB gk n (by omega)
          have gma := andi_mask x2 (gk - n) (by omega) (by omega)
          have hxm : x2 % 2 ^ (gk - n) = BB % 2 ^ (gk - n) := by rw [hx2.out]; exact mod_mod_le BB gk (gk - n) (by omega)
          have hml := Nat.mod_lt (BB / 2 ^ (gk - n)) (show 0 < 2 ^ n from Nat.pow_pos (by omega))
          rw [← hxd, ← hds.out] at hml
          have he2 := heq'.out
          rw [dgs_yes h0 (by omega), ← hxd] at he2
          have hol2 := congrArg List.length he2
          rw [List.length_append, List.length_append, List.length_cons] at hol2
          have := hol.out
          have hms : (gk - n) % n = (h + 8) % n := by rw [← hmod.out, Nat.mod_eq_sub_mod (show n ≤ gk by omega)]
          generalize hz : x2 / 2 ^ (gk - n) = z at *
          generalize hz2 : x2 % 2 ^ (gk - n) = z2 at *
          rw [show out' ++ z :: dgs n BB (gk - n) = (out' ++ [z]) ++ dgs n BB (gk - n) by simp] at he2
          have hlo : (out'.map (ltr ds)).length + [ltr ds z].length ≤ 140737488355328 := by simp; omega
          have hBs := hF'.size
          have hba := ba_getD ds z hml
          have g9 : (gk : Int) - (n : Int) = ((gk - n : Nat) : Int) := by omega
          replace hba := Lib.hid hba
          replace hz := Lib.hid hz
          replace hz2 := Lib.hid hz2
          replace he2 := Lib.hid he2
          replace hms := Lib.hid hms
          replace hxm := Lib.hid hxm
          replace g9 := Lib.hid g9
          clear hol2 this hxd hx3
          go_wp2_with (at_builtin; refine wpList_apRow rfl _ _ rfl (B := w.heap.size) _ (out'.map (ltr ds)) [ltr ds z] wr.heap.size 0 1 rfl rfl (rd_new (w := wr) rfl (by simp only [enc, List.map_cons, List.map_nil]; rw [← hba.out])) (hrow'.push rfl) (by simp; omega) hlo ?_)
          intro v' w' hr' hg
          have hF2 : Fr [] w w' := by
            refine Fr.grown ?_ hg (fun k hk => .inr (World.ownsRow.lt hrow' k hk).1)
            exact hF'.push rfl rfl rfl rfl
          go_wp2
          go_roundg (gk - n)
          case measure => omega
          case rel => exact ⟨z2, out' ++ [z], by congr 1, by congr 1; rw [wrap_eq, wrap_eq] at gma; exact gma, Lib.hid hxm.out, by omega, hms, he2, by rw [List.map_append]; exact hr', hF2⟩
end Go.Proofs.YteodinhkhhaafaaGreatDoor
