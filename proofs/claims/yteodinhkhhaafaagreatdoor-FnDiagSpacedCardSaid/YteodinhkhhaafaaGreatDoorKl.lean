/- The walk of FnDiagSpaced. -/
import Derived.Test.YteodinhkhhaafaaGreatDoorKk
set_option linter.unusedVariables false
set_option linter.unusedSimpArgs false
namespace Go.Proofs.YteodinhkhhaafaaGreatDoor
open Go.RowKit

theorem ext_one (xs : List UInt8) (j : Nat) (h : j < xs.length) : (⟨xs.toArray⟩ : ByteArray).extract j (j + 1) = ⟨[xs[j]].toArray⟩ := by
  apply ByteArray.ext
  rw [ByteArray.data_extract]
  apply Array.ext'
  simp [List.extract_eq_take_drop, List.take_one, h]
set_option maxRecDepth 100000 in
set_option maxHeartbeats 1600000 in
theorem spaced_any (xs : List UInt8) (w : World) (hu : U8 w) : Calls Tryz.prog 15 #[.string ⟨xs.toArray⟩] w fun e w' => e = .returned (.bool true) ∧ Fr [] w w' := by
  replace hu := Lib.hid hu
  by_cases h1 : 2147483647 < xs.length
  · have t1 : (2147483647 : Int) < (xs.length : Int) := by omega
    go_enter Tryz.func15, Tryz.ntmps15
    go_wp2
    go_ret
    exact ⟨rfl, Fr.refl _ _⟩
  · have t1 : ¬ (2147483647 : Int) < (xs.length : Int) := by omega
    by_cases h2 : 1000 < xs.length
    · have t2 : (1000 : Int) < (xs.length : Int) := by omega
      go_enter Tryz.func15, Tryz.ntmps15
      go_wp2
      go_ret
      exact ⟨rfl, Fr.refl _ _⟩
    · have t2 : ¬ (1000 : Int) < (xs.length : Int) := by omega
      have hs := says_bytes (L := ⟨32, 131072, 131072⟩) (M := ⟨0, true, false, false, false, false⟩) (sq := false) (by decide) (by decide) rfl rfl xs (by omega)
      have hsl := spaced_length hexD xs 0
      have hn := noteB_s xs
      have hnl : (noteB 0 true xs).length ≤ 100000 := by
        rw [hn]; simp; omega
      have hhl := headB_le 2 xs.length 0
      have KD := fun w (hu : U8 w) => implDiag (M := ⟨0, true, false, false, false, false⟩) (n := 0) (.inl ⟨rfl, rfl⟩) (by decide) (by rw [List.length_append]; omega) hs (by unfold room txt; dsimp only; omega) w hu
      rw [show ans (txt (noteB 0 true xs)) = (noteB 0 true xs, 0) from rfl] at KD
      unfold diagOpts at KD
      have KH := Lib.hid (fun w => head 2 xs.length (by omega) (by omega) w)
      have gu : IntKind.u64.wrap (xs.length : Int) = (xs.length : Int) := by show (xs.length : Int) % 18446744073709551616 = _; omega
      have hq : ¬ 9223372036854775807 < (headB 2 xs.length 0).length + xs.length := by omega
      replace KD := Lib.hid KD
      replace hs := Lib.hid hs
      replace hn := Lib.hid hn
      clear h1 h2 hnl
      go_enter Tryz.func15, Tryz.ntmps15
      go_wp2_with fail
      refine (KH.out _).mono ?_
      rintro e w1 ⟨rfl, hf1⟩
      have KD1 := Lib.hid (KD.out w1 (hu.out.fr hf1 (by simp)))
      go_wp2_with fail
      refine KD1.out.mono ?_
      rintro e w2 ⟨rfl, hf2⟩
      have hF := hf1.trans hf2
      go_wp2
      go_loopg [5, 6] xs.length (fun k v5 v6 wr => ∃ j : Nat, v6 = .int .i64 (j : Int) ∧ j + k = xs.length ∧ v5 = .string ⟨(spacedB hexD 0 (xs.take j)).toArray⟩ ∧ Fr [] w2 wr)
      case atStart => exact ⟨0, by go_num, by omega, rfl, Fr.refl _ _⟩
      case round =>
        obtain ⟨j, rfl, hj, rfl, hFr⟩ := hrel
        by_cases hk : gk = 0
        · subst hk
          obtain rfl : j = xs.length := by omega
          rw [List.take_of_length_le (Nat.le_refl _)]
          have t3 : ¬ (xs.length : Int) < (xs.length : Int) := by omega
          have hq1 : ¬ 9223372036854775807 < 2 + (spacedB hexD 0 xs).length := by omega
          have hq2 : ¬ 9223372036854775807 < 2 + (spacedB hexD 0 xs).length + 1 := by omega
          have hcmp : (noteB 0 true xs == (({ data := #[104, 39] } : ByteArray) ++ { data := (spacedB hexD 0 xs).toArray } ++ { data := #[39] }).toList) = true := by
            rw [beq_iff_eq, hn.out, Lib.toList_data]
            simp
          go_wp2
          go_ret
          exact ⟨rfl, hF.trans hFr⟩
        · obtain ⟨g, rfl⟩ : ∃ g, gk = g + 1 := ⟨gk - 1, by omega⟩
          have hjl : j < xs.length := by omega
          have t3 : (j : Int) < (xs.length : Int) := by omega
          have hsj := spaced_length hexD (xs.take j) 0
          rw [List.length_take, Nat.min_eq_left (by omega)] at hsj
          have hsn := spaced_snoc hexD xs[j] (xs.take j) 0
          rw [← List.take_succ_eq_append_getElem hjl, Nat.zero_add, List.length_take, Nat.min_eq_left (by omega)] at hsn
          have KX : ∀ w, Calls Tryz.prog 48 #[.string ((⟨xs.toArray⟩ : ByteArray).extract j (j + 1))] w fun e w' => e = .returned (.string ⟨(hexB hexD [xs[j]]).toArray⟩) ∧ Fr [] w w' := fun w => by
            rw [ext_one xs j hjl]
            exact hexS (by simp)
          have hhl2 : (hexB hexD [xs[j]]).length = 2 := by rw [hexB_length]; rfl
          generalize hexB hexD [xs[j]] = hx at *
          replace KX := Lib.hid KX
          replace hsn := Lib.hid hsn
          by_cases hj0 : j = 0
          · subst hj0
            have t4 : ¬ (0 : Int) < ((0 : Nat) : Int) := by simp
            have hq4 : ¬ 9223372036854775807 < (spacedB hexD 0 (xs.take 0)).length + hx.length := by omega
            go_wp2_with fail
            refine (KX.out _).mono ?_
            rintro e w5 ⟨rfl, hf5⟩
            go_wp2
            go_roundg g
            case measure => omega
            case rel => exact ⟨0 + 1, by go_num, by omega, by rw [hsn.out, if_pos trivial, List.nil_append]; rfl, hFr.trans hf5⟩
          · have t4 : (0 : Int) < (j : Int) := by omega
            have hq3 : ¬ 9223372036854775807 < (spacedB hexD 0 (xs.take j)).length + 1 := by omega
            have hq4 : ¬ 9223372036854775807 < (spacedB hexD 0 (xs.take j)).length + 1 + hx.length := by omega
            rw [if_neg hj0] at hsn
            go_wp2_with fail
            refine (KX.out _).mono ?_
            rintro e w5 ⟨rfl, hf5⟩
            go_wp2
            go_roundg g
            case measure => omega
            case rel => exact ⟨j + 1, by go_num, by omega, by rw [hsn.out, show (⟨#[32]⟩ : ByteArray) = ⟨([32] : List UInt8).toArray⟩ from rfl, mk_append, mk_append, List.append_assoc], hFr.trans hf5⟩
end Go.Proofs.YteodinhkhhaafaaGreatDoor
