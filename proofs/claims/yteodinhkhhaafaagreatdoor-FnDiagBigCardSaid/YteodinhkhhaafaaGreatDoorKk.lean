/- The walk of Options. -/
import Derived.Test.YteodinhkhhaafaaGreatDoorKj
set_option linter.unusedVariables false
set_option linter.unusedSimpArgs false
namespace Go.Proofs.YteodinhkhhaafaaGreatDoor
open Go.RowKit

theorem ba_self (b : ByteArray) : (b == b) = true := by
  show (b.data == b.data) = true
  exact beq_self_eq_true _
theorem optionsC (a x y z : Int) (sp tx em sq pr : Bool) (k : Nat) (hk : wrap64 ((IntKind.u64.wrap a).tmod 4) = (k : Int)) (w : World) :
    Calls Tryz.prog 22 #[.agg #[.int .i64 a, .bool sp, .bool tx, .bool em, .bool sq, .bool pr, .int .i64 x, .int .i64 y, .int .i64 z]] w fun e w' => e = .returned (diagOpts .i64 ⟨k, sp, tx, em, sq, pr⟩ 0) ∧ Fr [] w w' := by
  unfold diagOpts
  go_enter Tryz.func22, Tryz.ntmps22
  go_wp2
  exact bodyPost_ret (v := .agg #[.int .i64 (k : Int), .bool sp, .bool tx, .bool em, .bool sq, .bool pr, .int .i64 0, .int .i64 0, .int .i64 0]) (by simp [results, Tryz.results22, go_sem]) rfl ⟨rfl, ((Fr.refl [] w).alloc _).alloc _⟩
set_option maxRecDepth 100000 in
set_option maxHeartbeats 1600000 in
theorem bytes_any (xs : List UInt8) (a : Int) (w : World) (hu : U8 w) : Calls Tryz.prog 6 #[.string ⟨xs.toArray⟩, .int .i64 a] w fun e w' => e = .returned (.bool true) ∧ Fr [] w w' := by
  replace hu := Lib.hid hu
  by_cases h1 : 2147483647 < xs.length
  · have t1 : (2147483647 : Int) < (xs.length : Int) := by omega
    go_enter Tryz.func6, Tryz.ntmps6
    go_wp2
    go_ret
    exact ⟨rfl, Fr.refl _ _⟩
  · have t1 : ¬ (2147483647 : Int) < (xs.length : Int) := by omega
    by_cases h2 : 1000 < xs.length
    · have t2 : (1000 : Int) < (xs.length : Int) := by omega
      go_enter Tryz.func6, Tryz.ntmps6
      go_wp2
      go_ret
      exact ⟨rfl, Fr.refl _ _⟩
    · have t2 : ¬ (1000 : Int) < (xs.length : Int) := by omega
      obtain ⟨k, hk, _, hk2⟩ := rem_nat a 4 (by decide) (by decide)
      have KO := Lib.hid (fun w => optionsC a 0 0 0 false false false false false k hk2 w)
      have hs := says_bytes (L := ⟨32, 131072, 131072⟩) (M := ⟨k, false, false, false, false, false⟩) (sq := false) (by decide) hk rfl rfl xs (by omega)
      have hnl : (noteB k false xs).length ≤ 100000 := by
        have h5 := baseB_length 5 (by decide) b32D xs
        have h5' := baseB_length 5 (by decide) h32D xs
        have h6 := baseB_length 6 (by decide) b64D xs
        have h4 := hexB_length hexD xs
        unfold noteB
        split
        · simp; omega
        · split
          · simp; omega
          · split
            · simp; omega
            · simp; omega
      have hhl := headB_le 2 xs.length 0
      have KD := fun w (hu : U8 w) => implDiag (M := ⟨k, false, false, false, false, false⟩) (n := 0) (.inl ⟨rfl, rfl⟩) hk (by rw [List.length_append]; omega) hs (by unfold room txt; dsimp only; omega) w hu
      rw [show ans (txt (noteB k false xs)) = (noteB k false xs, 0) from rfl] at KD
      unfold diagOpts at KO KD
      have KH := Lib.hid (fun w => head 2 xs.length (by omega) (by omega) w)
      have KB := Lib.hid (fun w => byteString (w := w) (xs := xs) (by omega) k hk)
      have gu : IntKind.u64.wrap (xs.length : Int) = (xs.length : Int) := by show (xs.length : Int) % 18446744073709551616 = _; omega
      have hq : ¬ 9223372036854775807 < (headB 2 xs.length 0).length + xs.length := by omega
      replace KD := Lib.hid KD
      replace hs := Lib.hid hs
      clear h1 h2 hnl
      go_enter Tryz.func6, Tryz.ntmps6
      go_wp2_with fail
      refine (KO.out _).mono ?_
      rintro e w1 ⟨rfl, hf1⟩
      go_wp2
      have hF1 : Fr [] w (w1.alloc (.cells #[.int .i64 (k : Int), .bool false, .bool false, .bool false, .bool false, .bool false, .int .i64 0, .int .i64 0, .int .i64 0] 24)) := hf1.alloc _
      have hbo : (w1.alloc (.cells #[.int .i64 (k : Int), .bool false, .bool false, .bool false, .bool false, .bool false, .int .i64 0, .int .i64 0, .int .i64 0] 24)).heap[w1.heap.size]? = some (.cells #[.int .i64 (k : Int), .bool false, .bool false, .bool false, .bool false, .bool false, .int .i64 0, .int .i64 0, .int .i64 0] 24 (0, 0)) := blk_new w1 _
      generalize hw2 : w1.alloc (.cells #[.int .i64 (k : Int), .bool false, .bool false, .bool false, .bool false, .bool false, .int .i64 0, .int .i64 0, .int .i64 0] 24) = w2 at *
      replace hw2 := Lib.hid hw2
      have hu2 := Lib.hid (hu.out.fr hF1 (by simp))
      have KEEP : ∀ w', Fr [] w2 w' → w'.cell? ⟨w1.heap.size, 0, none⟩ = some (.int .i64 (k : Int)) ∧ w'.cell? ⟨w1.heap.size, 1, none⟩ = some (.bool false) ∧ w'.cell? ⟨w1.heap.size, 2, none⟩ = some (.bool false) ∧ w'.cell? ⟨w1.heap.size, 3, none⟩ = some (.bool false) ∧ w'.cell? ⟨w1.heap.size, 4, none⟩ = some (.bool false) ∧ w'.cell? ⟨w1.heap.size, 5, none⟩ = some (.bool false) ∧ w'.cell? ⟨w1.heap.size, 6, none⟩ = some (.int .i64 0) ∧ w'.cell? ⟨w1.heap.size, 7, none⟩ = some (.int .i64 0) ∧ w'.cell? ⟨w1.heap.size, 8, none⟩ = some (.int .i64 0) := fun w' hf => by
        have hb := hf.blk hbo (by simp)
        exact ⟨cell_blk hb 0, cell_blk hb 1, cell_blk hb 2, cell_blk hb 3, cell_blk hb 4, cell_blk hb 5, cell_blk hb 6, cell_blk hb 7, cell_blk hb 8⟩
      obtain ⟨o0, o1, o2, o3, o4, o5, o6, o7, o8⟩ := KEEP w2 (Fr.refl _ _)
      replace KEEP := Lib.hid KEEP
      replace hbo := Lib.hid hbo
      go_region_held3 (fun w' => w'.cell? ⟨w1.heap.size, 0, none⟩ = some (.int .i64 (k : Int)) ∧ w'.cell? ⟨w1.heap.size, 1, none⟩ = some (.bool false) ∧ w'.cell? ⟨w1.heap.size, 2, none⟩ = some (.bool false) ∧ w'.cell? ⟨w1.heap.size, 3, none⟩ = some (.bool false) ∧ w'.cell? ⟨w1.heap.size, 4, none⟩ = some (.bool false) ∧ w'.cell? ⟨w1.heap.size, 5, none⟩ = some (.bool false) ∧ w'.cell? ⟨w1.heap.size, 6, none⟩ = some (.int .i64 0) ∧ w'.cell? ⟨w1.heap.size, 7, none⟩ = some (.int .i64 0) ∧ w'.cell? ⟨w1.heap.size, 8, none⟩ = some (.int .i64 0)) (first | go_keep | exact KEEP.out _ hfA | exact KEEP.out _ hfB)
        (first | (go_at_call 25; refine (KH.out _).mono ?_; rintro e wA ⟨rfl, hfA0⟩; have hfA : Fr [] w2 wA := ((Fr.refl [] w2).drewN 1).trans hfA0) | (go_at_call 26; refine (KD.out _ (hu2.out.fr hfA (by simp))).mono ?_; rintro e wB ⟨rfl, hfB0⟩; have hfB := hfA.trans hfB0))
      obtain ⟨o0, o1, o2, o3, o4, o5, o6, o7, o8⟩ := KEEP.out wB hfB
      have hbb : ∀ b : ByteArray, (b == b) = true := ba_self
      go_wp2_with fail
      refine (KB.out _).mono ?_
      rintro e w5 ⟨rfl, hf5⟩
      go_wp2
      go_ret
      exact ⟨rfl, (hF1.trans hfB).trans hf5⟩
end Go.Proofs.YteodinhkhhaafaaGreatDoor
