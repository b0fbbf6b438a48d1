/- FnDiagSpaced, FnDiagBytes: what Diag says of a byte string; the walks of Hex, ByteString. -/
import Derived.Test.YteodinhkhhaafaaGreatDoorKh
import Derived.Test.YteodinhkhhaafaaGreatDoorKi
import Derived.Test.YteodinhkhhaafaaGreatDoorYg
set_option linter.unusedVariables false
set_option linter.unusedSimpArgs false
namespace Go.Proofs.YteodinhkhhaafaaGreatDoor
open Go.RowKit

theorem says_bytes {L : Lim} {M : Md} {sq : Bool} (hL : L.nest ≤ 65535 ∧ L.el ≤ 2147483647 ∧ L.pa ≤ 2147483647) (henc : M.enc < 4) (htx : M.tx = false) (hem : M.em = false) (b : List UInt8) (hb : b.length ≤ 1099511627776) :
    Says (headB 2 b.length 0 ++ b) L M sq (txt (noteB M.enc M.sp b)) := by
  have hE := EncAt.str (b := b) false 0 (by omega)
  have h := says_one (M := M) (sq := sq) (N := ⟨noteB M.enc M.sp, fun _ => ([], none), fun _ _ => [], fun _ _ => ([], none)⟩) hL hE.whole (by simp [Tr.fits]) (by simp [Tr.dp]) (fun X hx hl hm => by
    rw [LeafOK]
    intro off off' he
    rw [Enc] at he
    obtain ⟨ai, v, o, hh, h31, hvl, h63, rfl, hbb⟩ := he
    have hE2 : EncB X b (txt (noteB X.M.enc X.M.sp b)) := encB_falls hb (by rw [hm]; exact henc) (.inr (by rw [hm]; exact ⟨htx, hem⟩))
    rw [hm] at hE2
    rw [note]
    exact fun w bs hS hlen => di_bytes hS hh h31 hvl hbb hE2 hlen)
  exact h
theorem hexS {w : World} {xs : List UInt8} (hlen : xs.length ≤ 1099511627776) :
    Calls Tryz.prog 48 #[.string ⟨xs.toArray⟩] w fun e w' => e = .returned (.string ⟨(hexB hexD xs).toArray⟩) ∧ Fr [] w w' := by
  have K := Lib.hid (based (w := w) (n := 4) (ds := hexD) (xs := xs) (by decide) (by decide) (by decide) hlen)
  rw [← base4]
  clear hlen
  go_enter Tryz.func48, Tryz.ntmps48
  go_wp2_with fail
  refine K.out.mono ?_
  rintro e w1 ⟨rfl, hf⟩
  go_wp2
  go_ret
  exact ⟨rfl, hf⟩
set_option maxRecDepth 100000 in
theorem byteString_0 {w : World} {xs : List UInt8} (hlen : xs.length ≤ 1099511627776) :
    Calls Tryz.prog 37 #[.string ⟨xs.toArray⟩, .int .i64 0] w fun e w' => e = .returned (.string ⟨(noteB 0 false xs).toArray⟩) ∧ Fr [] w w' := by
  have K := Lib.hid (hexS (w := w) (xs := xs) hlen)
  have hl : (hexB hexD xs).length ≤ 8 * xs.length := by rw [hexB_length]; omega
  rw [noteB_0, ← List.append_assoc]
  generalize hexB hexD xs = m at *
  have hq1 : ¬ 9223372036854775807 < 2 + m.length := by omega
  have hq2 : ¬ 9223372036854775807 < 2 + m.length + 1 := by omega
  go_enter Tryz.func37, Tryz.ntmps37
  go_wp2_with fail
  refine K.out.mono ?_
  rintro e w1 ⟨rfl, hf⟩
  go_wp2
  go_ret
  exact ⟨by rw [show (⟨#[104, 39]⟩ : ByteArray) = ⟨([104, 39] : List UInt8).toArray⟩ from rfl, show (⟨#[39]⟩ : ByteArray) = ⟨([39] : List UInt8).toArray⟩ from rfl, mk_append, mk_append]; rfl, hf⟩
set_option maxRecDepth 100000 in
theorem byteString_1 {w : World} {xs : List UInt8} (hlen : xs.length ≤ 1099511627776) :
    Calls Tryz.prog 37 #[.string ⟨xs.toArray⟩, .int .i64 1] w fun e w' => e = .returned (.string ⟨(noteB 1 false xs).toArray⟩) ∧ Fr [] w w' := by
  have K := Lib.hid (based (w := w) (n := 5) (ds := b32D) (xs := xs) (by decide) (by decide) (by decide) hlen)
  have hl : (baseB 5 b32D xs).length ≤ 8 * xs.length := by exact baseB_length 5 (by decide) _ _
  rw [noteB_1, ← List.append_assoc]
  generalize baseB 5 b32D xs = m at *
  have hq1 : ¬ 9223372036854775807 < 4 + m.length := by omega
  have hq2 : ¬ 9223372036854775807 < 4 + m.length + 1 := by omega
  go_enter Tryz.func37, Tryz.ntmps37
  go_wp2_with fail
  refine K.out.mono ?_
  rintro e w1 ⟨rfl, hf⟩
  go_wp2
  go_ret
  exact ⟨by rw [show (⟨#[98, 51, 50, 39]⟩ : ByteArray) = ⟨([98, 51, 50, 39] : List UInt8).toArray⟩ from rfl, show (⟨#[39]⟩ : ByteArray) = ⟨([39] : List UInt8).toArray⟩ from rfl, mk_append, mk_append]; rfl, hf⟩
set_option maxRecDepth 100000 in
theorem byteString_2 {w : World} {xs : List UInt8} (hlen : xs.length ≤ 1099511627776) :
    Calls Tryz.prog 37 #[.string ⟨xs.toArray⟩, .int .i64 2] w fun e w' => e = .returned (.string ⟨(noteB 2 false xs).toArray⟩) ∧ Fr [] w w' := by
  have K := Lib.hid (based (w := w) (n := 5) (ds := h32D) (xs := xs) (by decide) (by decide) (by decide) hlen)
  have hl : (baseB 5 h32D xs).length ≤ 8 * xs.length := by exact baseB_length 5 (by decide) _ _
  rw [noteB_2, ← List.append_assoc]
  generalize baseB 5 h32D xs = m at *
  have hq1 : ¬ 9223372036854775807 < 4 + m.length := by omega
  have hq2 : ¬ 9223372036854775807 < 4 + m.length + 1 := by omega
  go_enter Tryz.func37, Tryz.ntmps37
  go_wp2_with fail
  refine K.out.mono ?_
  rintro e w1 ⟨rfl, hf⟩
  go_wp2
  go_ret
  exact ⟨by rw [show (⟨#[104, 51, 50, 39]⟩ : ByteArray) = ⟨([104, 51, 50, 39] : List UInt8).toArray⟩ from rfl, show (⟨#[39]⟩ : ByteArray) = ⟨([39] : List UInt8).toArray⟩ from rfl, mk_append, mk_append]; rfl, hf⟩
set_option maxRecDepth 100000 in
theorem byteString_3 {w : World} {xs : List UInt8} (hlen : xs.length ≤ 1099511627776) :
    Calls Tryz.prog 37 #[.string ⟨xs.toArray⟩, .int .i64 3] w fun e w' => e = .returned (.string ⟨(noteB 3 false xs).toArray⟩) ∧ Fr [] w w' := by
  have K := Lib.hid (based (w := w) (n := 6) (ds := b64D) (xs := xs) (by decide) (by decide) (by decide) hlen)
  have hl : (baseB 6 b64D xs).length ≤ 8 * xs.length := by exact baseB_length 6 (by decide) _ _
  rw [noteB_3, ← List.append_assoc]
  generalize baseB 6 b64D xs = m at *
  have hq1 : ¬ 9223372036854775807 < 4 + m.length := by omega
  have hq2 : ¬ 9223372036854775807 < 4 + m.length + 1 := by omega
  go_enter Tryz.func37, Tryz.ntmps37
  go_wp2_with fail
  refine K.out.mono ?_
  rintro e w1 ⟨rfl, hf⟩
  go_wp2
  go_ret
  exact ⟨by rw [show (⟨#[98, 54, 52, 39]⟩ : ByteArray) = ⟨([98, 54, 52, 39] : List UInt8).toArray⟩ from rfl, show (⟨#[39]⟩ : ByteArray) = ⟨([39] : List UInt8).toArray⟩ from rfl, mk_append, mk_append]; rfl, hf⟩
theorem byteString {w : World} {xs : List UInt8} (hlen : xs.length ≤ 1099511627776) (enc : Nat) (h4 : enc < 4) :
    Calls Tryz.prog 37 #[.string ⟨xs.toArray⟩, .int .i64 (enc : Int)] w fun e w' => e = .returned (.string ⟨(noteB enc false xs).toArray⟩) ∧ Fr [] w w' := by
  have h : enc = 0 ∨ enc = 1 ∨ enc = 2 ∨ enc = 3 := by omega
  rcases h with rfl | rfl | rfl | rfl
  · exact byteString_0 hlen
  · exact byteString_1 hlen
  · exact byteString_2 hlen
  · exact byteString_3 hlen
end Go.Proofs.YteodinhkhhaafaaGreatDoor
