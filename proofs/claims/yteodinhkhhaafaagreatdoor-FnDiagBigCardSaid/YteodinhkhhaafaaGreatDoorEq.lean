/- '==' between errors. -/
import Derived.Test.YteodinhkhhaafaaGreatDoorWf
import Derived.LaidEql
import Derived.Stop.Asserts
namespace Go.Proofs.YteodinhkhhaafaaGreatDoor
open Go.RowKit
theorem info141 : ∃ i, Tryz.prog.info? 141 = some i ∧ i.comparable = true := by
  have h : (Tryz.prog.info? 141).map (·.comparable) = some true := by kernel_rfl
  obtain ⟨i, h1, h2⟩ := Option.map_eq_some_iff.1 h
  exact ⟨i, h1, h2⟩
theorem ba_ne {s t : ByteArray} (h : ¬ s = t) : (s == t) = false := by
  cases hb : (s == t)
  · rfl
  · exfalso
    apply h
    have : s.data = t.data := by
      have h2 : (s.data == t.data) = true := hb
      simpa using h2
    cases s; cases t; simp_all
theorem eqIn_str (w : World) (d : Nat) (s t : ByteArray) : (Op.equalIn (d + 2) 97 (.iface 141 (.string s)) (.iface 141 (.string t))).run Tryz.prog w = .ok (s == t) w := by
  obtain ⟨i, h1, h2⟩ := info141
  simp [Op.equalIn, run_underlying Tryz.underlying97, run_underlying Tryz.underlying141, typeInfo, h1, h2]
theorem eq_str (w : World) (s t : ByteArray) : (binOp .eql 97 (.iface 141 (.string s)) (.iface 141 (.string t))).run Tryz.prog w = .ok (.bool (s == t)) w := by
  simp only [binOp]
  simp [Op.equal, Op.maxDepth, eqIn_str w 9998 s t]
theorem eq_eof (w : World) : (binOp .eql 97 (.iface 141 (.string ⟨#[69, 79, 70]⟩)) (.iface 141 (.string ⟨#[69, 79, 70]⟩))).run Tryz.prog w = .ok (.bool true) w := by
  rw [eq_str]; rfl
theorem errv_eof {k : Nat} {v : Value} (h : ErrV k v) (hk : k ≠ 1) (w : World) : (binOp .eql 97 v (.iface 141 (.string ⟨#[69, 79, 70]⟩))).run Tryz.prog w = .ok (.bool false) w := by
  unfold ErrV at h
  rw [if_neg hk] at h
  split at h
  · subst h
    rw [eq_str]; rfl
  · split at h
    · obtain ⟨s, rfl, h1, _⟩ := h
      rw [eq_str, show (s == ⟨#[69, 79, 70]⟩) = false from ba_ne h1]
    · obtain ⟨hk, a, rfl⟩ := h
      refine run_eql_iface_types _ _ _ _ Tryz.underlying97 ?_ w
      rcases hk with rfl | rfl | rfl | rfl | rfl | rfl | rfl <;> decide
theorem errv_ueof {k : Nat} {v : Value} (h : ErrV k v) (hk : k ≠ 2) (hk1 : k ≠ 1) (w : World) : (binOp .eql 97 v (.iface 141 (.string ueofS))).run Tryz.prog w = .ok (.bool false) w := by
  unfold ErrV at h
  rw [if_neg hk1, if_neg hk] at h
  split at h
  · obtain ⟨s, rfl, _, h1⟩ := h
    rw [eq_str, ba_ne h1]
  · obtain ⟨hk, a, rfl⟩ := h
    refine run_eql_iface_types _ _ _ _ Tryz.underlying97 ?_ w
    rcases hk with rfl | rfl | rfl | rfl | rfl | rfl | rfl <;> decide
end Go.Proofs.YteodinhkhhaafaaGreatDoor
