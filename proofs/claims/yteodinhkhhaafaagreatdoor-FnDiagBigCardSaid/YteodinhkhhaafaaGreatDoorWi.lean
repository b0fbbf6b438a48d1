/- Well-formedness as a plain function; the walks of the head with its flag and of strings in chunks. -/
import Derived.Test.YteodinhkhhaafaaGreatDoorWh
set_option linter.unusedVariables false
set_option linter.unusedSimpArgs false
namespace Go.Proofs.YteodinhkhhaafaaGreatDoor
open Go.RowKit

/-- The limits of a decoder. -/
structure Lim where
  nest : Nat
  el : Nat
  pa : Nat
/-- The deeper one of two depths. -/
def joinD (D : Nat) : Option (Except Nat (Nat × Nat)) → Option (Except Nat (Nat × Nat))
  | some (.ok (D', o)) => some (.ok (max D D', o))
  | r => r
mutual
/-- One item at a place, within so many levels: its depth and the place behind it, or a kind of error. -/
def wfI (L : Lim) (xs : List UInt8) : Nat → Nat → Nat → Option (Except Nat (Nat × Nat))
  | 0, _, _ => none
  | f + 1, off, dep =>
    match hd xs off with
    | .error k => some (.error k)
    | .ok (m, ai, v, o) =>
      if m = 2 ∨ m = 3 then
        (if ai = 31 then wfS L xs f m o dep
        else if 9223372036854775808 ≤ v then some (.error 16)
        else if xs.length - o < v then some (.error 2)
        else some (.ok (dep, o + v)))
      else if m = 4 ∨ m = 5 then
        (if L.nest < dep + 1 then some (.error 5)
        else if ai = 31 then wfO L xs f m 0 o (dep + 1)
        else if 9223372036854775808 ≤ v then some (.error 16)
        else if m = 4 ∧ L.el < v then some (.error 6)
        else if m = 5 ∧ L.pa < v then some (.error 7)
        else wfN L xs f (v * (m - 3)) o (dep + 1))
      else if m = 6 then wfT L xs f o dep
      else some (.ok (dep, o))
/-- The chunks of a string. -/
def wfS (L : Lim) (xs : List UInt8) : Nat → Nat → Nat → Nat → Option (Except Nat (Nat × Nat))
  | 0, _, _, _ => none
  | f + 1, m, off, dep =>
    match xs[off]? with
    | none => some (.error 2)
    | some b =>
      if b.toNat = 255 then some (.ok (dep, off + 1))
      else if b.toNat / 32 ≠ m then some (.error 3)
      else if b.toNat % 32 = 31 then some (.error 3)
      else match wfI L xs f off dep with
        | some (.ok (D, o)) => wfS L xs f m o D
        | r => r
/-- The items of an array, or a map, of no length told; i of them are behind. -/
def wfO (L : Lim) (xs : List UInt8) : Nat → Nat → Nat → Nat → Nat → Option (Except Nat (Nat × Nat))
  | 0, _, _, _, _ => none
  | f + 1, m, i, off, dep =>
    match xs[off]? with
    | none => some (.error 2)
    | some b =>
      if b.toNat = 255 then (if m = 5 ∧ i % 2 = 1 then some (.error 3) else some (.ok (dep, off + 1)))
      else match wfI L xs f off dep with
        | some (.ok (D, o)) =>
          if m = 4 ∧ L.el < i + 1 then some (.error 6)
          else if m ≠ 4 ∧ (i + 1) % 2 = 0 ∧ L.pa < (i + 1) / 2 then some (.error 7)
          else joinD D (wfO L xs f m (i + 1) o dep)
        | r => r
/-- So many items. -/
def wfN (L : Lim) (xs : List UInt8) : Nat → Nat → Nat → Nat → Option (Except Nat (Nat × Nat))
  | 0, _, _, _ => none
  | f + 1, n, off, dep =>
    match n with
    | 0 => some (.ok (dep, off))
    | n + 1 => match wfI L xs f off dep with
      | some (.ok (D, o)) => joinD D (wfN L xs f n o dep)
      | r => r
/-- The content of a tag. -/
def wfT (L : Lim) (xs : List UInt8) : Nat → Nat → Nat → Option (Except Nat (Nat × Nat))
  | 0, _, _ => none
  | f + 1, off, dep =>
    match xs[off]? with
    | none => some (.error 2)
    | some b =>
      if b.toNat / 32 ≠ 6 then wfI L xs f off dep
      else match hd xs off with
        | .error k => some (.error k)
        | .ok (_, _, _, o) => if L.nest < dep + 1 then some (.error 5) else wfT L xs f o (dep + 1)
end

/-- What wellformedHeadWithIndefiniteLengthFlag leaves. -/
def IHead (w : World) (d db o c dm : Nat) (xs : List UInt8) (r : Except Nat (Nat × Nat × Nat × Nat)) (e : Ending) (w' : World) : Prop :=
  match r with
  | .ok (m, ai, v, off') => e = .returned (.tuple #[.int .u8 ((m * 32 : Nat) : Int), .int .u8 (ai : Int), .int .u64 (v : Int), .bool ((ai : Int) == 31), .nilIface]) ∧ Dec w' d db o c dm xs off' ∧ Fr [d] w w'
  | .error k => ∃ v, e = .returned (.tuple #[.int .u8 0, .int .u8 0, .int .u64 0, .bool false, v]) ∧ ErrV k v ∧ (∃ u, DecV w' d db o c dm xs u) ∧ Fr [d] w w'
/-- What the checks of an item leave. -/
def WPost (w : World) (d db o c dm : Nat) (xs : List UInt8) (r : Except Nat (Nat × Nat)) (e : Ending) (w' : World) : Prop :=
  match r with
  | .ok (D, off') => e = .returned (.tuple #[.int .i64 (D : Int), .nilIface]) ∧ Dec w' d db o c dm xs off' ∧ Fr [d] w w'
  | .error k => ∃ v, e = .returned (.tuple #[.int .i64 0, v]) ∧ ErrV k v ∧ (∃ u, DecV w' d db o c dm xs u) ∧ Fr [d] w w'

theorem res5 {fn : Func} {t u v x y : Tmp} (h : fn.results = #[.tmp t, .tmp u, .tmp v, .tmp x, .tmp y]) (tmps : Array Value) (P : Program) (w : World) :
    (results fn tmps).run P w = .ok (.tuple #[tmps.getD t undef, tmps.getD u undef, tmps.getD v undef, tmps.getD x undef, tmps.getD y undef]) w := by simp [results, h]

/-- An error's value is an interface that holds something. -/
theorem ErrV.iface {k : Nat} {v : Value} (h : ErrV k v) : ∃ t x, v = .iface t x := by
  unfold ErrV at h
  split at h
  · exact ⟨_, _, h⟩
  · split at h
    · exact ⟨_, _, h⟩
    · split at h
      · obtain ⟨s, h, _⟩ := h
        exact ⟨_, _, h⟩
      · obtain ⟨_, a, h⟩ := h
        exact ⟨_, _, h⟩

section
variable {w : World} {d db o c dm off n el pa : Nat} {xs : List UInt8}
theorem ihead (h : Dec w d db o c dm xs off) (hM : DecM w dm n el pa) (hmd : dm ≠ d) :
    Calls Tryz.prog 154 #[.pointer (some ⟨d, 0, none⟩)] w (IHead w d db o c dm xs (hd xs off)) := by
  have K := wellformedHead h hM hmd
  cases hh : hd xs off with
  | error k =>
    rw [hh] at K
    replace K := Lib.hid K
    clear hh
    go_enter Tryz.func154, Tryz.ntmps154
    go_wp2_with fail
    refine K.out.mono ?_
    rintro e w1 ⟨v, rfl, hv, hu, hf⟩
    obtain ⟨t, x, rfl⟩ := hv.iface
    go_wp2
    refine bodyPost_ret (res5 rfl _ _ _) rfl ?_
    exact ⟨_, rfl, hv, hu, hf⟩
  | ok p =>
    obtain ⟨m, ai, v, off'⟩ := p
    rw [hh] at K
    replace K := Lib.hid K
    clear hh
    go_enter Tryz.func154, Tryz.ntmps154
    go_wp2_with fail
    refine K.out.mono ?_
    rintro e w1 ⟨rfl, hD, hf⟩
    go_wp2
    refine bodyPost_ret (res5 rfl _ _ _) rfl ?_
    exact ⟨rfl, hD, hf⟩
end
end Go.Proofs.YteodinhkhhaafaaGreatDoor
