/- The walks of the decoder's small functions: heads, breaks, numbers of two, four and eight bytes. -/
import Derived.Test.YteodinhkhhaafaaGreatDoorBa
set_option linter.unusedVariables false
set_option linter.unusedSimpArgs false
namespace Go.Proofs.YteodinhkhhaafaaGreatDoor
open Go.RowKit

/-- Numbers of two, four and eight bytes. -/
def two (x y : UInt8) : Nat := x.toNat * 256 + y.toNat
def four (p q : Nat) : Nat := p * 65536 + q
def eight (p q : Nat) : Nat := p * 4294967296 + q
theorem u8lt (x : UInt8) : x.toNat < 256 := x.toNat_lt
theorem two_lt (x y : UInt8) : two x y < 65536 := by have := u8lt x; have := u8lt y; unfold two; omega
theorem four_lt (p q : Nat) (hp : p < 65536) (hq : q < 65536) : four p q < 4294967296 := by unfold four; omega

theorem or16 (x y : UInt8) : bits .or .u16 (IntKind.u16.wrap (IntKind.u16.wrap (x.toNat : Int) * 256)) (IntKind.u16.wrap (y.toNat : Int)) = (two x y : Int) := by
  have hx := x.toNat_lt
  have hy := y.toNat_lt
  rw [IntKind.wrap_u16, IntKind.wrap_u16, IntKind.wrap_u16]
  have e1 : (x.toNat : Int) % 65536 * 256 % 65536 = ((x.toNat * 256 : Nat) : Int) := by omega
  have e2 : (y.toNat : Int) % 65536 = (y.toNat : Int) := by omega
  rw [e1, e2, u16_or_nat _ _ (by omega) (by omega), nat_join 8 _ _ (by omega) (by omega)]
  rfl
theorem or32 (x y : Nat) (hx : x < 65536) (hy : y < 65536) : bits .or .u32 ((x : Int) * 65536) (y : Int) = (four x y : Int) := by
  have e1 : (x : Int) * 65536 = ((x * 65536 : Nat) : Int) := by omega
  rw [e1, u32_or_nat _ _ (by omega) (by omega), nat_join 16 _ _ (by omega) (by omega)]
  rfl
theorem or64 (x y : Nat) (hx : x < 4294967296) (hy : y < 4294967296) : bits .or .u64 ((x : Int) * 4294967296) (y : Int) = (eight x y : Int) := by
  have e1 : (x : Int) * 4294967296 = ((x * 4294967296 : Nat) : Int) := by omega
  rw [e1, u64_or_nat _ _ (by omega) (by omega), nat_join 32 _ _ (by omega) (by omega)]
  rfl

theorem beUint16 (b o n c : Nat) (x y : UInt8) (w : World) (hn : 2 ≤ n) (h0 : w.cell? ⟨b, o, none⟩ = some (.int .u8 (x.toNat : Int))) (h1 : w.cell? ⟨b, o + 1, none⟩ = some (.int .u8 (y.toNat : Int))) :
    Calls Tryz.prog 161 #[.slice (some ⟨b, o, none⟩) n c] w fun e w' => e = .returned (.int .u16 (two x y : Int)) ∧ ∃ m, w' = w.drewN m := by
  rw [← or16]
  go_enter Tryz.func161, Tryz.ntmps161
  go_wp2
  go_quiet (fail)
  go_wp2
  go_ret
  exact ⟨rfl, _, rfl⟩

theorem beUint32 (b o n c : Nat) (x0 x1 x2 x3 : UInt8) (w : World) (hn : 4 ≤ n) (hc : n ≤ c) (h0 : w.cell? ⟨b, o, none⟩ = some (.int .u8 (x0.toNat : Int))) (h1 : w.cell? ⟨b, o + 1, none⟩ = some (.int .u8 (x1.toNat : Int)))
    (h2 : w.cell? ⟨b, o + 2, none⟩ = some (.int .u8 (x2.toNat : Int))) (h3 : w.cell? ⟨b, o + 2 + 1, none⟩ = some (.int .u8 (x3.toNat : Int))) :
    Calls Tryz.prog 162 #[.slice (some ⟨b, o, none⟩) n c] w fun e w' => e = .returned (.int .u32 (four (two x0 x1) (two x2 x3) : Int)) ∧ ∃ m, w' = w.drewN m := by
  have l0 := two_lt x0 x1
  have l1 := two_lt x2 x3
  rw [← or32 _ _ l0 l1]
  have g0 : (2 : Int) ≤ (n : Int) := by omega
  have g1 : ¬ c = 2 := by omega
  go_enter Tryz.func162, Tryz.ntmps162
  go_wp2
  go_quiet (first | (go_at_call_of 161 (Value.slice (some ⟨b, o, none⟩) n c); exact Calls.quiet_of (beUint16 b o n c x0 x1 _ (by omega) h0 h1)) | (go_at_call 161; exact Calls.quiet_of (beUint16 b (o + 2) (n - 2) (c - 2) x2 x3 _ (by omega) h2 h3)))
  go_wp2
  go_ret
  exact ⟨rfl, _, rfl⟩

theorem beUint64 (b o n c : Nat) (x0 x1 x2 x3 x4 x5 x6 x7 : UInt8) (w : World) (hn : 8 ≤ n) (hc : n ≤ c) (h0 : w.cell? ⟨b, o, none⟩ = some (.int .u8 (x0.toNat : Int))) (h1 : w.cell? ⟨b, o + 1, none⟩ = some (.int .u8 (x1.toNat : Int)))
    (h2 : w.cell? ⟨b, o + 2, none⟩ = some (.int .u8 (x2.toNat : Int))) (h3 : w.cell? ⟨b, o + 2 + 1, none⟩ = some (.int .u8 (x3.toNat : Int))) (h4 : w.cell? ⟨b, o + 4, none⟩ = some (.int .u8 (x4.toNat : Int)))
    (h5 : w.cell? ⟨b, o + 4 + 1, none⟩ = some (.int .u8 (x5.toNat : Int))) (h6 : w.cell? ⟨b, o + 4 + 2, none⟩ = some (.int .u8 (x6.toNat : Int))) (h7 : w.cell? ⟨b, o + 4 + 2 + 1, none⟩ = some (.int .u8 (x7.toNat : Int))) :
    Calls Tryz.prog 163 #[.slice (some ⟨b, o, none⟩) n c] w fun e w' => e = .returned (.int .u64 (eight (four (two x0 x1) (two x2 x3)) (four (two x4 x5) (two x6 x7)) : Int)) ∧ ∃ m, w' = w.drewN m := by
  have l0 := four_lt _ _ (two_lt x0 x1) (two_lt x2 x3)
  have l1 := four_lt _ _ (two_lt x4 x5) (two_lt x6 x7)
  rw [← or64 _ _ l0 l1]
  have g0 : (4 : Int) ≤ (n : Int) := by omega
  have g1 : ¬ c = 4 := by omega
  go_enter Tryz.func163, Tryz.ntmps163
  go_wp2
  go_quiet (first | (go_at_call_of 162 (Value.slice (some ⟨b, o, none⟩) n c); exact Calls.quiet_of (beUint32 b o n c x0 x1 x2 x3 _ (by omega) hc h0 h1 h2 h3)) | (go_at_call 162; exact Calls.quiet_of (beUint32 b (o + 4) (n - 4) (c - 4) x4 x5 x6 x7 _ (by omega) (by omega) h4 h5 h6 h7)))
  go_wp2
  go_ret
  exact ⟨rfl, _, rfl⟩

/-- A head: kind 2 the end comes within, 3 none; else the major type, the low bits, the argument, and the place behind it. -/
def be (l : List UInt8) : Nat := l.foldl (fun a b => a * 256 + b.toNat) 0
def hd (xs : List UInt8) (off : Nat) : Except Nat (Nat × Nat × Nat × Nat) :=
  match xs[off]? with
  | none => .error 2
  | some b =>
    if b.toNat % 32 < 24 then .ok (b.toNat / 32, b.toNat % 32, b.toNat % 32, off + 1)
    else if b.toNat % 32 < 28 then
      if xs.length < off + 1 + 2 ^ (b.toNat % 32 - 24) then .error 2
      else if b.toNat / 32 = 7 ∧ b.toNat % 32 = 24 ∧ be ((xs.drop (off + 1)).take 1) < 32 then .error 3
      else .ok (b.toNat / 32, b.toNat % 32, be ((xs.drop (off + 1)).take (2 ^ (b.toNat % 32 - 24))), off + 1 + 2 ^ (b.toNat % 32 - 24))
    else if b.toNat % 32 = 31 then (if b.toNat / 32 < 2 ∨ 5 < b.toNat / 32 then .error 3 else .ok (b.toNat / 32, 31, 31, off + 1))
    else .error 3

/-- A decoder over bytes, at a place. -/
structure Dec (w : World) (d db o c dm : Nat) (xs : List UInt8) (off : Nat) : Prop where
  blk : w.heap[d]? = some (.cells #[.slice (some ⟨db, o, none⟩) xs.length c, .int .i64 (off : Int), .pointer (some ⟨dm, 0, none⟩)] 188 (0, 0))
  rd : Rd w db o xs
  cap : xs.length ≤ c
  len : xs.length ≤ 1099511627776
  ne : db ≠ d
  le : off ≤ xs.length
section
variable {w w' : World} {d db o c dm off : Nat} {xs : List UInt8}
theorem Dec.c0 (h : Dec w d db o c dm xs off) : w.cell? ⟨d, 0, none⟩ = some (.slice (some ⟨db, o, none⟩) xs.length c) := cell_blk h.blk 0
theorem Dec.c1 (h : Dec w d db o c dm xs off) : w.cell? ⟨d, 1, none⟩ = some (.int .i64 (off : Int)) := cell_blk h.blk 1
theorem Dec.c2 (h : Dec w d db o c dm xs off) : w.cell? ⟨d, 2, none⟩ = some (.pointer (some ⟨dm, 0, none⟩)) := cell_blk h.blk 2
theorem Dec.f1 (h : Dec w d db o c dm xs off) : w.frozen? ⟨d, 1, none⟩ = false := frozen_blk h.blk 1
theorem Dec.at_ (h : Dec w d db o c dm xs off) (j : Nat) (hj : j < xs.length) : w.cell? ⟨db, o + j, none⟩ = some (.int .u8 (xs[j].toNat : Int)) := h.rd j hj
theorem Dec.fr {S : List Nat} (h : Dec w d db o c dm xs off) (hf : Fr S w w') (h1 : d ∉ S) (h2 : db ∉ S) : Dec w' d db o c dm xs off := ⟨hf.blk h.blk h1, h.rd.fr hf h2, h.cap, h.len, h.ne, h.le⟩
theorem Dec.drewN (h : Dec w d db o c dm xs off) (n : Nat) : Dec (w.drewN n) d db o c dm xs off := ⟨h.blk, h.rd, h.cap, h.len, h.ne, h.le⟩
/-- The decoder with whatever in the place. -/
structure DecV (w : World) (d db o c dm : Nat) (xs : List UInt8) (v : Value) : Prop where
  blk : w.heap[d]? = some (.cells #[.slice (some ⟨db, o, none⟩) xs.length c, v, .pointer (some ⟨dm, 0, none⟩)] 188 (0, 0))
  rd : Rd w db o xs
  cap : xs.length ≤ c
  len : xs.length ≤ 1099511627776
  ne : db ≠ d
theorem Dec.v (h : Dec w d db o c dm xs off) : DecV w d db o c dm xs (.int .i64 (off : Int)) := ⟨h.blk, h.rd, h.cap, h.len, h.ne⟩
theorem DecV.drewN {v : Value} (h : DecV w d db o c dm xs v) (n : Nat) : DecV (w.drewN n) d db o c dm xs v := ⟨h.blk, h.rd, h.cap, h.len, h.ne⟩
theorem DecV.drew {v : Value} (h : DecV w d db o c dm xs v) : DecV w.drew d db o c dm xs v := ⟨h.blk, h.rd, h.cap, h.len, h.ne⟩
theorem DecV.alloc {v : Value} (h : DecV w d db o c dm xs v) (u : Obj) : DecV (w.alloc u) d db o c dm xs v := ⟨blk_alloc h.blk u, h.rd.fr ((Fr.refl [] w).alloc u) (by simp), h.cap, h.len, h.ne⟩
theorem DecV.set {v : Value} (h : DecV w d db o c dm xs v) (u : Value) : DecV (w.setCell ⟨d, 1, none⟩ u) d db o c dm xs u :=
  ⟨blk_setCell h.blk 1 _, h.rd.fr ((Fr.refl [d] w).setCell (by simp) u) (by simpa using h.ne), h.cap, h.len, h.ne⟩
theorem DecV.fr0 {v : Value} (hf : Fr [] w w') (h : DecV w d db o c dm xs v) : DecV w' d db o c dm xs v := ⟨hf.blk h.blk (by simp), h.rd.fr hf (by simp), h.cap, h.len, h.ne⟩
theorem DecV.dec {x : Int} (h : DecV w d db o c dm xs (.int .i64 x)) (off' : Nat) (hx : x = (off' : Int)) (hl : off' ≤ xs.length) : Dec w d db o c dm xs off' := by
  subst hx
  exact ⟨h.blk, h.rd, h.cap, h.len, h.ne, hl⟩
/-- The place is moved. -/
theorem Dec.move (h : Dec w d db o c dm xs off) (off' : Nat) (hl : off' ≤ xs.length) (n : Nat) : Dec ((w.setCell ⟨d, 1, none⟩ (.int .i64 (off' : Int))).drewN n) d db o c dm xs off' ∧ Fr [d] w ((w.setCell ⟨d, 1, none⟩ (.int .i64 (off' : Int))).drewN n) := by
  have hf : Fr [d] w ((w.setCell ⟨d, 1, none⟩ (.int .i64 (off' : Int))).drewN n) := ((Fr.refl _ _).setCell (by simp) _).drewN n
  exact ⟨⟨blk_setCell h.blk 1 _, h.rd.fr hf (by simpa using h.ne), h.cap, h.len, h.ne, hl⟩, hf⟩
end

theorem nextCBORType {w : World} {d db o c dm off : Nat} {xs : List UInt8} (h : Dec w d db o c dm xs off) (hl : off < xs.length) :
    Calls Tryz.prog 120 #[.pointer (some ⟨d, 0, none⟩)] w fun e w' => e = .returned (.int .u8 ((xs[off].toNat / 32 * 32 : Nat) : Int)) ∧ ∃ m, w' = w.drewN m := by
  have h0 := h.c0
  have h1 := h.c1
  have ha := h.at_ off hl
  have hm := h.len
  go_enter Tryz.func120, Tryz.ntmps120
  go_wp2
  go_quiet ((go_at_call 158; exact Calls.quiet_of_same (getType _ _)))
  go_wp2
  go_ret
  exact ⟨rfl, _, rfl⟩

theorem foundBreak_no {w : World} {d db o c dm off : Nat} {xs : List UInt8} (h : Dec w d db o c dm xs off) (hl : off < xs.length) (hb : ((xs[off].toNat : Int) == 255) = false) :
    Calls Tryz.prog 118 #[.pointer (some ⟨d, 0, none⟩)] w fun e w' => e = .returned (.bool false) ∧ ∃ m, w' = w.drewN m := by
  have h0 := h.c0
  have h1 := h.c1
  have ha := h.at_ off hl
  have hm := h.len
  go_enter Tryz.func118, Tryz.ntmps118
  go_wp2
  go_quiet ((go_at_call 117; exact Calls.quiet_of_same (isBreakFlag _ _)))
  go_wp2
  go_ret
  exact ⟨rfl, _, rfl⟩
theorem foundBreak_yes {w : World} {d db o c dm off : Nat} {xs : List UInt8} (h : Dec w d db o c dm xs off) (hl : off < xs.length) (hb : ((xs[off].toNat : Int) == 255) = true) :
    Calls Tryz.prog 118 #[.pointer (some ⟨d, 0, none⟩)] w fun e w' => e = .returned (.bool true) ∧ Dec w' d db o c dm xs (off + 1) ∧ Fr [d] w w' := by
  have h0 := h.c0
  have h1 := h.c1
  have f1 := h.f1
  have ha := h.at_ off hl
  have hm := h.len
  go_enter Tryz.func118, Tryz.ntmps118
  go_wp2
  go_quiet ((go_at_call 117; exact Calls.quiet_of_same (isBreakFlag _ _)))
  go_wp2
  go_ret
  exact ⟨rfl, h.move (off + 1) (by omega) _⟩
end Go.Proofs.YteodinhkhhaafaaGreatDoor
