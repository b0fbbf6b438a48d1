/- The state of diagnose; its item: the first cases. -/
import Derived.Test.YteodinhkhhaafaaGreatDoorWo
import Derived.Test.YteodinhkhhaafaaGreatDoorWq
import Derived.Deep.RegionHeld3
import Derived.Shelf.Unicode.DecodeSlow
set_option linter.unusedVariables false
set_option linter.unusedSimpArgs false
namespace Go.Proofs.YteodinhkhhaafaaGreatDoor
open Go.RowKit

/-- The tables of unicode/utf8. -/
def U8 (w : World) : Prop := Lib.Utf8Tabs 0 1 w
theorem U8.keep {w w' : World} (h : U8 w) (hk : ∀ k, k < 2 → w'.heap[k]? = w.heap[k]?) : U8 w' := by
  have hc : ∀ p : Addr, p.block < 2 → w'.cell? p = w.cell? p := fun p hp => World.cell?_of_block (w := w) (hk p.block hp)
  obtain ⟨h1, h2⟩ := h
  refine ⟨fun c hl => (hc ⟨0, c, none⟩ (by simp)).trans (h1 c hl), fun i hi => ⟨(hc ⟨1, 2 * i, none⟩ (by simp)).trans (h2 i hi).1, (hc ⟨1, 2 * i + 1, none⟩ (by simp)).trans (h2 i hi).2⟩⟩
theorem U8.size {w : World} (h : U8 w) : 2 ≤ w.heap.size := by
  have := World.block_lt_of_cell? w ⟨1, 2 * 0, none⟩ (h.2 0 (by omega)).1
  exact this
theorem U8.fr {w w' : World} {S : List Nat} (h : U8 w) (hf : Fr S w w') (hs : ∀ k, k ∈ S → 2 ≤ k) : U8 w' := h.keep fun k hk => hf.block k (by have := h.size; omega) (fun e => by have := hs k e; omega)
theorem U8.gr {w w' : World} {S : List Nat} {B : Nat} (h : U8 w) (hf : Gr B S w w') (hB : 2 ≤ B) (hs : ∀ k, k ∈ S → 2 ≤ k) : U8 w' := h.keep fun k hk => hf.block k (by omega) (fun e => by have := hs k e; omega)
/-- The modes of notation. -/
structure Md where
  enc : Nat
  sp : Bool
  tx : Bool
  em : Bool
  sq : Bool
  pr : Bool
/-- The blocks of a diagnose, and what does not change. -/
structure Cx where
  B : Nat
  di : Nat
  dg : Nat
  d : Nat
  wb : Nat
  db : Nat
  o : Nat
  c : Nat
  dm : Nat
  xs : List UInt8
  L : Lim
  M : Md
/-- The state of a diagnose: at a place, with a text written. -/
structure St (X : Cx) (off : Nat) (bs : List UInt8) (w : World) : Prop where
  di : w.heap[X.di]? = some (.cells #[.pointer (some ⟨X.dg, 0, none⟩), .pointer (some ⟨X.d, 0, none⟩), .pointer (some ⟨X.wb, 0, none⟩)] 196 (0, 0))
  dg : w.heap[X.dg]? = some (.cells #[.int .u8 (X.M.enc : Int), .bool X.M.sp, .bool X.M.tx, .bool X.M.em, .bool X.M.sq, .bool X.M.pr, .pointer (some ⟨X.dm, 0, none⟩)] 139 (0, 0))
  dec : Dec w X.d X.db X.o X.c X.dm X.xs off
  dm : DecM w X.dm X.L.nest X.L.el X.L.pa
  buf : Buf w X.B X.wb bs
  hB : X.B ≤ w.heap.size
  ldi : X.di < X.B
  ldg : X.dg < X.B
  ld : X.d < X.B
  lw : X.wb < X.B
  ldb : X.db < X.B
  ldm : X.dm < X.B
  nw : X.db ≠ X.wb
  u8 : U8 w
  l2B : 2 ≤ X.B
  l2d : 2 ≤ X.d
  l2w : 2 ≤ X.wb
section
variable {X : Cx} {off : Nat} {bs : List UInt8} {w : World}
theorem St.n1 (h : St X off bs w) : X.di ≠ X.d := fun e => by have h1 := h.di; rw [e, h.dec.blk] at h1; simp at h1
theorem St.n2 (h : St X off bs w) : X.dg ≠ X.d := fun e => by have h1 := h.dg; rw [e, h.dec.blk] at h1; simp at h1
theorem St.n3 (h : St X off bs w) : X.dm ≠ X.d := fun e => by have h1 := h.dm; unfold DecM at h1; rw [e, h.dec.blk] at h1; simp at h1
theorem St.n4 (h : St X off bs w) : X.di ≠ X.wb := fun e => by obtain ⟨v, hv, _⟩ := h.buf; have h1 := h.di; rw [e, hv] at h1; simp at h1
theorem St.n5 (h : St X off bs w) : X.dg ≠ X.wb := fun e => by obtain ⟨v, hv, _⟩ := h.buf; have h1 := h.dg; rw [e, hv] at h1; simp at h1
theorem St.n6 (h : St X off bs w) : X.dm ≠ X.wb := fun e => by obtain ⟨v, hv, _⟩ := h.buf; have h1 := h.dm; unfold DecM at h1; rw [e, hv] at h1; simp at h1
theorem St.n7 (h : St X off bs w) : X.d ≠ X.wb := fun e => by obtain ⟨v, hv, _⟩ := h.buf; have h1 := h.dec.blk; rw [e, hv] at h1; simp at h1
theorem St.n8 (h : St X off bs w) : X.dg ≠ X.di := fun e => by have h1 := h.dg; rw [e, h.di] at h1; simp at h1
theorem St.i0 (h : St X off bs w) : w.cell? ⟨X.di, 0, none⟩ = some (.pointer (some ⟨X.dg, 0, none⟩)) := cell_blk h.di 0
theorem St.i1 (h : St X off bs w) : w.cell? ⟨X.di, 1, none⟩ = some (.pointer (some ⟨X.d, 0, none⟩)) := cell_blk h.di 1
theorem St.i2 (h : St X off bs w) : w.cell? ⟨X.di, 2, none⟩ = some (.pointer (some ⟨X.wb, 0, none⟩)) := cell_blk h.di 2
/-- The decoder has moved. -/
theorem St.moved {w' : World} (h : St X off bs w) (hf : Fr [X.d] w w') {off' : Nat} (hd : Dec w' X.d X.db X.o X.c X.dm X.xs off') : St X off' bs w' :=
  ⟨hf.blk h.di (by simpa using h.n1), hf.blk h.dg (by simpa using h.n2), hd, h.dm.fr hf (by simpa using h.n3), by
    obtain ⟨v, hv, hr⟩ := h.buf
    exact ⟨v, hf.blk hv (by simpa using fun e => h.n7 e.symm), hr.fr hf (by simpa using h.ld)⟩, Nat.le_trans h.hB hf.size, h.ldi, h.ldg, h.ld, h.lw, h.ldb, h.ldm, h.nw, h.u8.fr hf (by simpa using h.l2d), h.l2B, h.l2d, h.l2w⟩
/-- The text has grown. -/
theorem St.wrote {w' : World} (h : St X off bs w) (hf : Gr X.B [X.wb] w w') {bs' : List UInt8} (hd : Buf w' X.B X.wb bs') : St X off bs' w' :=
  ⟨hf.blk h.di h.ldi (by simpa using h.n4), hf.blk h.dg h.ldg (by simpa using h.n5),
    ⟨hf.blk h.dec.blk h.ld (by simpa using h.n7), hf.rd h.dec.rd h.ldb (by simpa using h.nw), h.dec.cap, h.dec.len, h.dec.ne, h.dec.le⟩,
    hf.blk h.dm h.ldm (by simpa using h.n6), hd, Nat.le_trans h.hB hf.size, h.ldi, h.ldg, h.ld, h.lw, h.ldb, h.ldm, h.nw, h.u8.gr hf h.l2B (by simpa using h.l2w), h.l2B, h.l2d, h.l2w⟩
/-- Nothing of it has changed. -/
theorem St.kept {w' : World} (h : St X off bs w) (hf : Fr [] w w') : St X off bs w' := h.moved (hf.mono (by simp)) (h.dec.fr hf (by simp) (by simp))
theorem St.drewN (h : St X off bs w) (n : Nat) : St X off bs (w.drewN n) := h.kept ((Fr.refl _ _).drewN n)
theorem St.grF {w' : World} (h : St X off bs w) (hf : Fr [X.d] w w') : Gr X.B [X.d, X.wb] w w' := Gr.of hf h.hB (by simp)
theorem St.gr0 {w' : World} (h : St X off bs w) (hf : Fr [] w w') : Gr X.B [X.d, X.wb] w w' := Gr.of hf h.hB (by simp)
theorem St.grW {w' : World} (hf : Gr X.B [X.wb] w w') : Gr X.B [X.d, X.wb] w w' := hf.mono (Nat.le_refl _) (by simp)
end

/-- What item leaves: a text, and an error or none. -/
def IPost (X : Cx) (off' : Nat) (bs : List UInt8) (r : List UInt8 × Option Nat) (w : World) (e : Ending) (w' : World) : Prop :=
  ∃ v o2, e = .returned v ∧ ErrO r.2 v ∧ (r.2 = none → o2 = off') ∧ St X o2 (bs ++ r.1) w' ∧ Gr X.B [X.d, X.wb] w w'
/-- The most that is written. -/
def room : Nat := 140737488355328

/-- The first byte of a head. -/
theorem hd_byte {xs : List UInt8} {off m ai v o : Nat} (h : hd xs off = .ok (m, ai, v, o)) : ∃ hl : off < xs.length, xs[off].toNat / 32 = m ∧ xs[off].toNat % 32 = ai := by
  unfold hd at h
  split at h
  · cases h
  · rename_i b e
    obtain ⟨hl, rfl⟩ := getElem?_lt e
    refine ⟨hl, ?_⟩
    split at h
    · cases h; exact ⟨rfl, rfl⟩
    · split at h
      · split at h
        · cases h
        · split at h
          · cases h
          · cases h; exact ⟨rfl, rfl⟩
      · split at h
        · split at h
          · cases h
          · cases h; exact ⟨rfl, by omega⟩
        · cases h

/-- A text, and an error or none. -/
abbrev R := List UInt8 × Option Nat
def txt (s : List UInt8) : R := (s, none)
/-- One behind the other, unless the first ends in an error. -/
def thenR (a b : R) : R :=
  match a.2 with
  | none => (a.1 ++ b.1, b.2)
  | some k => (a.1, some k)
/-- Items with ", " between them, behind i others, and an end. -/
def arrR (close : List UInt8) : Nat → List R → R
  | _, [] => txt close
  | i, r :: l => thenR (txt (if i = 0 then [] else [44, 32])) (thenR r (arrR close (i + 1) l))
def mapR (close : List UInt8) : Nat → List (R × R) → R
  | _, [] => txt close
  | i, (k, v) :: l => thenR (txt (if i = 0 then [] else [44, 32])) (thenR k (thenR (txt [58, 32]) (thenR v (mapR close (i + 1) l))))
theorem thenR_txt (s : List UInt8) (b : R) : thenR (txt s) b = (s ++ b.1, b.2) := rfl
theorem thenR_ok {a : R} (h : a.2 = none) (b : R) : thenR a b = (a.1 ++ b.1, b.2) := by simp [thenR, h]
theorem thenR_err {a : R} {k : Nat} (h : a.2 = some k) (b : R) : thenR a b = (a.1, some k) := by simp [thenR, h]
/-- The contract of item at a place. -/
def ItemC (X : Cx) (off off' : Nat) (r : R) : Prop :=
  ∀ w bs, St X off bs w → bs.length + r.1.length ≤ room → Calls Tryz.prog 105 #[.pointer (some ⟨X.di, 0, none⟩)] w (IPost X off' bs r w)
inductive Kids (X : Cx) : Nat → Nat → List R → Prop
  | nil (off : Nat) : Kids X off off []
  | cons {off mid off' : Nat} {r : R} {l : List R} : ItemC X off mid r → Kids X mid off' l → Kids X off off' (r :: l)
inductive Kids2 (X : Cx) : Nat → Nat → List (R × R) → Prop
  | nil (off : Nat) : Kids2 X off off []
  | cons {off m1 m2 off' : Nat} {r s : R} {l : List (R × R)} : ItemC X off m1 r → ItemC X m1 m2 s → Kids2 X m2 off' l → Kids2 X off off' ((r, s) :: l)
end Go.Proofs.YteodinhkhhaafaaGreatDoor
