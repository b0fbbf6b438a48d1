/- The base of the walks: reading bytes, what a call keeps, small numbers. -/
import Derived.Test.YteodinhkhhaafaaGreatDoorProg
import Derived.WalkKit
import Derived.BigQuiet
import Derived.Deep.QuietTactic
import Derived.Deep.LoopGhost
import Derived.Deep.DeepFit
import Derived.Deep.DeepCutAuto
import Derived.Deep.RegionLaw
import Derived.Deep.RegionHeld3
import Derived.StillTailTactics
import Derived.Outline
import Derived.WalkLawsBesides
import Derived.WalkSpells
import Derived.Lib.Hide
import Derived.Laws.BitsAllLaws
import Derived.Laws.BitsLemmas
import Derived.KernelRfl
import Derived.Laws.IdiomStrings
set_option linter.unusedVariables false
set_option linter.unusedSimpArgs false
namespace Go.Proofs.YteodinhkhhaafaaGreatDoor
open Go.RowKit

/-- What a call keeps: all old blocks but those of S. -/
structure Fr (S : List Nat) (w w' : World) : Prop where
  os : w'.os = w.os
  tape : w'.tape = w.tape
  output : w'.output = w.output
  size : w.heap.size ≤ w'.heap.size
  block : ∀ k, k < w.heap.size → k ∉ S → w'.heap[k]? = w.heap[k]?

section
variable {S T : List Nat} {w w' w'' : World}
theorem Fr.refl (S : List Nat) (w : World) : Fr S w w := ⟨rfl, rfl, rfl, Nat.le_refl _, fun _ _ _ => rfl⟩
theorem Fr.mono (h : Fr S w w') (hs : ∀ k, k ∈ S → k ∈ T) : Fr T w w' := ⟨h.os, h.tape, h.output, h.size, fun k hk hn => h.block k hk (fun e => hn (hs k e))⟩
/-- Behind another call: its blocks are ours, or new. -/
theorem Fr.then_ (h : Fr S w w') (g : Fr T w' w'') (hs : ∀ k, k ∈ T → k ∈ S ∨ w.heap.size ≤ k) : Fr S w w'' :=
  ⟨g.os.trans h.os, g.tape.trans h.tape, g.output.trans h.output, Nat.le_trans h.size g.size,
    fun k hk hn => (g.block k (Nat.lt_of_lt_of_le hk h.size) (fun e => (hs k e).elim hn (fun h2 => by omega))).trans (h.block k hk hn)⟩
theorem Fr.trans (h : Fr S w w') (g : Fr S w' w'') : Fr S w w'' := h.then_ g (fun _ hk => .inl hk)
theorem Fr.then0 (h : Fr S w w') (g : Fr [] w' w'') : Fr S w w'' := h.then_ g (by simp)
theorem Fr.drewN (h : Fr S w w') (n : Nat) : Fr S w (w'.drewN n) := ⟨h.os, h.tape, h.output, h.size, h.block⟩
theorem Fr.drew (h : Fr S w w') : Fr S w w'.drew := ⟨h.os, h.tape, h.output, h.size, h.block⟩
theorem Fr.alloc (h : Fr S w w') (o : Obj) : Fr S w (w'.alloc o) :=
  h.then_ (T := []) ⟨rfl, rfl, rfl, by simp, fun k hk _ => Below.heap_alloc _ _ _ hk⟩ (by simp)
theorem Fr.setCell (h : Fr S w w') {p : Addr} (hp : p.block ∈ S ∨ w.heap.size ≤ p.block) (u : Value) : Fr S w (w'.setCell p u) :=
  h.then_ (T := [p.block]) ⟨rfl, rfl, rfl, by simp [World.setCell], fun k hk hn => Below.heap_setCell _ _ _ _ (by simpa using hn)⟩ (by intro k hk; simp at hk; subst hk; exact hp)
theorem Fr.of_below (h : Below w.heap.size w w') (S : List Nat) : Fr S w w' := ⟨h.os, h.tape, h.output, h.size, fun k hk _ => h.block k hk⟩
theorem Fr.below (h : Fr [] w w') : Below w.heap.size w w' := ⟨h.os, h.tape, h.output, h.size, fun k hk => h.block k hk (by simp)⟩
theorem Fr.below_of {B : Nat} (h : Fr S w w') (hs : ∀ k, k ∈ S → B ≤ k) (hB : B ≤ w.heap.size) : Below B w w' := ⟨h.os, h.tape, h.output, h.size, fun k hk => h.block k (by omega) (fun e => by have := hs k e; omega)⟩
theorem Fr.grown {row : Option Nat} (h : Fr S w w') (hg : w'.grownBy w'' row) (hr : ∀ k, row = some k → k ∈ S ∨ w.heap.size ≤ k) : Fr S w w'' :=
  h.then_ (T := row.toList) ⟨hg.os, hg.tape, hg.output, hg.size, fun k hk hn => hg.block k hk (fun e => hn (by rw [← e]; simp))⟩ (by intro k hk; exact hr k (by simpa using hk))
theorem Fr.blk (h : Fr S w w') {k : Nat} {o : Obj} (hb : w.heap[k]? = some o) (hn : k ∉ S) : w'.heap[k]? = some o :=
  (h.block k (Array.getElem?_eq_some_iff.1 hb).1 hn).trans hb
theorem Fr.cell (h : Fr S w w') {p : Addr} {v : Value} (hc : w.cell? p = some v) (hn : p.block ∉ S) : w'.cell? p = some v :=
  (World.cell?_of_block (w := w) (h.block p.block (World.block_lt_of_cell? w p hc) hn)).trans hc
theorem Fr.frozen (h : Fr S w w') {p : Addr} (hl : p.block < w.heap.size) (hn : p.block ∉ S) : w'.frozen? p = w.frozen? p :=
  World.frozen?_of_block (w := w) (h.block p.block hl hn)
theorem Fr.own (h : Fr S w w') {base n size : Nat} {e : TypeId} {v : Value} {xs : List Value} (ho : w.ownsRow base e size v n xs) (hn : ∀ k, v.ownBlock = some k → k ∉ S) : w'.ownsRow base e size v n xs := by
  obtain ⟨h1, h2⟩ := ho
  refine ⟨h1, ?_⟩
  rcases h2 with h2 | ⟨g, cap, cur, rfl, hg, hh, r⟩
  · exact .inl h2
  · exact .inr ⟨g, cap, cur, rfl, hg, h.blk hh (hn g rfl), r⟩
end

/-- A plain block of a world: its cells. -/
theorem cell_blk {w : World} {b : Nat} {cs : Array Value} {t : TypeId} {fr : Nat × Nat} (h : w.heap[b]? = some (.cells cs t fr)) (i : Nat) : w.cell? ⟨b, i, none⟩ = cs[i]? := by simp [World.cell?, h]
theorem frozen_blk {w : World} {b : Nat} {cs : Array Value} {t : TypeId} (h : w.heap[b]? = some (.cells cs t (0, 0))) (i : Nat) : w.frozen? ⟨b, i, none⟩ = false := by simp [World.frozen?, h]
theorem blk_lt' {w : World} {b : Nat} {o : Obj} (h : w.heap[b]? = some o) : b < w.heap.size := (Array.getElem?_eq_some_iff.1 h).1
theorem blk_setCell {w : World} {b : Nat} {cs : Array Value} {t : TypeId} {fr : Nat × Nat} (h : w.heap[b]? = some (.cells cs t fr)) (i : Nat) (u : Value) : (w.setCell ⟨b, i, none⟩ u).heap[b]? = some (.cells (cs.setIfInBounds i u) t fr) := by
  simp [World.setCell, Array.getElem?_modify, h]
theorem blk_setCell_ne {w : World} {b : Nat} {o : Obj} (h : w.heap[b]? = some o) {p : Addr} (hp : b ≠ p.block) (u : Value) : (w.setCell p u).heap[b]? = some o := (Below.heap_setCell _ _ _ _ hp).trans h
theorem blk_alloc {w : World} {b : Nat} {o : Obj} (h : w.heap[b]? = some o) (o' : Obj) : (w.alloc o').heap[b]? = some o := (Below.heap_alloc _ _ _ (blk_lt' h)).trans h
theorem blk_new (w : World) (o : Obj) : (w.alloc o).heap[w.heap.size]? = some o := by
  show (w.heap.push o)[w.heap.size]? = _
  simp

/-- A quiet call within a quiet region that follows another one. -/
theorem quiet2 {P : Program} {f : FuncId} {args : Array Value} {w : World} {a n : Nat} {v : Value} (h : Calls P f args (w.drewN (a + n)) fun e w' => e = .returned v ∧ ∃ m, w' = (w.drewN (a + n)).drewN m) :
    Calls P f args (w.drewN (a + n)) fun e w'' => e = .returned v ∧ ∃ m, w'' = w.drewN (a + m) :=
  h.mono fun _ _ hh => ⟨hh.1, by obtain ⟨m, hm⟩ := hh.2; exact ⟨n + m, by rw [hm, World.drewN_drewN, Nat.add_assoc]⟩⟩
theorem quiet_same {P : Program} {f : FuncId} {args : Array Value} {w : World} {v : Value} (h : Calls P f args w fun e w' => e = .returned v ∧ w' = w) : Calls P f args w fun e w' => e = .returned v ∧ ∃ m, w' = w.drewN m :=
  h.mono fun _ _ hh => ⟨hh.1, 0, hh.2⟩

/-- Bytes that are read at an address. -/
def Rd (w : World) (b o : Nat) (xs : List UInt8) : Prop := ∀ j, (h : j < xs.length) → w.cell? ⟨b, o + j, none⟩ = some (.int .u8 (xs[j].toNat : Int))
theorem Rd.fr {S : List Nat} {w w' : World} {b o : Nat} {xs : List UInt8} (h : Rd w b o xs) (hf : Fr S w w') (hn : b ∉ S) : Rd w' b o xs := fun j hj => hf.cell (h j hj) hn
theorem Rd.drop {w : World} {b o : Nat} {xs : List UInt8} (h : Rd w b o xs) (k : Nat) : Rd w b (o + k) (xs.drop k) := fun j hj => by
  have hj' : k + j < xs.length := by simp at hj; omega
  have := h (k + j) hj'
  rw [Nat.add_assoc, this]; simp
theorem Rd.take {w : World} {b o : Nat} {xs : List UInt8} (h : Rd w b o xs) (k : Nat) : Rd w b o (xs.take k) := fun j hj => by
  have hj' : j < xs.length := by simp at hj; omega
  rw [h j hj']; simp
theorem Rd.nil (w : World) (b o : Nat) : Rd w b o [] := fun j hj => absurd hj (by simp)
/-- The cells of bytes. -/
def enc (xs : List UInt8) : List Value := xs.map fun c => .int .u8 (c.toNat : Int)
theorem enc_length (xs : List UInt8) : (enc xs).length = xs.length := by simp [enc]
theorem enc_append (xs ys : List UInt8) : enc (xs ++ ys) = enc xs ++ enc ys := by simp [enc]
theorem Rd.cells {w : World} {b o : Nat} {xs : List UInt8} (h : Rd w b o xs) : ∀ j u, (enc xs)[j]? = some u → w.cell? ((⟨b, o, none⟩ : Addr).add j) = some u := by
  intro j u hu
  have hj : j < xs.length := by have := (List.getElem?_eq_some_iff.1 hu).1; simpa [enc] using this
  have ha : (⟨b, o, none⟩ : Addr).add j = ⟨b, o + j, none⟩ := by unfold Addr.add; split <;> simp_all
  rw [ha, h j hj]
  simp [enc, hj] at hu
  rw [← hu]
theorem Rd.of_own {w : World} {base : Nat} {e : TypeId} {g cap n : Nat} {xs : List UInt8} (h : w.ownsRow base e 1 (.slice (some ⟨g, 0, none⟩) n cap) n (enc xs)) : Rd w g 0 xs := fun j hj => by
  have := h.cells (g := g) rfl j (.int .u8 (xs[j].toNat : Int)) (by simp [enc, hj])
  have ha : (⟨g, 0, none⟩ : Addr).add j = ⟨g, 0 + j, none⟩ := by unfold Addr.add; split <;> simp_all
  rwa [ha] at this

/-- string(b). -/
theorem toStr {w : World} {b o : Nat} {xs : List UInt8} (h : Rd w b o xs) (c : Nat) : (convert 59 9 (.slice (some ⟨b, o, none⟩) xs.length c)).run Tryz.prog w = .ok (.string ⟨xs.toArray⟩) w :=
  run_convert_bytes_back w 59 9 5 ⟨b, o, none⟩ c xs Tryz.underlying59 Tryz.underlying5 Tryz.underlying9 fun j hj => by
    have ha : (⟨b, o, none⟩ : Addr).add j = ⟨b, o + j, none⟩ := by unfold Addr.add; split <;> simp_all
    rw [ha]; exact h j hj

/-- The two halves of a first byte. -/
theorem and224 (b : UInt8) : bits .and .u8 (b.toNat : Int) 224 = ((b.toNat / 32 * 32 : Nat) : Int) := by
  have hb := b.toNat_lt
  rw [show (224 : Int) = ((224 : Nat) : Int) from rfl, u8_and_nat _ _ (by omega) (by decide)]
  have key : ∀ x : Fin 256, (x.val &&& 224) = x.val / 32 * 32 := by decide +kernel
  exact congrArg _ (key ⟨b.toNat, hb⟩)
theorem and31 (b : UInt8) : bits .and .u8 (b.toNat : Int) 31 = ((b.toNat % 32 : Nat) : Int) := by
  have hb := b.toNat_lt
  rw [u8_and31 (x := (b.toNat : Int)) (by omega) (by omega)]
  omega

theorem parseInitialByte (b : UInt8) (w : World) :
    Calls Tryz.prog 160 #[.int .u8 (b.toNat : Int)] w fun e w' => e = .returned (.tuple #[.int .u8 ((b.toNat / 32 * 32 : Nat) : Int), .int .u8 ((b.toNat % 32 : Nat) : Int)]) ∧ w' = w := by
  rw [← and224, ← and31]
  go_enter Tryz.func160, Tryz.ntmps160
  go_wp2
  go_ret2
  exact ⟨rfl, rfl⟩
theorem getType (b : UInt8) (w : World) :
    Calls Tryz.prog 158 #[.int .u8 (b.toNat : Int)] w fun e w' => e = .returned (.int .u8 ((b.toNat / 32 * 32 : Nat) : Int)) ∧ w' = w := by
  rw [← and224]
  go_enter Tryz.func158, Tryz.ntmps158
  go_wp2
  go_ret
  exact ⟨rfl, rfl⟩
theorem isBreakFlag (b : UInt8) (w : World) :
    Calls Tryz.prog 117 #[.int .u8 (b.toNat : Int)] w fun e w' => e = .returned (.bool ((b.toNat : Int) == 255)) ∧ w' = w := by
  go_enter Tryz.func117, Tryz.ntmps117
  go_wp2
  go_ret
  exact ⟨rfl, rfl⟩
end Go.Proofs.YteodinhkhhaafaaGreatDoor
