/- The walks of the buffer of bytes. -/
import Derived.Test.YteodinhkhhaafaaGreatDoorBa
import Derived.Lib.AppendStr
import Derived.OwnWalk
import Derived.RegionTactic
import Derived.Lib.BufferRead
set_option linter.unusedVariables false
set_option linter.unusedSimpArgs false
namespace Go.Proofs.YteodinhkhhaafaaGreatDoor
open Go.RowKit

/-- What a call keeps of the blocks below a bound: all but those of S. -/
structure Gr (B : Nat) (S : List Nat) (w w' : World) : Prop where
  os : w'.os = w.os
  tape : w'.tape = w.tape
  output : w'.output = w.output
  size : w.heap.size ≤ w'.heap.size
  block : ∀ k, k < B → k ∉ S → w'.heap[k]? = w.heap[k]?
section
variable {B C : Nat} {S T : List Nat} {w w' w'' : World}
theorem Gr.refl (B : Nat) (S : List Nat) (w : World) : Gr B S w w := ⟨rfl, rfl, rfl, Nat.le_refl _, fun _ _ _ => rfl⟩
theorem Gr.trans (h : Gr B S w w') (g : Gr B S w' w'') : Gr B S w w'' :=
  ⟨g.os.trans h.os, g.tape.trans h.tape, g.output.trans h.output, Nat.le_trans h.size g.size, fun k hk hn => (g.block k hk hn).trans (h.block k hk hn)⟩
theorem Gr.mono (h : Gr B S w w') (hc : C ≤ B) (hs : ∀ k, k ∈ S → k ∈ T ∨ C ≤ k) : Gr C T w w' :=
  ⟨h.os, h.tape, h.output, h.size, fun k hk hn => h.block k (by omega) (fun e => (hs k e).elim hn (by omega))⟩
theorem Gr.of (h : Fr T w w') (hB : B ≤ w.heap.size) (hs : ∀ k, k ∈ T → k ∈ S ∨ B ≤ k) : Gr B S w w' :=
  ⟨h.os, h.tape, h.output, h.size, fun k hk hn => h.block k (by omega) (fun e => (hs k e).elim hn (by omega))⟩
theorem Gr.fr (h : Gr w.heap.size S w w') : Fr S w w' := ⟨h.os, h.tape, h.output, h.size, h.block⟩
theorem Gr.grown {row : Option Nat} (h : Gr B S w w') (hg : w'.grownBy w'' row) (hB : B ≤ w'.heap.size) (hr : ∀ k, row = some k → k ∈ S ∨ B ≤ k) : Gr B S w w'' :=
  h.trans ⟨hg.os, hg.tape, hg.output, hg.size, fun k hk hn => hg.block k (by omega) (fun e => by have := hr k e.symm; rcases this with h1 | h1; exact hn h1; omega)⟩
theorem Gr.drewN (h : Gr B S w w') (n : Nat) : Gr B S w (w'.drewN n) := ⟨h.os, h.tape, h.output, h.size, h.block⟩
theorem Gr.drew (h : Gr B S w w') : Gr B S w w'.drew := ⟨h.os, h.tape, h.output, h.size, h.block⟩
theorem Gr.alloc (h : Gr B S w w') (hB : B ≤ w'.heap.size) (o : Obj) : Gr B S w (w'.alloc o) :=
  h.trans ⟨rfl, rfl, rfl, by simp, fun k hk _ => Below.heap_alloc _ _ _ (by omega)⟩
theorem Gr.setCell (h : Gr B S w w') {p : Addr} (hp : p.block ∈ S ∨ B ≤ p.block) (u : Value) : Gr B S w (w'.setCell p u) :=
  h.trans ⟨rfl, rfl, rfl, by simp [World.setCell], fun k hk hn => Below.heap_setCell _ _ _ _ (by rcases hp with hp | hp; exact fun e => hn (e ▸ hp); omega)⟩
theorem Gr.blk (h : Gr B S w w') {k : Nat} {o : Obj} (hb : w.heap[k]? = some o) (hk : k < B) (hn : k ∉ S) : w'.heap[k]? = some o := (h.block k hk hn).trans hb
theorem Gr.cell (h : Gr B S w w') {p : Addr} {v : Value} (hc : w.cell? p = some v) (hk : p.block < B) (hn : p.block ∉ S) : w'.cell? p = some v :=
  (World.cell?_of_block (w := w) (h.block p.block hk hn)).trans hc
theorem Gr.rd (h : Gr B S w w') {b o : Nat} {xs : List UInt8} (hr : Rd w b o xs) (hk : b < B) (hn : b ∉ S) : Rd w' b o xs := fun j hj => h.cell (hr j hj) hk hn
end

/-- A row of bytes of one's own. -/
def Row (w : World) (B : Nat) (v : Value) (bs : List UInt8) : Prop := w.ownsRow B 5 1 v bs.length (enc bs)
theorem Row.nil (w : World) (B : Nat) : Row w B (.slice none 0 0) [] := World.ownsRow_nil _ _ _ _
theorem Row.kept {w w' : World} {B : Nat} {v : Value} {bs : List UInt8} {row : Option Nat} (h : Row w B v bs) (hg : w.grownBy w' row) (hne : v.ownBlock = none ∨ v.ownBlock ≠ row) : Row w' B v bs := World.ownsRow.kept h hg hne
theorem Row.fr {w w' : World} {B : Nat} {v : Value} {bs : List UInt8} {S : List Nat} (h : Row w B v bs) (hf : Fr S w w') (hs : ∀ k, k ∈ S → k < B) : Row w' B v bs :=
  hf.own h (fun k hk hm => by have := (World.ownsRow.lt h k hk).1; have := hs k hm; omega)
theorem strCells_mk (s : List UInt8) : Lib.strCells ⟨s.toArray⟩ = enc s := by simp [Lib.strCells, enc]
theorem size_mk (s : List UInt8) : (⟨s.toArray⟩ : ByteArray).size = s.length := by simp [ByteArray.size]
theorem enc_one (s : List UInt8) : ∀ u ∈ enc s, u.oneCell' = true := by
  intro u hu
  simp only [enc, List.mem_map] at hu
  obtain ⟨b, _, rfl⟩ := hu
  rfl

section
variable {w : World} {ops : Array Oper} {rest : List Oper} {o : Oper} {a : Act} {Q : Exit → Act → World → Prop}
/-- append(b, s...). -/
theorem wpList_apStr (hgd : o.guard = none) (x y : Operand) (ho : o.op = .call { callee := .builtin .append, args := #[x, y], argTypes := #[59, 9] })
    {B : Nat} (v : Value) (bs s : List UInt8) (hs : a.eval x = v) (hx : a.eval y = .string ⟨s.toArray⟩) (hown : Row w B v bs) (hB : B ≤ w.heap.size) (hl : bs.length + s.length ≤ 140737488355328)
    (h : ∀ v' w', Row w' B v' (bs ++ s) → w.grownBy w' v.ownBlock → wpList Tryz.prog ops Q rest (a.put o.dst v') w') : wpList Tryz.prog ops Q (o :: rest) a w := by
  have hinfo : (Tryz.prog.info? 5).map (fun i => (i.zero, i.size, i.bytes)) = some (some (.int .u8 0), 1, 1) := by kernel_rfl
  obtain ⟨i0, hi, hzz⟩ := Option.map_eq_some_iff.1 hinfo
  simp only [Prod.mk.injEq] at hzz
  obtain ⟨hz0, hz1, hz2⟩ := hzz
  refine Lib.wpList_append_own_string w hgd x y 59 9 ho B 5 i0 Tryz.underlying59 Tryz.underlying9 hi hz0 hz1 hz2 v bs.length (enc bs) hs hown ⟨s.toArray⟩ hx (by rw [size_mk]; simp only [maxLen]; omega) (by rw [size_mk]; omega) hB ?_
  intro v' w' h1 h2 _
  rw [size_mk, strCells_mk, ← enc_append, ← List.length_append] at h1
  exact h v' w' h1 h2
/-- append(b, c...). -/
theorem wpList_apRow (hgd : o.guard = none) (x y : Operand) (ho : o.op = .call { callee := .builtin .append, args := #[x, y], argTypes := #[59, 59] })
    {B : Nat} (v : Value) (bs s : List UInt8) (b off c : Nat) (hs : a.eval x = v) (hx : a.eval y = .slice (some ⟨b, off, none⟩) s.length c) (hr : Rd w b off s) (hown : Row w B v bs) (hB : B ≤ w.heap.size) (hl : bs.length + s.length ≤ 140737488355328)
    (h : ∀ v' w', Row w' B v' (bs ++ s) → w.grownBy w' v.ownBlock → wpList Tryz.prog ops Q rest (a.put o.dst v') w') : wpList Tryz.prog ops Q (o :: rest) a w := by
  have hinfo : (Tryz.prog.info? 5).map (fun i => (i.zero, i.size, i.bytes)) = some (some (.int .u8 0), 1, 1) := by kernel_rfl
  obtain ⟨i0, hi, hzz⟩ := Option.map_eq_some_iff.1 hinfo
  simp only [Prod.mk.injEq] at hzz
  obtain ⟨hz0, hz1, hz2⟩ := hzz
  refine wpList_append_own (w := w) hgd x y 59 ho B 5 i0 (.int .u8 0) 1 1 Tryz.underlying59 hi hz0 hz1 hz2 rfl (by decide) v bs.length (enc bs) hs hown ⟨b, off, none⟩ s.length c (enc s) hx (by rw [enc_length, Nat.mul_one]) hr.cells (enc_one s) (by simp only [maxLen]; omega) (by omega) hB ?_
  intro v' w' h1 h2 _
  rw [← enc_append, ← List.length_append] at h1
  exact h v' w' h1 h2
end

/-- The buffer: its block, and its row. -/
def Buf (w : World) (B wb : Nat) (bs : List UInt8) : Prop := ∃ v, w.heap[wb]? = some (.cells #[v] 194 (0, 0)) ∧ Row w B v bs
theorem Row.shape {w : World} {B : Nat} {v : Value} {bs : List UInt8} (h : Row w B v bs) : ∃ ao n c, v = .slice ao n c := by
  rcases h.2 with ⟨hv, _⟩ | ⟨g, cap, cur, hv, _⟩
  · exact ⟨_, _, _, hv⟩
  · exact ⟨_, _, _, hv⟩
theorem Row.ne {w : World} {B : Nat} {v : Value} {bs : List UInt8} (h : Row w B v bs) {k : Nat} (hk : k < B) : some k ≠ v.ownBlock := fun e => by have := (World.ownsRow.lt h k e.symm).1; omega
theorem Row.old {w w' : World} {B : Nat} {v : Value} {bs : List UInt8} (h : Row w B v bs) (k : Nat) (hk : v.ownBlock = some k) : k ∈ ([] : List Nat) ∨ B ≤ k := .inr (World.ownsRow.lt h k hk).1

section
variable {w : World} {B wb : Nat} {bs : List UInt8}
/-- Behind an append and the store of its value. -/
theorem buf_stored {w w' : World} {B wb : Nat} {v v' : Value} {bs bs' : List UInt8} (hb : w.heap[wb]? = some (.cells #[v] 194 (0, 0))) (hr : Row w B v bs) (hr' : Row w' B v' bs') (hg : w.grownBy w' v.ownBlock) (hwb : wb < B) (hB : B ≤ w.heap.size) :
    Buf (w'.setCell ⟨wb, 0, none⟩ v') B wb bs' ∧ Gr B [wb] w (w'.setCell ⟨wb, 0, none⟩ v') := by
  have hb' : w'.heap[wb]? = some (.cells #[v] 194 (0, 0)) := (hg.block wb (blk_lt' hb) (hr.ne hwb)).trans hb
  refine ⟨⟨v', by rw [blk_setCell hb' 0 v']; rfl, hr'.fr ((Fr.refl [wb] w').setCell (by simp) _) (by simpa using hwb)⟩, ((Gr.refl B [wb] w).grown hg hB (fun k hk => .inr (World.ownsRow.lt hr k hk).1)).setCell (by simp) _⟩
theorem writeString (h : Buf w B wb bs) (hwb : wb < B) (hB : B ≤ w.heap.size) (s : List UInt8) (hl : bs.length + s.length ≤ 140737488355328) :
    Calls Tryz.prog 104 #[.pointer (some ⟨wb, 0, none⟩), .string ⟨s.toArray⟩] w fun e w' => (∃ u, e = .returned u) ∧ Buf w' B wb (bs ++ s) ∧ Gr B [wb] w w' := by
  obtain ⟨v, hb, hr⟩ := h
  have c0 : w.cell? ⟨wb, 0, none⟩ = some v := cell_blk hb 0
  obtain ⟨ao, n, c, rfl⟩ := hr.shape
  go_enter Tryz.func104, Tryz.ntmps104
  go_wp2_with (at_builtin; refine wpList_apStr rfl _ _ rfl (B := B) _ bs s rfl rfl hr hB hl ?_)
  intro v' w' hr' hg
  have hb' : w'.heap[wb]? = some (.cells #[.slice ao n c] 194 (0, 0)) := (hg.block wb (blk_lt' hb) (hr.ne hwb)).trans hb
  have c0' : w'.cell? ⟨wb, 0, none⟩ = some (.slice ao n c) := cell_blk hb' 0
  have f0' : w'.frozen? ⟨wb, 0, none⟩ = false := frozen_blk hb' 0
  obtain ⟨ao', n', c', rfl⟩ := hr'.shape
  go_wp2
  go_ret2
  exact ⟨⟨_, rfl⟩, buf_stored hb hr hr' hg hwb hB⟩
theorem write (h : Buf w B wb bs) (hwb : wb < B) (hB : B ≤ w.heap.size) (s : List UInt8) (b off cap : Nat) (hrd : Rd w b off s) (hl : bs.length + s.length ≤ 140737488355328) :
    Calls Tryz.prog 171 #[.pointer (some ⟨wb, 0, none⟩), .slice (some ⟨b, off, none⟩) s.length cap] w fun e w' => (∃ u, e = .returned u) ∧ Buf w' B wb (bs ++ s) ∧ Gr B [wb] w w' := by
  obtain ⟨v, hb, hr⟩ := h
  have c0 : w.cell? ⟨wb, 0, none⟩ = some v := cell_blk hb 0
  obtain ⟨ao, n, c, rfl⟩ := hr.shape
  go_enter Tryz.func171, Tryz.ntmps171
  go_wp2_with (at_builtin; refine wpList_apRow rfl _ _ rfl (B := B) _ bs s b off cap rfl rfl hrd hr hB hl ?_)
  intro v' w' hr' hg
  have hb' : w'.heap[wb]? = some (.cells #[.slice ao n c] 194 (0, 0)) := (hg.block wb (blk_lt' hb) (hr.ne hwb)).trans hb
  have c0' : w'.cell? ⟨wb, 0, none⟩ = some (.slice ao n c) := cell_blk hb' 0
  have f0' : w'.frozen? ⟨wb, 0, none⟩ = false := frozen_blk hb' 0
  obtain ⟨ao', n', c', rfl⟩ := hr'.shape
  go_wp2
  go_ret2
  exact ⟨⟨_, rfl⟩, buf_stored hb hr hr' hg hwb hB⟩
theorem writeByte (h : Buf w B wb bs) (hwb : wb < B) (hB : B ≤ w.heap.size) (s : UInt8) (hl : bs.length < 140737488355328) :
    Calls Tryz.prog 119 #[.pointer (some ⟨wb, 0, none⟩), .int .u8 (s.toNat : Int)] w fun e w' => e = .returned .nilIface ∧ Buf w' B wb (bs ++ [s]) ∧ Gr B [wb] w w' := by
  obtain ⟨v, hb, hr⟩ := h
  have c0 : w.cell? ⟨wb, 0, none⟩ = some v := cell_blk hb 0
  obtain ⟨ao, n, c, rfl⟩ := hr.shape
  go_enter Tryz.func119, Tryz.ntmps119
  have hr1 : Row (w.alloc (.cells #[.int .u8 (s.toNat : Int)] 5)) B (.slice ao n c) bs := World.ownsRow.alloc hr _
  have hb1 : (w.alloc (.cells #[.int .u8 (s.toNat : Int)] 5)).heap[wb]? = some (.cells #[.slice ao n c] 194 (0, 0)) := blk_alloc hb _
  have hrd : Rd (w.alloc (.cells #[.int .u8 (s.toNat : Int)] 5)) w.heap.size 0 [s] := fun j hj => by
    have hj0 : j = 0 := by simpa using hj
    subst hj0
    exact cell_blk (blk_new w _) 0
  have hB1 : B ≤ (w.alloc (.cells #[.int .u8 (s.toNat : Int)] 5)).heap.size := by simp; omega
  have g1 : Gr B [wb] w (w.alloc (.cells #[.int .u8 (s.toNat : Int)] 5)) := (Gr.refl _ _ _).alloc hB _
  replace hB1 := Lib.hid hB1
  go_wp2_with (at_builtin; refine wpList_apRow rfl _ _ rfl (B := B) _ bs [s] w.heap.size 0 1 rfl rfl hrd hr1 hB1.out (by simp; omega) ?_)
  intro v' w' hr' hg
  have hb' : w'.heap[wb]? = some (.cells #[.slice ao n c] 194 (0, 0)) := (hg.block wb (blk_lt' hb1) (hr.ne hwb)).trans hb1
  have c0' : w'.cell? ⟨wb, 0, none⟩ = some (.slice ao n c) := cell_blk hb' 0
  have f0' : w'.frozen? ⟨wb, 0, none⟩ = false := frozen_blk hb' 0
  obtain ⟨ao', n', c', rfl⟩ := hr'.shape
  go_wp2
  go_ret
  exact ⟨rfl, (buf_stored hb1 hr1 hr' hg hwb hB1.out).1, g1.trans (buf_stored hb1 hr1 hr' hg hwb hB1.out).2⟩
theorem string (h : Buf w B wb bs) :
    Calls Tryz.prog 106 #[.pointer (some ⟨wb, 0, none⟩)] w fun e w' => e = .returned (.string ⟨bs.toArray⟩) ∧ w' = w := by
  obtain ⟨v, hb, hr⟩ := h
  have c0 : w.cell? ⟨wb, 0, none⟩ = some v := cell_blk hb 0
  rcases hr.2 with ⟨rfl, hn⟩ | ⟨g, cap, cur, rfl, hg, hh, hr3⟩
  · have hbs : bs = [] := List.eq_nil_of_length_eq_zero hn
    subst hbs
    have ht : (convert 59 9 (.slice none 0 0)).run Tryz.prog w = .ok (.string ⟨#[]⟩) w := Lib.run_convert_nil_bytes w 59 9 5 0 Tryz.underlying59 Tryz.underlying5 Tryz.underlying9
    go_enter Tryz.func106, Tryz.ntmps106
    go_wp2
    go_ret
    exact ⟨rfl, rfl⟩
  · have ht : (convert 59 9 (.slice (some ⟨g, 0, none⟩) bs.length cap)).run Tryz.prog w = .ok (.string ⟨bs.toArray⟩) w := toStr (Rd.of_own hr) cap
    go_enter Tryz.func106, Tryz.ntmps106
    go_wp2
    go_ret
    exact ⟨rfl, rfl⟩
end
end Go.Proofs.YteodinhkhhaafaaGreatDoor
