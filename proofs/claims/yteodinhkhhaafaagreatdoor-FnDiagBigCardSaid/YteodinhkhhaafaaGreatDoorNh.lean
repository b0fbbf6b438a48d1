/- Decimal digits as the spec has them: plain, rows of ints, the walk of the step. The walk of the step of DecimalBytes. The walk of DecimalBytes. The item of diagnose: the tags 2 and 3. What Diag says of bignums; the walk of FnDiagBig. -/
import Derived.Test.YteodinhkhhaafaaGreatDoorKi
import Derived.Deep.OwnRows
import Derived.Test.YteodinhkhhaafaaGreatDoorNa
import Derived.Test.YteodinhkhhaafaaGreatDoorKh
import Derived.Test.YteodinhkhhaafaaGreatDoorKk
set_option linter.unusedVariables false
set_option linter.unusedSimpArgs false
namespace Go.Proofs.YteodinhkhhaafaaGreatDoor
section
open Go.RowKit

/-- The digits of a number, the lowest first; none of 0. -/
def pushL (p : Nat) : List Nat := if h : p = 0 then [] else p % 10 :: pushL (p / 10)
termination_by p
decreasing_by omega
theorem pushL_zero : pushL 0 = [] := by rw [pushL]; simp
theorem pushL_pos {p : Nat} (h : p ≠ 0) : pushL p = p % 10 :: pushL (p / 10) := by rw [pushL]; simp [h]
/-- Digits times a number, plus a number. -/
def stepL (by_ : Nat) : List Nat → Nat → List Nat
  | [], p => pushL p
  | d :: l, p => (d * by_ + p) % 10 :: stepL by_ l ((d * by_ + p) / 10)
/-- The number of digits, the lowest first. -/
def nvL : List Nat → Nat
  | [] => 0
  | d :: l => d + 10 * nvL l
theorem nvL_push : ∀ (k p : Nat), p ≤ k → nvL (pushL p) = p := by
  intro k
  induction k with
  | zero => intro p h; obtain rfl : p = 0 := by omega
            rw [pushL_zero]; rfl
  | succ k ih =>
    intro p h
    by_cases h0 : p = 0
    · subst h0; rw [pushL_zero]; rfl
    · rw [pushL_pos h0, nvL, ih (p / 10) (by omega)]; omega
theorem nvL_step (b : Nat) : ∀ (l : List Nat) (p : Nat), nvL (stepL b l p) = nvL l * b + p
  | [], p => by rw [stepL, nvL_push p p (Nat.le_refl _), nvL]; omega
  | d :: l, p => by
    rw [stepL, nvL, nvL_step b l, nvL, Nat.add_mul, Nat.mul_assoc]
    generalize nvL l * b = x
    generalize d * b = y
    omega
/-- Digits; the last one is not 0, or there is 0 alone. -/
def OkL (l : List Nat) : Prop := (∀ x, x ∈ l → x < 10) ∧ (l = [0] ∨ ∃ m d, l = m ++ [d] ∧ d ≠ 0)
theorem push_ok : ∀ (k p : Nat), p ≤ k → p ≠ 0 → OkL (pushL p) := by
  intro k
  induction k with
  | zero => intro p h h0; omega
  | succ k ih =>
    intro p h h0
    rw [pushL_pos h0]
    by_cases h1 : p / 10 = 0
    · rw [h1, pushL_zero]
      exact ⟨by simp; omega, .inr ⟨[], p % 10, rfl, by omega⟩⟩
    · obtain ⟨a, b⟩ := ih (p / 10) (by omega) h1
      refine ⟨fun x hx => ?_, .inr ?_⟩
      · rcases List.mem_cons.1 hx with rfl | hx
        · omega
        · exact a x hx
      · rcases b with b | ⟨m, d, b, hd⟩
        · exfalso
          have := nvL_push (p / 10) (p / 10) (Nat.le_refl _)
          rw [b] at this
          simp [nvL] at this
          omega
        · exact ⟨p % 10 :: m, d, by rw [b]; rfl, hd⟩
theorem step_ok {b : Nat} (hb : 0 < b) : ∀ (l : List Nat) (p : Nat), (∀ x, x ∈ l → x < 10) → (l ≠ [] → ∃ m d, l = m ++ [d] ∧ (d ≠ 0 ∨ p ≠ 0 ∧ m = [])) → (l = [] → p ≠ 0) → OkL (stepL b l p)
  | [], p, _, _, h => by rw [stepL]; exact push_ok p p (Nat.le_refl _) (h rfl)
  | d :: l, p, hl, ht, _ => by
    rw [stepL]
    have hnext : stepL b l ((d * b + p) / 10) = [] ∧ (d * b + p) % 10 ≠ 0 ∧ l = [] ∨ OkL (stepL b l ((d * b + p) / 10)) := by
      cases l with
      | nil =>
        obtain ⟨m, x, e, hx⟩ := ht (by simp)
        have hdp : d * b + p ≠ 0 := by
          cases m with
          | nil =>
            simp at e
            subst e
            rcases hx with hx | ⟨hx, _⟩
            · have := Nat.mul_pos (Nat.pos_of_ne_zero hx) hb; omega
            · omega
          | cons y m => simp at e
        by_cases h0 : (d * b + p) / 10 = 0
        · refine .inl ⟨by rw [h0, stepL, pushL_zero], by omega, rfl⟩
        · refine .inr ?_
          rw [stepL]
          exact push_ok _ _ (Nat.le_refl _) h0
      | cons y l =>
        refine .inr (step_ok hb (y :: l) _ (fun x hx => hl x (by simp [hx])) (fun _ => ?_) (by simp))
        obtain ⟨m, x, e, hx⟩ := ht (by simp)
        cases m with
        | nil => simp at e
        | cons z m =>
          simp only [List.cons_append, List.cons.injEq] at e
          rcases hx with hx | ⟨_, hx⟩
          · exact ⟨m, x, e.2, .inl hx⟩
          · cases hx
    rcases hnext with ⟨h1, h2, h3⟩ | ⟨h1, h2⟩
    · rw [h1]
      exact ⟨by simp; omega, .inr ⟨[], _, rfl, h2⟩⟩
    · refine ⟨fun x hx => ?_, .inr ?_⟩
      · rcases List.mem_cons.1 hx with rfl | hx
        · omega
        · exact h1 x hx
      · rcases h2 with h2 | ⟨m, x, h2, hx⟩
        · exfalso
          cases l with
          | nil =>
            rw [stepL] at h2
            have h4 : (d * b + p) / 10 = 0 := by
              have := nvL_push _ ((d * b + p) / 10) (Nat.le_refl _)
              rw [h2] at this
              simp [nvL] at this
              omega
            rw [h4, pushL_zero] at h2
            cases h2
          | cons y l =>
            obtain ⟨m, x, e, hx⟩ := ht (by simp)
            cases m with
            | nil => simp at e
            | cons z m =>
              simp only [List.cons_append, List.cons.injEq] at e
              have hx0 : x ≠ 0 := by
                rcases hx with hx | ⟨_, hx⟩
                · exact hx
                · cases hx
              have h5 := nvL_step b (y :: l) ((d * b + p) / 10)
              rw [h2, e.2] at h5
              have h6 : ∀ m : List Nat, 0 < nvL (m ++ [x]) := by
                intro m
                induction m with
                | nil => simp [nvL]; omega
                | cons a m ih => rw [List.cons_append, nvL]; omega
              have := Nat.mul_pos (h6 m) hb
              simp [nvL] at h5
              omega
        · exact ⟨_ :: m, x, by rw [h2]; rfl, hx⟩
/-- The text of digits, the highest first. -/
theorem okL_dec : ∀ (l : List Nat), OkL l → dec (nvL l) = (l.reverse.map fun d => (48 + d).toUInt8)
  | [], h => by
    rcases h.2 with h | ⟨m, d, h, _⟩
    · cases h
    · cases m <;> cases h
  | [d], h => by
    have := h.1 d (by simp)
    rw [nvL, nvL, dec_lt _ (by omega)]
    simp
  | d :: e :: l, h => by
    have hd := h.1 d (by simp)
    have ho : OkL (e :: l) := by
      refine ⟨fun x hx => h.1 x (by simp [List.mem_cons.1 hx]), .inr ?_⟩
      rcases h.2 with h2 | ⟨m, x, h2, hx⟩
      · cases h2
      · cases m with
        | nil => cases h2
        | cons y m =>
          simp only [List.cons_append, List.cons.injEq] at h2
          exact ⟨m, x, h2.2, hx⟩
    have hp : 0 < nvL (e :: l) := by
      rcases ho.2 with h2 | ⟨m, x, h2, hx⟩
      · rcases h.2 with h3 | ⟨m, x, h3, hx⟩
        · cases h3
        · rw [h2] at h3
          cases m with
          | nil => cases h3
          | cons y m =>
            cases m with
            | nil => simp at h3; exact absurd h3.2.symm hx
            | cons z m => cases m <;> simp at h3
      · rw [h2]
        clear h2 ho
        induction m with
        | nil => simp [nvL]; omega
        | cons a m ih => rw [List.cons_append, nvL]; omega
    have ih := okL_dec (e :: l) ho
    rw [nvL, dec_ge _ (by omega), show (d + 10 * nvL (e :: l)) / 10 = nvL (e :: l) by omega, show (d + 10 * nvL (e :: l)) % 10 = d by omega, ih]
    simp
/-- A row of ints that is ours. -/
def IRow (w : World) (B : Nat) (v : Value) (ds : List Nat) : Prop := w.ownsRow B 3 1 v ds.length (ds.map fun (d : Nat) => Value.int .i64 (d : Int))
theorem IRow.fr {w w' : World} {B : Nat} {v : Value} {ds : List Nat} {S : List Nat} (h : IRow w B v ds) (hf : Fr S w w') (hs : ∀ k, k ∈ S → k < B) : IRow w' B v ds :=
  hf.own h (fun k hk hm => by have := (World.ownsRow.lt h k hk).1; have := hs k hm; omega)
theorem IRow.push {w W : World} {B : Nat} {v : Value} {ds : List Nat} {o : Obj} (h : IRow w B v ds) (e : W.heap = w.heap.push o) : IRow W B v ds := by
  obtain ⟨h1, h2⟩ := h
  refine ⟨h1, ?_⟩
  rcases h2 with h2 | ⟨g, cap, cur, rfl, hg, hh, r⟩
  · exact .inl h2
  · exact .inr ⟨g, cap, cur, rfl, hg, by rw [e]; exact (Below.heap_alloc w o g (blk_lt' hh)).trans hh, r⟩
/-- One number of a row is set anew. -/
theorem IRow.put {w : World} {B : Nat} {v : Value} {ds : List Nat} (h : IRow w B v ds) (i : Nat) (hi : i < ds.length) :
    ∃ g c, v = .slice (some ⟨g, 0, none⟩) ds.length c ∧ B ≤ g ∧ w.cell? ⟨g, i, none⟩ = some (.int .i64 (ds[i] : Int)) ∧ w.frozen? ⟨g, i, none⟩ = false ∧ ∀ x : Nat, IRow (w.setCell ⟨g, i, none⟩ (.int .i64 (x : Int))) B v (ds.set i x) := by
  have h1 := h.1
  rcases h.2 with ⟨hv, h0⟩ | ⟨g, cap, cur, hv, hg, hh, hc, hm, hs, ht⟩
  · omega
  · subst hv
    rw [Nat.mul_one] at hs ht
    refine ⟨g, cap, rfl, hg, ?_, frozen_blk hh _, fun x => ?_⟩
    · have := World.ownsRow.cells h (g := g) rfl i (.int .i64 (ds[i] : Int)) (by simp [hi])
      have ha : (⟨g, 0, none⟩ : Addr).add i = ⟨g, 0 + i, none⟩ := by unfold Addr.add; split <;> simp_all
      rw [ha, Nat.zero_add] at this
      exact this
    · refine ⟨by simp, .inr ⟨g, cap, _, by simp, hg, blk_setCell hh i _, by simpa using hc, hm, by simpa using hs, ?_⟩⟩
      rw [List.length_set, Nat.mul_one, Array.toList_setIfInBounds, List.take_set, ht, List.map_set]
/-- append(v, x). -/
theorem wpList_apInt {w : World} {ops : Array Oper} {rest : List Oper} {o : Oper} {a : Act} {Q : Exit → Act → World → Prop} (hgd : o.guard = none) (x y : Operand) (ho : o.op = .call { callee := .builtin .append, args := #[x, y], argTypes := #[38, 38] })
    {B : Nat} (v : Value) (ds : List Nat) (d b c : Nat) (hs : a.eval x = v) (hx : a.eval y = .slice (some ⟨b, 0, none⟩) 1 c) (hr : w.cell? ⟨b, 0, none⟩ = some (.int .i64 (d : Int))) (hown : IRow w B v ds) (hB : B ≤ w.heap.size) (hl : ds.length + 1 ≤ 1000000)
    (h : ∀ v' w', IRow w' B v' (ds ++ [d]) → w.grownBy w' v.ownBlock → wpList Tryz.prog ops Q rest (a.put o.dst v') w') : wpList Tryz.prog ops Q (o :: rest) a w := by
  have hinfo : (Tryz.prog.info? 3).map (fun i => (i.zero, i.size, i.bytes)) = some (some (.int .i64 0), 1, 8) := by kernel_rfl
  obtain ⟨i0, hi, hzz⟩ := Option.map_eq_some_iff.1 hinfo
  simp only [Prod.mk.injEq] at hzz
  obtain ⟨hz0, hz1, hz2⟩ := hzz
  refine wpList_append_own (w := w) hgd x y 38 ho B 3 i0 (.int .i64 0) 1 8 Tryz.underlying38 hi hz0 hz1 hz2 rfl (by decide) v ds.length (ds.map fun (d : Nat) => Value.int .i64 (d : Int)) hs hown ⟨b, 0, none⟩ 1 c [.int .i64 (d : Int)] hx (by simp) (fun j u hu => ?_) (by simp [Value.oneCell']) (by simp only [maxLen]; omega) (by omega) hB ?_
  · cases j with
    | zero =>
      simp at hu
      subst hu
      have ha : (⟨b, 0, none⟩ : Addr).add 0 = ⟨b, 0, none⟩ := by unfold Addr.add; simp
      rw [ha]
      exact hr
    | succ j => simp at hu
  · intro v' w' h1 h2 _
    have h1' : IRow w' B v' (ds ++ [d]) := by
      unfold IRow
      rw [List.length_append, List.map_append]
      exact h1
    exact h v' w' h1' h2
end
section
open Go.RowKit

/-- The variable that holds the digits. -/
def DBox (w : World) (B bx : Nat) (ds : List Nat) : Prop := ∃ v, w.heap[bx]? = some (.cells #[v] 38 (0, 0)) ∧ IRow w B v ds ∧ B ≤ w.heap.size
theorem IRow.ne38 {w : World} {B bx : Nat} {v : Value} {ds : List Nat} {cs : Array Value} (h : IRow w B v ds) (hb : w.heap[bx]? = some (.cells cs 38 (0, 0))) : v.ownBlock ≠ some bx := by
  intro e
  rcases h.2 with ⟨hv, _⟩ | ⟨g, cap, cur, rfl, _, hh, _⟩
  · rw [hv] at e; cases e
  · simp only [Value.ownBlock, Option.some.injEq] at e
    subst e
    rw [hh] at hb
    injection hb with hb
    injection hb with _ h5 _
    exact absurd h5 (by decide)
set_option maxRecDepth 100000 in
set_option maxHeartbeats 1600000 in
theorem decStep {w : World} {B bx : Nat} {ds : List Nat} (h : DBox w B bx ds) (by_ p : Nat) (hby : by_ ≤ 256) (hp : p ≤ 300) (hd : ∀ x, x ∈ ds → x < 10) (hl : ds.length ≤ 100000) :
    Calls Tryz.prog 70 #[.int .i64 (by_ : Int), .int .i64 (p : Int), .pointer (some ⟨bx, 0, none⟩)] w fun e w' => ∃ u, e = .returned u ∧ DBox w' B bx (stepL by_ ds p) ∧ Gr B [bx] w w' := by
  obtain ⟨v, hb, hr, hB⟩ := h
  have c0 := cell_blk hb 0
  simp only [List.getElem?_toArray, List.getElem?_cons_zero] at c0
  obtain ⟨ao, n, c, rfl⟩ : ∃ ao n c, v = .slice ao n c := by
    rcases hr.2 with ⟨hv, _⟩ | ⟨g, cap, cur, hv, _⟩
    · exact ⟨_, _, _, hv⟩
    · exact ⟨_, _, _, hv⟩
  go_enter Tryz.func70, Tryz.ntmps70
  go_wp2
  have hn : n = ds.length := by
    rcases hr.2 with ⟨hv, h0⟩ | ⟨g, cap, cur, hv, _⟩
    · injection hv with _ e _; omega
    · injection hv
  subst hn
  go_loopg [1, 8] ds.length (fun gk v1 v8 wr => ∃ (A L : List Nat) (q : Nat), v1 = .int .i64 (q : Int) ∧ v8 = .int .i64 (A.length : Int) ∧ A.length + L.length = ds.length ∧ L.length = gk ∧ q ≤ 300 ∧ Hid (∀ x, x ∈ L → x < 10) ∧ Hid (stepL by_ ds p = A ++ stepL by_ L q) ∧ Hid (wr.heap[bx]? = some (.cells #[.slice ao ds.length c] 38 (0, 0))) ∧ Hid (IRow wr B (.slice ao ds.length c) (A ++ L)) ∧ Hid (Gr B [bx] w wr))
  case atStart => exact ⟨[], ds, p, rfl, by go_num, by simp, rfl, hp, Lib.hid hd, Lib.hid rfl, Lib.hid hb, Lib.hid hr, Lib.hid (Gr.refl _ _ _)⟩
  case round =>
    obtain ⟨A, L, q, rfl, rfl, hAL, hLg, hq, hL, hst, hbk, hro, hG⟩ := hrel
    have cb := cell_blk hbk.out 0
    have fb := frozen_blk hbk.out 0
    simp only [List.getElem?_toArray, List.getElem?_cons_zero] at cb
    cases L with
    | nil =>
      simp at hLg
      subst hLg
      have t0 : ¬ (A.length : Int) < (ds.length : Int) := by simp at hAL; omega
      have hst2 : Hid (stepL by_ ds p = A ++ pushL q) := Lib.hid (by have := hst.out; rw [stepL] at this; exact this)
      have hro2 : Hid (IRow wr B (.slice ao ds.length c) A) := Lib.hid (by have := hro.out; rw [List.append_nil] at this; exact this)
      have hAl : A.length ≤ 100000 := by simp at hAL; omega
      go_wp2
      go_loopg [1] q (fun gk v1 wr => v1 = .int .i64 (gk : Int) ∧ ∃ (A : List Nat) (v : Value), A.length + gk ≤ 100300 ∧ Hid (stepL by_ ds p = A ++ pushL gk) ∧ Hid (wr.heap[bx]? = some (.cells #[v] 38 (0, 0))) ∧ Hid (IRow wr B v A) ∧ B ≤ wr.heap.size ∧ Hid (Gr B [bx] w wr))
      case atStart => exact ⟨rfl, A, _, by omega, hst2, hbk, hro2, Nat.le_trans hB hG.out.size, hG⟩
      case round =>
        obtain ⟨rfl, A, v, hA, hst, hbk, hro, hBw, hG⟩ := hrel
        have cb := cell_blk hbk.out 0
        have fb := frozen_blk hbk.out 0
        simp only [List.getElem?_toArray, List.getElem?_cons_zero] at cb
        by_cases hg0 : gk = 0
        · subst hg0
          have hend : DBox wr B bx (stepL by_ ds p) := by
            rw [hst.out, pushL_zero, List.append_nil]
            exact ⟨v, hbk.out, hro.out, hBw⟩
          go_wp2
          go_end0
          exact ⟨_, rfl, hend, hG.out⟩
        · have t0 : (0 : Int) < (gk : Int) := by omega
          have hst3 : Hid (stepL by_ ds p = (A ++ [gk % 10]) ++ pushL (gk / 10)) := Lib.hid (by have := hst.out; rw [pushL_pos hg0] at this; rw [this]; simp)
          obtain ⟨r, hr0⟩ : ∃ r, r = gk % 10 := ⟨_, rfl⟩
          obtain ⟨s, hs0⟩ : ∃ s, s = gk / 10 := ⟨_, rfl⟩
          rw [← hr0, ← hs0] at hst3
          have e1 : (gk : Int) % 10 = (r : Int) := by omega
          have e2 : (gk : Int).tmod 10 = (r : Int) := by rw [Int.tmod_eq_emod_of_nonneg (by omega)]; exact e1
          have e3 : (gk : Int) / 10 = (s : Int) := by omega
          have e4 : (gk : Int).tdiv 10 = (s : Int) := by rw [Int.tdiv_eq_ediv_of_nonneg (by omega)]; exact e3
          have hsl : s < gk := by omega
          have hsA : A.length + 1 + s ≤ 100300 := by omega
          replace hr0 := Lib.hid hr0
          replace hs0 := Lib.hid hs0
          clear hg0
          have hcell : Hid ((wr.alloc (.cells #[.int .i64 (r : Int)] 3 (0, 0))).cell? ⟨wr.heap.size, 0, none⟩ = some (.int .i64 (r : Int))) := Lib.hid (by rw [cell_blk (blk_new wr _)]; rfl)
          go_wp2_with (at_builtin; refine wpList_apInt rfl _ _ rfl (B := B) _ A r wr.heap.size 1 rfl rfl hcell.out (hro.out.push rfl) (by simp; omega) (by omega) ?_)
          intro v' w' hr' hg
          have hbn : some bx ≠ v.ownBlock := fun e => hro.out.ne38 hbk.out e.symm
          have hb3 : w'.heap[bx]? = some (.cells #[v] 38 (0, 0)) := (hg.block bx (by have := blk_lt' hbk.out; simp; omega) hbn).trans (blk_alloc hbk.out _)
          have hG3 : Gr B [bx] w w' := (hG.out.alloc hBw _).grown hg (by simp; omega) (fun k hk => .inr (World.ownsRow.lt hro.out k hk).1)
          have cb3 := cell_blk hb3 0
          have fb3 := frozen_blk hb3 0
          simp only [List.getElem?_toArray, List.getElem?_cons_zero] at cb3
          have hb4 : Hid ((w'.setCell ⟨bx, 0, none⟩ v').heap[bx]? = some (.cells #[v'] 38 (0, 0))) := Lib.hid (by rw [blk_setCell hb3 0 _]; rfl)
          have hr4 : Hid (IRow (w'.setCell ⟨bx, 0, none⟩ v') B v' (A ++ [r])) := Lib.hid (((Fr.refl [bx] w').setCell (p := ⟨bx, 0, none⟩) (.inl (by simp)) v').own hr' (fun k hk hm => by simp at hm; subst hm; exact hr'.ne38 hb3 hk))
          have hG4 : Hid (Gr B [bx] w (w'.setCell ⟨bx, 0, none⟩ v')) := Lib.hid (hG3.setCell (.inl (by simp)) _)
          have hBw4 : B ≤ (w'.setCell ⟨bx, 0, none⟩ v').heap.size := by have := hg.size; simp at this ⊢; omega
          obtain ⟨ao', n', c', rfl⟩ : ∃ ao n c, v' = .slice ao n c := by
            rcases hr'.2 with ⟨hv, _⟩ | ⟨g, cap, cur, hv, _⟩
            · exact ⟨_, _, _, hv⟩
            · exact ⟨_, _, _, hv⟩
          go_wp2
          go_roundg s
          case measure => omega
          case rel => exact ⟨by first | rfl | go_num, A ++ [r], _, by simp; omega, hst3, hb4, hr4, hBw4, hG4⟩
    | cons d L =>
      have hdl := hL.out d (by simp)
      have hL2 : Hid (∀ x, x ∈ L → x < 10) := Lib.hid (fun x hx => hL.out x (by simp [hx]))
      obtain ⟨k, rfl⟩ : ∃ k, gk = k + 1 := ⟨gk - 1, by simp at hLg; omega⟩
      have hLk : L.length = k := by simpa using hLg
      have hAL2 : A.length + 1 + L.length = ds.length := by simp at hAL; omega
      have t0 : (A.length : Int) < (ds.length : Int) := by omega
      obtain ⟨x1, hx1⟩ : ∃ x, x = d * by_ + q := ⟨_, rfl⟩
      obtain ⟨m1, hm1⟩ : ∃ m, m = d * by_ := ⟨_, rfl⟩
      have hm2 : m1 ≤ 9 * 256 := by rw [hm1]; exact Nat.mul_le_mul (by omega) hby
      have hst3 : Hid (stepL by_ ds p = (A ++ [x1 % 10]) ++ stepL by_ L (x1 / 10)) := Lib.hid (by have := hst.out; rw [stepL, ← hx1] at this; rw [this]; simp)
      rw [← hm1] at hx1
      obtain ⟨r, hr0⟩ : ∃ r, r = x1 % 10 := ⟨_, rfl⟩
      obtain ⟨s, hs0⟩ : ∃ s, s = x1 / 10 := ⟨_, rfl⟩
      rw [← hr0, ← hs0] at hst3
      have e0 : (d : Int) * (by_ : Int) = (m1 : Int) := by rw [hm1]; rfl
      have e1 : (x1 : Int) % 10 = (r : Int) := by omega
      have e2 : (x1 : Int).tmod 10 = (r : Int) := by rw [Int.tmod_eq_emod_of_nonneg (by omega)]; exact e1
      have e3 : (x1 : Int) / 10 = (s : Int) := by omega
      have e4 : (x1 : Int).tdiv 10 = (s : Int) := by rw [Int.tdiv_eq_ediv_of_nonneg (by omega)]; exact e3
      have e5 : IntKind.i64.wrap (m1 : Int) = (m1 : Int) := IntWalk.i64_in _ (by omega)
      have e6 : (m1 : Int) + (q : Int) = (x1 : Int) := by omega
      have e7 : IntKind.i64.wrap (x1 : Int) = (x1 : Int) := IntWalk.i64_in _ (by omega)
      have hsq : s ≤ 300 := by omega
      replace hr0 := Lib.hid hr0
      replace hs0 := Lib.hid hs0
      replace hx1 := Lib.hid hx1
      replace hm1 := Lib.hid hm1
      obtain ⟨g, c', hv, hBg, hci, hfi, hput⟩ := hro.out.put A.length (by simp)
      injection hv with e8 e9 e10
      subst e8 e10
      have hd0 : (A ++ d :: L)[A.length]'(by simp) = d := by simp
      rw [hd0] at hci
      have r1 := hput x1
      have hs1 : (A ++ d :: L).set A.length x1 = A ++ x1 :: L := by simp
      rw [hs1] at r1
      obtain ⟨g2, c2, hv2, _, hci2, hfi2, hput2⟩ := r1.put A.length (by simp)
      have hlen2 : (A ++ x1 :: L).length = ds.length := by simp; omega
      rw [hlen2] at hv2
      injection hv2 with f8 f9 f10
      injection f8 with f8
      injection f8 with f8 _ _
      subst f8 f10
      have r2 := hput2 r
      have hs2 : (A ++ x1 :: L).set A.length r = (A ++ [r]) ++ L := by simp
      rw [hs2] at r2
      replace r2 := Lib.hid r2
      clear hput hput2 hci2 hfi2 r1 hs1 hs2 hd0
      have hne : ¬ bx = g := fun e => hro.out.ne38 hbk.out (by rw [e]; rfl)
      have hne2 : ¬ g = bx := fun e => hne e.symm
      clear e9
      try clear f9
      replace hAL := Lib.hid hAL
      replace hAL2 := Lib.hid hAL2
      replace hlen2 := Lib.hid hlen2
      replace hLg := Lib.hid hLg
      replace hLk := Lib.hid hLk
      go_wp2
      go_region
      go_wp2
      go_region
      go_wp2
      go_roundg k
      case measure => omega
      case rel =>
        refine ⟨A ++ [r], L, s, by first | rfl | go_num, by first | go_num | (simp; done) | (congr 1; simp; omega), by have := hAL2.out; simp; omega, hLk.out, hsq, hL2, hst3, Lib.hid ?_, Lib.hid ?_, Lib.hid ?_⟩
        · show ((wr.setCell ⟨g, A.length, none⟩ (.int .i64 (x1 : Int))).setCell ⟨g, A.length, none⟩ (.int .i64 (r : Int))).heap[bx]? = _
          rw [Below.heap_setCell _ _ _ _ (by simpa using hne), Below.heap_setCell _ _ _ _ (by simpa using hne)]
          exact hbk.out
        · exact r2.out.fr (((Fr.refl [] _).drew).drew) (by simp)
        · exact ((hG.out.setCell (.inr hBg) _).drew.setCell (.inr hBg) _).drew
end
section
open Go.RowKit

/-- The digits of bytes, and of them and one more. -/
def bytesL (bs : List UInt8) : List Nat := bs.foldl (fun l b => stepL 256 l b.toNat) [0]
theorem bytesL_snoc (bs : List UInt8) (b : UInt8) : bytesL (bs ++ [b]) = stepL 256 (bytesL bs) b.toNat := by simp [bytesL]
theorem bytesL_val (bs : List UInt8) : nvL (bytesL bs) = be bs := by
  have h : ∀ (l : List UInt8) (a : List Nat) (n : Nat), nvL a = n → nvL (l.foldl (fun l b => stepL 256 l b.toNat) a) = l.foldl (fun a b => a * 256 + b.toNat) n := by
    intro l
    induction l with
    | nil => intro a n h; exact h
    | cons x l ih => intro a n h; rw [List.foldl_cons, List.foldl_cons]; exact ih _ _ (by rw [nvL_step, h])
  exact h bs [0] 0 rfl
theorem step_ok0 {b p : Nat} (hb : 0 < b) {l : List Nat} (h : OkL l) : OkL (stepL b l p) := by
  rcases h.2 with rfl | ⟨m, d, rfl, hd⟩
  · by_cases h0 : p = 0
    · subst h0
      have e : stepL b [0] 0 = [0] := by rw [stepL]; simp [stepL, pushL_zero]
      rw [e]
      exact ⟨by simp, .inl rfl⟩
    · exact step_ok hb [0] p h.1 (fun _ => ⟨[], 0, rfl, .inr ⟨h0, rfl⟩⟩) (by simp)
  · exact step_ok hb _ p h.1 (fun _ => ⟨m, d, rfl, .inl hd⟩) (by simp)
theorem bytesL_ok : ∀ bs : List UInt8, OkL (bytesL bs) := by
  have h : ∀ (l : List UInt8) (a : List Nat), OkL a → OkL (l.foldl (fun l b => stepL 256 l b.toNat) a) := by
    intro l
    induction l with
    | nil => intro a h; exact h
    | cons x l ih => intro a h; rw [List.foldl_cons]; exact ih _ (step_ok0 (by decide) h)
  intro bs
  exact h bs [0] ⟨by simp, .inl rfl⟩
theorem push_len : ∀ (k p : Nat), p ≤ k → (pushL p).length ≤ p := by
  intro k
  induction k with
  | zero => intro p h; obtain rfl : p = 0 := by omega
            rw [pushL_zero]; simp
  | succ k ih =>
    intro p h
    by_cases h0 : p = 0
    · subst h0; rw [pushL_zero]; simp
    · rw [pushL_pos h0, List.length_cons]; have := ih (p / 10) (by omega); omega
theorem step_len {b : Nat} (hb : b ≤ 256) : ∀ (l : List Nat) (p : Nat), (∀ x, x ∈ l → x < 10) → p ≤ 300 → (stepL b l p).length ≤ l.length + 300
  | [], p, _, hp => by rw [stepL]; have := push_len p p (Nat.le_refl _); simp; omega
  | d :: l, p, hl, hp => by
    rw [stepL, List.length_cons, List.length_cons]
    have hd := hl d (by simp)
    have hm : d * b ≤ 9 * 256 := Nat.mul_le_mul (by omega) hb
    have := step_len hb l ((d * b + p) / 10) (fun x hx => hl x (by simp [hx])) (by omega)
    omega
theorem bytesL_len : ∀ bs : List UInt8, (bytesL bs).length ≤ 1 + 300 * bs.length := by
  have h : ∀ (l : List UInt8) (a : List Nat), OkL a → (l.foldl (fun l b => stepL 256 l b.toNat) a).length ≤ a.length + 300 * l.length := by
    intro l
    induction l with
    | nil => intro a h; simp
    | cons x l ih =>
      intro a h
      rw [List.foldl_cons, List.length_cons]
      have := ih _ (step_ok0 (b := 256) (p := x.toNat) (by decide) h)
      have := step_len (b := 256) (by decide) a x.toNat h.1 (by have := x.toNat_lt; omega)
      omega
  intro bs
  have := h bs [0] ⟨by simp, .inl rfl⟩
  simpa [bytesL] using this
set_option maxRecDepth 100000 in
set_option maxHeartbeats 1600000 in
theorem decimalBytes (w : World) (bs : List UInt8) (more : Bool) (hl : bs.length ≤ 300) :
    Calls Tryz.prog 36 #[.string ⟨bs.toArray⟩, .bool more] w fun e w' => e = .returned (.string ⟨(dec (be bs + (if more then 1 else 0))).toArray⟩) ∧ Fr [] w w' := by
  obtain ⟨M, hMv⟩ : ∃ M, M = be bs + (if more then 1 else 0) := ⟨_, rfl⟩
  rw [← hMv]
  replace hMv := Lib.hid hMv
  have hB0 : Hid (DBox ((w.alloc (.cells #[.int .i64 0] 3 (0, 0))).alloc (.cells #[.slice (some ⟨w.heap.size, 0, none⟩) 1 1] 38 (0, 0))) w.heap.size (w.heap.size + 1) [0]) := Lib.hid (by
    have hb : ((w.alloc (.cells #[.int .i64 0] 3 (0, 0))).alloc (.cells #[.slice (some ⟨w.heap.size, 0, none⟩) 1 1] 38 (0, 0))).heap[w.heap.size + 1]? = some (.cells #[.slice (some ⟨w.heap.size, 0, none⟩) 1 1] 38 (0, 0)) := by
      have := blk_new (w.alloc (.cells #[.int .i64 0] 3 (0, 0))) (.cells #[.slice (some ⟨w.heap.size, 0, none⟩) 1 1] 38 (0, 0))
      simpa using this
    exact ⟨_, hb, ⟨rfl, .inr ⟨w.heap.size, 1, _, rfl, Nat.le_refl _, blk_alloc (blk_new w _) _, by simp, by decide, rfl, rfl⟩⟩, by simp; omega⟩)
  have hF0 : Hid (Fr [] w ((w.alloc (.cells #[.int .i64 0] 3 (0, 0))).alloc (.cells #[.slice (some ⟨w.heap.size, 0, none⟩) 1 1] 38 (0, 0)))) := Lib.hid (((Fr.refl [] w).alloc _).alloc _)
  go_enter Tryz.func36, Tryz.ntmps36
  go_wp2
  go_loopg [7] bs.length (fun gk v7 wr => ∃ i : Nat, v7 = .int .i64 (i : Int) ∧ i + gk = bs.length ∧ Hid (DBox wr w.heap.size (w.heap.size + 1) (bytesL (bs.take i))) ∧ Hid (Fr [] w wr))
  case atStart => exact ⟨0, by go_num, by omega, hB0, hF0⟩
  case round =>
    obtain ⟨i, rfl, hig, hD, hF⟩ := hrel
    by_cases hi : i < bs.length
    · obtain ⟨k, rfl⟩ : ∃ k, gk = k + 1 := ⟨gk - 1, by omega⟩
      have ti : (i : Int) < (bs.length : Int) := by omega
      have hsn : bytesL (bs.take (i + 1)) = stepL 256 (bytesL (bs.take i)) (bs[i]).toNat := by rw [List.take_succ_eq_append_getElem hi, bytesL_snoc]
      have hok := bytesL_ok (bs.take i)
      have hlt := bytesL_len (bs.take i)
      have hbi := (bs[i]).toNat_lt
      have e : wrap64 (((⟨bs.toArray⟩ : ByteArray)[i]'(by simpa [ByteArray.size] using hi)).toNat : Int) = ((bs[i]).toNat : Int) := by
        show wrap64 ((bs[i]).toNat : Int) = _
        rw [← wrap_eq]
        exact IntWalk.i64_in _ (by omega)
      have hll : (bytesL (bs.take i)).length ≤ 100000 := by simp at hlt; omega
      have KS := Lib.hid (decStep hD.out 256 (bs[i]).toNat (by omega) (by omega) hok.1 hll)
      rw [← hsn] at KS
      replace hsn := Lib.hid hsn
      clear hok hlt
      go_wp2_with fail
      rw [e]
      refine KS.out.mono ?_
      rintro en w2 ⟨u, rfl, hD2, hG⟩
      have hF2 : Hid (Fr [] w w2) := Lib.hid (((Gr.of hF.out (Nat.le_refl _) (by simp)).trans (hG.mono (C := w.heap.size) (T := []) (Nat.le_refl _) (by intro k hk; right; simp at hk; omega))).fr)
      replace hD2 := Lib.hid hD2
      go_wp2
      go_roundg k
      case measure => omega
      case rel => exact ⟨i + 1, by go_num, by omega, hD2, hF2⟩
    · have ti : ¬ (i : Int) < (bs.length : Int) := by omega
      have hin : bs.take i = bs := List.take_of_length_le (by omega)
      rw [hin] at hD
      have hlb : (bytesL bs).length ≤ 100000 := by have := bytesL_len bs; omega
      cases more
      · have hMb : Hid (M = be bs) := Lib.hid (by rw [hMv.out]; rfl)
        replace hD := hD.out
        obtain ⟨v, hb, hr, hBw⟩ := hD
        have hok := bytesL_ok bs
        have hlen := hlb
        have hval := bytesL_val bs
        obtain ⟨ds, hds⟩ : ∃ ds, ds = bytesL bs := ⟨_, rfl⟩
        rw [← hds] at hr hok hlen hval
        replace hds := Lib.hid hds
        have hdec := Lib.hid (okL_dec ds hok)
        have hd10 := Lib.hid hok.1
        replace hval := Lib.hid hval
        have cb := cell_blk hb 0
        simp only [List.getElem?_toArray, List.getElem?_cons_zero] at cb
        obtain ⟨ao, n, c, rfl⟩ : ∃ ao n c, v = .slice ao n c := by
          rcases hr.2 with ⟨hv, _⟩ | ⟨g, cap, cur, hv, _⟩
          · exact ⟨_, _, _, hv⟩
          · exact ⟨_, _, _, hv⟩
        have hn : n = ds.length := by
          rcases hr.2 with ⟨hv, h0⟩ | ⟨g, cap, cur, hv, _⟩
          · injection hv with _ e _; omega
          · injection hv
        subst hn
        replace hr := Lib.hid hr
        go_wp2
        go_loopg [8, 30] ds.length (fun gk v8 v30 wr => ∃ i : Nat, v30 = .int .i64 (i : Int) ∧ i + gk = ds.length ∧ v8 = .string ⟨((ds.take i).reverse.map fun d => (48 + d).toUInt8).toArray⟩ ∧ Hid (IRow wr w.heap.size (.slice ao ds.length c) ds) ∧ Hid (Fr [] w wr))
        case atStart => exact ⟨0, by go_num, by omega, rfl, hr, hF⟩
        case round =>
          obtain ⟨j, rfl, hjg, rfl, hr, hF⟩ := hrel
          by_cases hj : j < ds.length
          · obtain ⟨k, rfl⟩ : ∃ k, gk = k + 1 := ⟨gk - 1, by omega⟩
            obtain ⟨g, c', hv, _, hci, _, _⟩ := hr.out.put j hj
            injection hv with e8 e9 e10
            subst e8
            clear e9 e10
            have hx := hd10.out ds[j] (List.getElem_mem hj)
            have tj : (j : Int) < (ds.length : Int) := by omega
            have hsn : Hid (((ds.take (j + 1)).reverse.map fun d => (48 + d).toUInt8) = [(48 + ds[j]).toUInt8] ++ ((ds.take j).reverse.map fun d => (48 + d).toUInt8)) := Lib.hid (by rw [List.take_succ_eq_append_getElem hj, List.reverse_append]; simp)
            have hSl : ((ds.take j).reverse.map fun d => (48 + d).toUInt8).length ≤ 200000 := by simp; omega
            generalize ((ds.take j).reverse.map fun d => (48 + d).toUInt8) = S at *
            generalize ds[j] = x at *
            have hcv : (((48 + x).toUInt8.toNat : Nat) : Int) = 48 + (x : Int) := by simp; omega
            obtain ⟨cb8, hcb⟩ : ∃ c : UInt8, c = (48 + x).toUInt8 := ⟨_, rfl⟩
            rw [← hcb] at hcv hsn
            replace hcb := Lib.hid hcb
            have s1 : IntKind.i64.wrap (48 + (x : Int)) = 48 + (x : Int) := IntWalk.i64_in _ (by omega)
            have s2 : IntKind.u8.wrap (48 + (x : Int)) = 48 + (x : Int) := IntWalk.u8_in _ (by omega)
            have hrd : Rd (wr.alloc (.cells #[.int .u8 (48 + (x : Int))] 5 (0, 0))) wr.heap.size 0 [cb8] := rd_new (w := wr) (s := [cb8]) rfl (by simp only [enc, List.map_cons, List.map_nil]; rw [hcv])
            have ht := toStr hrd 1
            have ht2 : (convert 59 9 (.slice (some ⟨wr.heap.size, 0, none⟩) 1 1)).run Tryz.prog (wr.alloc (.cells #[.int .u8 (48 + (x : Int))] 5 (0, 0))) = .ok (.string ⟨[cb8].toArray⟩) (wr.alloc (.cells #[.int .u8 (48 + (x : Int))] 5 (0, 0))) := ht
            clear ht hrd
            have hq1 : ¬ 9223372036854775807 < 1 + S.length := by omega
            have hq2 : ¬ 9223372036854775807 < [cb8].length + S.length := by simp; omega
            replace hcv := Lib.hid hcv
            go_wp2
            go_roundg k
            case measure => omega
            case rel => exact ⟨j + 1, by go_num, by omega, by rw [hsn.out]; first | (rw [← mk_append]; rfl) | rfl, Lib.hid (hr.out.push rfl), Lib.hid (hF.out.alloc _)⟩
          · have tj : ¬ (j : Int) < (ds.length : Int) := by omega
            rw [List.take_of_length_le (by omega)]
            rw [← hdec.out, hval.out]
            go_wp2
            go_ret
            exact ⟨by rw [hMb.out]; rfl, hF.out⟩
      · have hMb : Hid (M = be bs + 1) := Lib.hid (by rw [hMv.out]; rfl)
        have KS := Lib.hid (decStep hD.out 1 1 (by omega) (by omega) (bytesL_ok bs).1 hlb)
        clear hD
        go_wp2_with fail
        refine KS.out.mono ?_
        rintro en w2 ⟨u, rfl, hD2, hG⟩
        have hF2 : Hid (Fr [] w w2) := Lib.hid (((Gr.of hF.out (Nat.le_refl _) (by simp)).trans (hG.mono (C := w.heap.size) (T := []) (Nat.le_refl _) (by intro k hk; right; simp at hk; omega))).fr)
        obtain ⟨hD, _⟩ : Hid (DBox w2 w.heap.size (w.heap.size + 1) (stepL 1 (bytesL bs) 1)) ∧ True := ⟨Lib.hid hD2, trivial⟩
        replace hD := hD.out
        obtain ⟨v, hb, hr, hBw⟩ := hD
        have hok := step_ok0 (b := 1) (p := 1) (by decide) (bytesL_ok bs)
        have hlen := step_len (b := 1) (by decide) (bytesL bs) 1 (bytesL_ok bs).1 (by decide)
        have hval := (show nvL (stepL 1 (bytesL bs) 1) = be bs + 1 by rw [nvL_step, bytesL_val]; omega)
        obtain ⟨ds, hds⟩ : ∃ ds, ds = stepL 1 (bytesL bs) 1 := ⟨_, rfl⟩
        rw [← hds] at hr hok hlen hval
        replace hds := Lib.hid hds
        have hdec := Lib.hid (okL_dec ds hok)
        have hd10 := Lib.hid hok.1
        replace hval := Lib.hid hval
        have cb := cell_blk hb 0
        simp only [List.getElem?_toArray, List.getElem?_cons_zero] at cb
        obtain ⟨ao, n, c, rfl⟩ : ∃ ao n c, v = .slice ao n c := by
          rcases hr.2 with ⟨hv, _⟩ | ⟨g, cap, cur, hv, _⟩
          · exact ⟨_, _, _, hv⟩
          · exact ⟨_, _, _, hv⟩
        have hn : n = ds.length := by
          rcases hr.2 with ⟨hv, h0⟩ | ⟨g, cap, cur, hv, _⟩
          · injection hv with _ e _; omega
          · injection hv
        subst hn
        replace hr := Lib.hid hr
        go_wp2
        go_loopg [8, 30] ds.length (fun gk v8 v30 wr => ∃ i : Nat, v30 = .int .i64 (i : Int) ∧ i + gk = ds.length ∧ v8 = .string ⟨((ds.take i).reverse.map fun d => (48 + d).toUInt8).toArray⟩ ∧ Hid (IRow wr w.heap.size (.slice ao ds.length c) ds) ∧ Hid (Fr [] w wr))
        case atStart => exact ⟨0, by go_num, by omega, rfl, hr, hF2⟩
        case round =>
          obtain ⟨j, rfl, hjg, rfl, hr, hF⟩ := hrel
          by_cases hj : j < ds.length
          · obtain ⟨k, rfl⟩ : ∃ k, gk = k + 1 := ⟨gk - 1, by omega⟩
            obtain ⟨g, c', hv, _, hci, _, _⟩ := hr.out.put j hj
            injection hv with e8 e9 e10
            subst e8
            clear e9 e10
            have hx := hd10.out ds[j] (List.getElem_mem hj)
            have tj : (j : Int) < (ds.length : Int) := by omega
            have hsn : Hid (((ds.take (j + 1)).reverse.map fun d => (48 + d).toUInt8) = [(48 + ds[j]).toUInt8] ++ ((ds.take j).reverse.map fun d => (48 + d).toUInt8)) := Lib.hid (by rw [List.take_succ_eq_append_getElem hj, List.reverse_append]; simp)
            have hSl : ((ds.take j).reverse.map fun d => (48 + d).toUInt8).length ≤ 200000 := by simp; omega
            generalize ((ds.take j).reverse.map fun d => (48 + d).toUInt8) = S at *
            generalize ds[j] = x at *
            have hcv : (((48 + x).toUInt8.toNat : Nat) : Int) = 48 + (x : Int) := by simp; omega
            obtain ⟨cb8, hcb⟩ : ∃ c : UInt8, c = (48 + x).toUInt8 := ⟨_, rfl⟩
            rw [← hcb] at hcv hsn
            replace hcb := Lib.hid hcb
            have s1 : IntKind.i64.wrap (48 + (x : Int)) = 48 + (x : Int) := IntWalk.i64_in _ (by omega)
            have s2 : IntKind.u8.wrap (48 + (x : Int)) = 48 + (x : Int) := IntWalk.u8_in _ (by omega)
            have hrd : Rd (wr.alloc (.cells #[.int .u8 (48 + (x : Int))] 5 (0, 0))) wr.heap.size 0 [cb8] := rd_new (w := wr) (s := [cb8]) rfl (by simp only [enc, List.map_cons, List.map_nil]; rw [hcv])
            have ht := toStr hrd 1
            have ht2 : (convert 59 9 (.slice (some ⟨wr.heap.size, 0, none⟩) 1 1)).run Tryz.prog (wr.alloc (.cells #[.int .u8 (48 + (x : Int))] 5 (0, 0))) = .ok (.string ⟨[cb8].toArray⟩) (wr.alloc (.cells #[.int .u8 (48 + (x : Int))] 5 (0, 0))) := ht
            clear ht hrd
            have hq1 : ¬ 9223372036854775807 < 1 + S.length := by omega
            have hq2 : ¬ 9223372036854775807 < [cb8].length + S.length := by simp; omega
            replace hcv := Lib.hid hcv
            go_wp2
            go_roundg k
            case measure => omega
            case rel => exact ⟨j + 1, by go_num, by omega, by rw [hsn.out]; first | (rw [← mk_append]; rfl) | rfl, Lib.hid (hr.out.push rfl), Lib.hid (hF.out.alloc _)⟩
          · have tj : ¬ (j : Int) < (ds.length : Int) := by omega
            rw [List.take_of_length_le (by omega)]
            rw [← hdec.out, hval.out]
            go_wp2
            go_ret
            exact ⟨by rw [hMb.out]; rfl, hF.out⟩
end
section
open Go.RowKit

theorem NatV.re {w : World} {y z U : Nat} {u : Value} {cs : Array Value} (h : NatV w y u U) (hb : w.heap[z]? = some (.cells cs 221 (0, 0))) : NatV w z u U := by
  rcases h with h | ⟨g, n, c, h1, h2, h3, h4, h5, h6, ds, h7, h8⟩
  · exact .inl h
  · refine .inr ⟨g, n, c, h1, h2, h3, h4, h5, fun e => ?_, ds, h7, h8⟩
    subst e
    rw [h7] at hb
    injection hb with hb
    injection hb with _ h9 _
    exact absurd h9 (by decide)
theorem be_dec_len (b : List UInt8) (k : Nat) (hk : k ≤ 1) (hl : b.length ≤ 300000) : (dec (be b + k)).length ≤ 1000000 := by
  have h := be_lt256 b
  have h2 : 256 ^ b.length ≤ 10 ^ (3 * b.length) := by
    rw [Nat.pow_mul]
    exact Nat.pow_le_pow_left (by decide) _
  have h3 : be b + k < 10 ^ (3 * b.length + 1) := by
    rw [Nat.pow_succ]
    have := Nat.pow_pos (n := 3 * b.length) (show 0 < 10 by decide)
    generalize 10 ^ (3 * b.length) = p at *
    omega
  have := dec_length (be b + k) (3 * b.length + 1) h3 (by omega)
  omega
section
variable {X : Cx} {off : Nat} {bs : List UInt8} {w : World}
set_option maxRecDepth 100000 in
set_option maxHeartbeats 3200000 in
theorem di_big2 (h : St X off bs w) {ai o1 off2 : Nat} {b : List UInt8} (hh : hd X.xs off = .ok (6, ai, 2, o1)) (hl1 : o1 < X.xs.length) (hm2 : X.xs[o1].toNat / 32 = 2)
    (hP : ∀ w, Dec w X.d X.db X.o X.c X.dm X.xs o1 → Calls Tryz.prog 129 #[.pointer (some ⟨X.d, 0, none⟩)] w (StrAt w X.d X.db X.o X.c X.dm X.xs off2 b)) (hbl : b.length ≤ 90000) (hpos : 0 < be b) (hlen : bs.length + (bigT (be b) false).length ≤ room) :
    Calls Tryz.prog 105 #[.pointer (some ⟨X.di, 0, none⟩)] w (IPost X off2 bs (txt (bigT (be b) false)) w) := by
  obtain ⟨hl, hb1, hb2⟩ := hd_byte hh
  have hv := (hd_val hh).1
  have hai := (hd_off hh).2.2.2
  have hai2 := (hd_off hh).2.2.1
  have k1 := h.i1
  have k2 := h.i2
  have d0 := h.dec.c0
  have d1 := h.dec.c1
  have ha := h.dec.at_ off hl
  have hm := h.dec.len
  have KT := fun n => nextCBORType (h.dec.drewN n) hl
  rw [hb1] at KT
  have KH := fun n => getHead (h.dec.drewN n) hh
  have KT2 := Lib.hid (fun (W : World) (H : Dec W X.d X.db X.o X.c X.dm X.xs o1) => nextCBORType H hl1)
  rw [hm2] at KT2
  replace hP := Lib.hid hP
  replace KT := Lib.hid KT
  replace KH := Lib.hid KH
  replace hh := Lib.hid hh
  have hdl := Lib.hid (be_dec_len b 0 (by omega) (by omega))
  try rw [Nat.add_zero] at hdl
  have g95 : ((X.xs[off].toNat : Int) == 95) = false := by simp; omega
  have g127 : ((X.xs[off].toNat : Int) == 127) = false := by simp; omega
  have g159 : ((X.xs[off].toNat : Int) == 159) = false := by simp; omega
  have g191 : ((X.xs[off].toNat : Int) == 191) = false := by simp; omega
  generalize (X.xs[off].toNat : Int) = x0 at *
  clear hb1 hb2 hai hm2
  have b1 : (off : Int) < (X.xs.length : Int) := by omega
  have b2 : (0 : Int) ≤ (off : Int) := by omega
  have b3 : (off : Int).toNat = off := by omega
  obtain ⟨T, hT⟩ : ∃ T, T = bigT (be b) false := ⟨_, rfl⟩
  rw [← hT] at hlen ⊢
  replace hT := Lib.hid hT
  go_enter Tryz.func105, Tryz.ntmps105
  go_wp2
  go_quiet (fail)
  go_wp2_with fail
  refine (KT.out _).mono ?_
  rintro e w1 ⟨rfl, nm, rfl⟩
  go_wp2_with fail
  refine (KH.out _).mono ?_
  rintro e w1 ⟨rfl, hD, hf⟩
  have h1 := (h.drewN _).moved hf hD
  have G1 := h.grF (((Fr.refl [X.d] w).drewN _).trans hf)
  have k1 := h1.i1
  have k2 := h1.i2
  go_wp2_with fail
  refine (KT2.out _ h1.dec).mono ?_
  rintro e w2 ⟨rfl, nm2, rfl⟩
  have h2 := h1.drewN nm2
  have k1 := h2.i1
  have k2 := h2.i2
  go_wp2_with fail
  refine (hP.out _ h2.dec).mono ?_
  rintro e w3 ⟨q, n, rfl, hcap, hrd, hD3, hf3⟩
  have h3 := h2.moved hf3 hD3
  have G3 := (G1.drewN nm2).trans (h2.grF hf3)
  have hdb := h3.ldb
  have hdbs : X.db < w3.heap.size := Nat.lt_of_lt_of_le hdb h3.hB
  have KS := Lib.hid (setBytes (w := w3.alloc (.cells #[.bool false, .slice none 0 0] 221 (0, 0))) (z := w3.heap.size) (c := n) (bs := b) (blk_new w3 _) rfl (hrd.fr ((Fr.refl [] w3).alloc _) (by simp)) (by simp; omega) (by omega))
  obtain ⟨lb, hlb⟩ : ∃ l, l = b.length := ⟨_, rfl⟩
  obtain ⟨vb, hvb⟩ : ∃ x, x = be b := ⟨_, rfl⟩
  have hvk : vb < 4294967296 ^ (lb + 1) := by rw [hvb, hlb, p32]; exact Nat.lt_of_lt_of_le (be_lt256 b) (Nat.pow_le_pow_right (by decide) (by omega))
  have hlb2 : lb + 1 ≤ 90001 := by omega
  rw [← hvb] at KS hdl hT hpos
  rw [← hlb] at KS
  rw [← hlb]
  replace hlb := Lib.hid hlb
  replace hvb := Lib.hid hvb
  replace hvk := Lib.hid hvk
  replace hrd := Lib.hid hrd
  replace hcap := Lib.hid hcap
  go_wp2_with fail
  refine KS.out.mono ?_
  rintro e w4 ⟨rfl, hJ4, hf4⟩
  have hf34 : Fr [] w3 w4 := ((Fr.refl [] w3).alloc _).then_ hf4 (by intro k hk; right; simp at hk; omega)
  have h4 := h3.kept hf34
  have G4 := G3.trans (h3.gr0 hf34)
  have hTT : T = bigT vb false := hT.out
  replace hTT := Lib.hid hTT
  have KX := Lib.hid (fun W (F : Fr [] w4 W) => textI (hJ4.fr F (by simp)) (by omega) (by have := hdl.out; omega))
  have k1 := h4.i1
  have k2 := h4.i2
  have hF1 : Fr [] w4 w4.drew := (Fr.refl [] w4).drew
  rw [← hTT.out] at KX
  go_wp2
  go_region_held3 (fun w' => w'.cell? ⟨X.di, 2, none⟩ = some (.pointer (some ⟨X.wb, 0, none⟩))) (first | go_keep | exact (St.kept h4 hF1).i2 | exact hA.i2 | exact hB.i2)
    (first | (go_at_call 127; refine (KX.out _ hF1).mono ?_; rintro e wA ⟨rfl, hfA⟩; have hA := St.kept h4 (hF1.trans hfA)) | (go_at_call 104; refine (writeString hA.buf hA.lw hA.hB T hlen).mono ?_; rintro e wB ⟨⟨uB, rfl⟩, hbB, hgB⟩; have hB := hA.wrote hgB hbB))
  go_wp2
  go_ret
  exact ⟨.nilIface, _, rfl, rfl, fun _ => rfl, hB, (G4.trans (h4.gr0 (hF1.trans hfA))).trans (St.grW hgB)⟩
set_option maxRecDepth 100000 in
set_option maxHeartbeats 3200000 in
theorem di_big3 (h : St X off bs w) {ai o1 off2 : Nat} {b : List UInt8} (hh : hd X.xs off = .ok (6, ai, 3, o1)) (hl1 : o1 < X.xs.length) (hm2 : X.xs[o1].toNat / 32 = 2)
    (hP : ∀ w, Dec w X.d X.db X.o X.c X.dm X.xs o1 → Calls Tryz.prog 129 #[.pointer (some ⟨X.d, 0, none⟩)] w (StrAt w X.d X.db X.o X.c X.dm X.xs off2 b)) (hbl : b.length ≤ 90000) (hlen : bs.length + (bigT (be b + 1) true).length ≤ room) :
    Calls Tryz.prog 105 #[.pointer (some ⟨X.di, 0, none⟩)] w (IPost X off2 bs (txt (bigT (be b + 1) true)) w) := by
  obtain ⟨hl, hb1, hb2⟩ := hd_byte hh
  have hv := (hd_val hh).1
  have hai := (hd_off hh).2.2.2
  have hai2 := (hd_off hh).2.2.1
  have k1 := h.i1
  have k2 := h.i2
  have d0 := h.dec.c0
  have d1 := h.dec.c1
  have ha := h.dec.at_ off hl
  have hm := h.dec.len
  have KT := fun n => nextCBORType (h.dec.drewN n) hl
  rw [hb1] at KT
  have KH := fun n => getHead (h.dec.drewN n) hh
  have KT2 := Lib.hid (fun (W : World) (H : Dec W X.d X.db X.o X.c X.dm X.xs o1) => nextCBORType H hl1)
  rw [hm2] at KT2
  replace hP := Lib.hid hP
  replace KT := Lib.hid KT
  replace KH := Lib.hid KH
  replace hh := Lib.hid hh
  have hdl := Lib.hid (be_dec_len b 1 (by omega) (by omega))
  try rw [Nat.add_zero] at hdl
  have g95 : ((X.xs[off].toNat : Int) == 95) = false := by simp; omega
  have g127 : ((X.xs[off].toNat : Int) == 127) = false := by simp; omega
  have g159 : ((X.xs[off].toNat : Int) == 159) = false := by simp; omega
  have g191 : ((X.xs[off].toNat : Int) == 191) = false := by simp; omega
  generalize (X.xs[off].toNat : Int) = x0 at *
  clear hb1 hb2 hai hm2
  have b1 : (off : Int) < (X.xs.length : Int) := by omega
  have b2 : (0 : Int) ≤ (off : Int) := by omega
  have b3 : (off : Int).toNat = off := by omega
  obtain ⟨T, hT⟩ : ∃ T, T = bigT (be b + 1) true := ⟨_, rfl⟩
  rw [← hT] at hlen ⊢
  replace hT := Lib.hid hT
  go_enter Tryz.func105, Tryz.ntmps105
  go_wp2
  go_quiet (fail)
  go_wp2_with fail
  refine (KT.out _).mono ?_
  rintro e w1 ⟨rfl, nm, rfl⟩
  go_wp2_with fail
  refine (KH.out _).mono ?_
  rintro e w1 ⟨rfl, hD, hf⟩
  have h1 := (h.drewN _).moved hf hD
  have G1 := h.grF (((Fr.refl [X.d] w).drewN _).trans hf)
  have k1 := h1.i1
  have k2 := h1.i2
  go_wp2_with fail
  refine (KT2.out _ h1.dec).mono ?_
  rintro e w2 ⟨rfl, nm2, rfl⟩
  have h2 := h1.drewN nm2
  have k1 := h2.i1
  have k2 := h2.i2
  go_wp2_with fail
  refine (hP.out _ h2.dec).mono ?_
  rintro e w3 ⟨q, n, rfl, hcap, hrd, hD3, hf3⟩
  have h3 := h2.moved hf3 hD3
  have G3 := (G1.drewN nm2).trans (h2.grF hf3)
  have hdb := h3.ldb
  have hdbs : X.db < w3.heap.size := Nat.lt_of_lt_of_le hdb h3.hB
  have KS := Lib.hid (setBytes (w := w3.alloc (.cells #[.bool false, .slice none 0 0] 221 (0, 0))) (z := w3.heap.size) (c := n) (bs := b) (blk_new w3 _) rfl (hrd.fr ((Fr.refl [] w3).alloc _) (by simp)) (by simp; omega) (by omega))
  obtain ⟨lb, hlb⟩ : ∃ l, l = b.length := ⟨_, rfl⟩
  obtain ⟨vb, hvb⟩ : ∃ x, x = be b := ⟨_, rfl⟩
  have hvk : vb < 4294967296 ^ (lb + 1) := by rw [hvb, hlb, p32]; exact Nat.lt_of_lt_of_le (be_lt256 b) (Nat.pow_le_pow_right (by decide) (by omega))
  have hlb2 : lb + 1 ≤ 90001 := by omega
  rw [← hvb] at KS hdl hT
  rw [← hlb] at KS
  rw [← hlb]
  replace hlb := Lib.hid hlb
  replace hvb := Lib.hid hvb
  replace hvk := Lib.hid hvk
  replace hrd := Lib.hid hrd
  replace hcap := Lib.hid hcap
  go_wp2_with fail
  refine KS.out.mono ?_
  rintro e w4 ⟨rfl, hJ4, hf4⟩
  have hf34 : Fr [] w3 w4 := ((Fr.refl [] w3).alloc _).then_ hf4 (by intro k hk; right; simp at hk; omega)
  have h4 := h3.kept hf34
  have G4 := G3.trans (h3.gr0 hf34)
  have K1 := Lib.hid (newInt w4 1 (by omega))
  go_wp2_with fail
  refine K1.out.mono ?_
  rintro e w5 ⟨y, rfl, hI5, hyl, hf5⟩
  have hz4 : w3.heap.size < w4.heap.size := by have h9 := hf4.size; have h8 : (w3.alloc (.cells #[.bool false, .slice none 0 0] 221 (0, 0))).heap.size = w3.heap.size + 1 := (by simp); omega
  have hJ45 : IntV w5 w3.heap.size vb false := hJ4.fr hf5 (by simp)
  obtain ⟨v0, hb0, _⟩ := hJ45
  have KA := Lib.hid (addI (k := lb + 1) (show IntV w5 w3.heap.size vb false from hJ4.fr hf5 (by simp)) hI5 (by omega) (fun u hu => hu.re hb0) (by omega) hvk.out (Nat.lt_of_lt_of_le (show 1 < 4294967296 ^ 1 by decide) (Nat.pow_le_pow_right (by decide) (by omega))))
  clear hb0
  go_wp2_with fail
  refine KA.out.mono ?_
  rintro e w6 ⟨rfl, hI6, hf6⟩
  have KN := Lib.hid (negI hI6 (by omega))
  go_wp2_with fail
  refine KN.out.mono ?_
  rintro e w7 ⟨rfl, hI7, hf7⟩
  have hf47 : Fr [] w3 w7 := (((hf34.trans hf5).then_ hf6 (by intro k hk; right; simp at hk; omega))).then_ hf7 (by intro k hk; right; simp at hk; omega)
  have h7 := h3.kept hf47
  have G4 := G3.trans (h3.gr0 hf47)
  have hTT : T = bigT (vb + 1) true := hT.out
  replace hTT := Lib.hid hTT
  have KX := Lib.hid (fun W (F : Fr [] w7 W) => textI (hI7.fr F (by simp)) (by omega) (by have := hdl.out; omega))
  have k1 := h7.i1
  have k2 := h7.i2
  have hF1 : Fr [] w7 w7.drew := (Fr.refl [] w7).drew
  rw [← hTT.out] at KX
  go_wp2
  go_region_held3 (fun w' => w'.cell? ⟨X.di, 2, none⟩ = some (.pointer (some ⟨X.wb, 0, none⟩))) (first | go_keep | exact (St.kept h7 hF1).i2 | exact hA.i2 | exact hB.i2)
    (first | (go_at_call 127; refine (KX.out _ hF1).mono ?_; rintro e wA ⟨rfl, hfA⟩; have hA := St.kept h7 (hF1.trans hfA)) | (go_at_call 104; refine (writeString hA.buf hA.lw hA.hB T hlen).mono ?_; rintro e wB ⟨⟨uB, rfl⟩, hbB, hgB⟩; have hB := hA.wrote hgB hbB))
  go_wp2
  go_ret
  exact ⟨.nilIface, _, rfl, rfl, fun _ => rfl, hB, (G4.trans (h7.gr0 (hF1.trans hfA))).trans (St.grW hgB)⟩
end
end
section
open Go.RowKit

theorem says_big2 {L : Lim} {M : Md} {sq : Bool} (hL : L.nest ≤ 65535 ∧ L.el ≤ 2147483647 ∧ L.pa ≤ 2147483647) (b : List UInt8) (hb : b.length ≤ 90000) (hp : 0 < be b) :
    Says ([194] ++ (headB 2 b.length 0 ++ b)) L M sq (txt (bigT (be b) false)) := by
  have hE := EncAt.tag (n := 2) 0 (by decide) (EncAt.str (b := b) false 0 (by omega))
  have h := says_one (M := M) (sq := sq) (N := ⟨fun _ => [], fun _ => ([], none), fun _ _ => [], fun _ _ => txt (bigT (be b) false)⟩) hL hE.whole (by simp [Tr.fits]) (by simp [Tr.dp, Tr.isTag]) (fun X hx hl hm => by
    rw [LeafOK, if_pos (by simp)]
    intro off off' he
    rw [Enc] at he
    obtain ⟨ai, o1, hh, he⟩ := he
    rw [Enc] at he
    obtain ⟨ai2, v, o2, hh2, h31, hvl, h63, rfl, hbb⟩ := he
    obtain ⟨hl1, hm2, _⟩ := byte_of_hd hh2
    exact fun w bs hS hlen => di_big2 hS hh hl1 hm2 (fun w hD => parseByteString hD hh2 h31 hvl hbb) hb hp hlen)
  exact h
theorem says_big3 {L : Lim} {M : Md} {sq : Bool} (hL : L.nest ≤ 65535 ∧ L.el ≤ 2147483647 ∧ L.pa ≤ 2147483647) (b : List UInt8) (hb : b.length ≤ 90000) :
    Says ([195] ++ (headB 2 b.length 0 ++ b)) L M sq (txt (bigT (be b + 1) true)) := by
  have hE := EncAt.tag (n := 3) 0 (by decide) (EncAt.str (b := b) false 0 (by omega))
  have h := says_one (M := M) (sq := sq) (N := ⟨fun _ => [], fun _ => ([], none), fun _ _ => [], fun _ _ => txt (bigT (be b + 1) true)⟩) hL hE.whole (by simp [Tr.fits]) (by simp [Tr.dp, Tr.isTag]) (fun X hx hl hm => by
    rw [LeafOK, if_pos (by simp)]
    intro off off' he
    rw [Enc] at he
    obtain ⟨ai, o1, hh, he⟩ := he
    rw [Enc] at he
    obtain ⟨ai2, v, o2, hh2, h31, hvl, h63, rfl, hbb⟩ := he
    obtain ⟨hl1, hm2, _⟩ := byte_of_hd hh2
    exact fun w bs hS hlen => di_big3 hS hh hl1 hm2 (fun w hD => parseByteString hD hh2 h31 hvl hbb) hb hlen)
  exact h
theorem be_pos {x : UInt8} {l : List UInt8} (h : x.toNat ≠ 0) : 0 < be (x :: l) := by
  have key : ∀ (l : List UInt8) (a : Nat), 0 < a → 0 < l.foldl (fun a b => a * 256 + b.toNat) a := by
    intro l
    induction l with
    | nil => intro a h; exact h
    | cons y l ih => intro a h; rw [List.foldl_cons]; exact ih _ (by omega)
  unfold be
  rw [List.foldl_cons]
  exact key l _ (by omega)
set_option maxRecDepth 100000 in
set_option maxHeartbeats 1600000 in
theorem big_any (xs : List UInt8) (neg : Bool) (w : World) (hu : U8 w) : Calls Tryz.prog 5 #[.string ⟨xs.toArray⟩, .bool neg] w fun e w' => e = .returned (.bool true) ∧ Fr [] w w' := by
  replace hu := Lib.hid hu
  by_cases h1 : 2147483647 < xs.length
  · have t1 : (2147483647 : Int) < (xs.length : Int) := by omega
    go_enter Tryz.func5, Tryz.ntmps5
    go_wp2
    go_ret
    exact ⟨rfl, Fr.refl _ _⟩
  · have t1 : ¬ (2147483647 : Int) < (xs.length : Int) := by omega
    by_cases h2 : 60 < xs.length
    · have t2 : (60 : Int) < (xs.length : Int) := by omega
      go_enter Tryz.func5, Tryz.ntmps5
      go_wp2
      go_ret
      exact ⟨rfl, Fr.refl _ _⟩
    · have t2 : ¬ (60 : Int) < (xs.length : Int) := by omega
      by_cases h3 : xs.length < 9
      · have t3 : (xs.length : Int) < 9 := by omega
        go_enter Tryz.func5, Tryz.ntmps5
        go_wp2
        go_ret
        exact ⟨rfl, Fr.refl _ _⟩
      · have t3 : ¬ (xs.length : Int) < 9 := by omega
        have hx0 : 0 < xs.length := by omega
        by_cases h4 : (xs[0]).toNat = 0
        · have t4 : (((⟨xs.toArray⟩ : ByteArray)[0]'(by simpa [ByteArray.size] using hx0)).toNat : Int) = 0 := by show ((xs[0]).toNat : Int) = 0; omega
          have t5 : ((((⟨xs.toArray⟩ : ByteArray)[0]'(by simpa [ByteArray.size] using hx0)).toNat : Int) == 0) = true := by rw [t4]; rfl
          go_enter Tryz.func5, Tryz.ntmps5
          go_wp2
          go_ret
          exact ⟨rfl, Fr.refl _ _⟩
        · have t4 : ¬ (((⟨xs.toArray⟩ : ByteArray)[0]'(by simpa [ByteArray.size] using hx0)).toNat : Int) = 0 := by show ¬ ((xs[0]).toNat : Int) = 0; omega
          have t5 : ((((⟨xs.toArray⟩ : ByteArray)[0]'(by simpa [ByteArray.size] using hx0)).toNat : Int) == 0) = false := by simpa using t4
          have hpos : 0 < be xs := by
            cases xs with
            | nil => simp at hx0
            | cons x l => exact be_pos (by simpa using h4)
          have K36 := Lib.hid (fun W m => decimalBytes W xs m (by omega))
          have hd0 := be_dec_len xs 0 (by omega) (by omega)
          have hd1 := be_dec_len xs 1 (by omega) (by omega)
          rw [Nat.add_zero] at hd0
          have hb2 : bigT (be xs) false = dec (be xs) := rfl
          have hb3 : bigT (be xs + 1) true = [45] ++ dec (be xs + 1) := rfl
          have hhl := headB_le 2 xs.length 0
          have hl2 : (bigT (be xs) false).length ≤ 1000000 := by rw [hb2]; exact hd0
          have hl3 : (bigT (be xs + 1) true).length ≤ 1000001 := by rw [hb3]; simp; omega
          have KH := Lib.hid (fun w => head 2 xs.length (by omega) (by omega) w)
          have gu : IntKind.u64.wrap (xs.length : Int) = (xs.length : Int) := by show (xs.length : Int) % 18446744073709551616 = _; omega
          have hq1 : ¬ 9223372036854775807 < 1 + (headB 2 xs.length 0).length := by omega
          have hq2 : ¬ 9223372036854775807 < 1 + (headB 2 xs.length 0).length + xs.length := by omega
          have hq3 : ¬ 9223372036854775807 < 1 + (dec (be xs + 1)).length := by omega
          have hbb : ∀ b : ByteArray, (b == b) = true := ba_self
          cases neg
          · have KD := fun w (hu : U8 w) => implDiag (M := ⟨0, false, false, false, false, false⟩) (n := 0) (.inl ⟨rfl, rfl⟩) (by decide) (by simp; omega) (says_big2 (L := ⟨32, 131072, 131072⟩) (M := ⟨0, false, false, false, false, false⟩) (sq := false) (by decide) xs (by omega) hpos) (by unfold room txt; dsimp only; omega) w hu
            rw [show ans (txt (bigT (be xs) false)) = (bigT (be xs) false, 0) from rfl, hb2] at KD
            unfold diagOpts at KD
            replace KD := Lib.hid KD
            replace hb2 := Lib.hid hb2
            replace hb3 := Lib.hid hb3
            clear hl2 hl3 hd0 hd1
            go_enter Tryz.func5, Tryz.ntmps5
            go_wp2_with fail
            refine (K36.out _ false).mono ?_
            rintro e w1 ⟨rfl, hf1⟩
            rw [show be xs + (if false = true then 1 else 0) = be xs from rfl]
            go_wp2_with fail
            refine (KH.out _).mono ?_
            rintro e w2 ⟨rfl, hf2⟩
            go_wp2_with fail
            rw [show (⟨#[194]⟩ : ByteArray) = ⟨([194] : List UInt8).toArray⟩ from rfl, mk_append, mk_append, List.append_assoc]
            refine (KD.out _ (hu.out.fr (hf1.trans hf2) (by simp))).mono ?_
            rintro e w3 ⟨rfl, hf3⟩
            go_wp2
            go_ret
            exact ⟨rfl, (hf1.trans hf2).trans hf3⟩
          · have KD := fun w (hu : U8 w) => implDiag (M := ⟨0, false, false, false, false, false⟩) (n := 0) (.inl ⟨rfl, rfl⟩) (by decide) (by simp; omega) (says_big3 (L := ⟨32, 131072, 131072⟩) (M := ⟨0, false, false, false, false, false⟩) (sq := false) (by decide) xs (by omega)) (by unfold room txt; dsimp only; omega) w hu
            rw [show ans (txt (bigT (be xs + 1) true)) = (bigT (be xs + 1) true, 0) from rfl, hb3] at KD
            unfold diagOpts at KD
            replace KD := Lib.hid KD
            replace hb2 := Lib.hid hb2
            replace hb3 := Lib.hid hb3
            clear hl2 hl3 hd0 hd1
            go_enter Tryz.func5, Tryz.ntmps5
            go_wp2_with fail
            refine (K36.out _ false).mono ?_
            rintro e w0 ⟨rfl, hf0⟩
            go_wp2_with fail
            refine (K36.out _ true).mono ?_
            rintro e w1 ⟨rfl, hf1⟩
            rw [show be xs + (if true = true then 1 else 0) = be xs + 1 from rfl]
            obtain ⟨D, hD⟩ : ∃ D, D = dec (be xs + 1) := ⟨_, rfl⟩
            rw [← hD] at hq3 KD ⊢
            replace hD := Lib.hid hD
            go_wp2_with fail
            refine (KH.out _).mono ?_
            rintro e w2 ⟨rfl, hf2⟩
            go_wp2_with fail
            rw [show (⟨#[195]⟩ : ByteArray) = ⟨([195] : List UInt8).toArray⟩ from rfl, mk_append, mk_append, List.append_assoc]
            refine (KD.out _ (hu.out.fr ((hf0.trans hf1).trans hf2) (by simp))).mono ?_
            rintro e w3 ⟨rfl, hf3⟩
            rw [show (⟨#[45]⟩ : ByteArray) = ⟨([45] : List UInt8).toArray⟩ from rfl, mk_append]
            go_wp2
            go_ret
            exact ⟨rfl, ((hf0.trans hf1).trans hf2).trans hf3⟩
end
end Go.Proofs.YteodinhkhhaafaaGreatDoor
