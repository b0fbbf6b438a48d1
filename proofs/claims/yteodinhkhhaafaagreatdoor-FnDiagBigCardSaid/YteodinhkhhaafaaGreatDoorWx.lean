/- The walk of diag. The walks of Diagnose, of an error's kind, and of Diag. -/
import Derived.Test.YteodinhkhhaafaaGreatDoorWv
import Derived.Test.YteodinhkhhaafaaGreatDoorWt
import Derived.Test.YteodinhkhhaafaaGreatDoorEq
set_option linter.unusedVariables false
set_option linter.unusedSimpArgs false
namespace Go.Proofs.YteodinhkhhaafaaGreatDoor
section
open Go.RowKit

/-- What diag writes from a place on. -/
inductive SeqC (X : Cx) (sq : Bool) : Nat → Bool → Nat → R → Prop
  | none {off : Nat} : wfTop X.L X.xs sq off (some 1) → SeqC X sq 0 true off ([], some 1)
  | stop {off : Nat} : wfTop X.L X.xs sq off (some 1) → SeqC X sq 0 false off ([], none)
  | bad {off k : Nat} {first : Bool} : wfTop X.L X.xs sq off (some k) → k ≠ 1 → SeqC X sq 0 first off ([], some k)
  | item {off off' n : Nat} {first : Bool} {r r' : R} : wfTop X.L X.xs sq off .none → ItemC X off off' r → (r.2 = .none → SeqC X sq n false off' r') →
      SeqC X sq (n + 1) first off (thenR (txt (if first then [] else [44, 32])) (thenR r r'))
/-- What diag leaves. -/
def SPost (X : Cx) (r : R) (w : World) (e : Ending) (w' : World) : Prop :=
  ∃ v off', e = .returned (.tuple #[.string ⟨r.1.toArray⟩, v]) ∧ ErrO r.2 v ∧ St X off' r.1 w' ∧ Gr X.B [X.d, X.wb] w w'
theorem SPost.of {X : Cx} {r r0 : R} {w w' : World} {bs : List UInt8} {v : Value} {off' : Nat} (hL : Togo bs r [] r0) (h0 : r.1 = []) (hv : ErrO r.2 v) (hS : St X off' bs w') (hG : Gr X.B [X.d, X.wb] w w') :
    SPost X r0 w (.returned (.tuple #[.string ⟨bs.toArray⟩, v])) w' := by
  have h1 := hL.1
  rw [h0] at h1
  simp only [List.append_nil, List.nil_append] at h1
  subst h1
  exact ⟨v, off', rfl, hL.2 ▸ hv, hS, hG⟩
theorem SPost.err {X : Cx} {k o2 : Nat} {bs' : List UInt8} {a r0 : R} {w w2 : World} {v : Value} (hv : ErrO (some k) v) (hS : St X o2 (bs' ++ a.1) w2) (hG : Gr X.B [X.d, X.wb] w w2) (hL : bs' ++ a.1 = [] ++ r0.1 ∧ r0.2 = some k) {bx : List UInt8} (hx : bs' ++ a.1 = bx) :
    SPost X r0 w (.returned (.tuple #[.string ⟨bx.toArray⟩, v])) w2 := by
  subst hx
  have h1 := hL.1
  rw [List.nil_append] at h1
  rw [h1] at hS ⊢
  exact ⟨v, o2, rfl, hL.2 ▸ hv, hS, hG⟩
set_option maxRecDepth 100000 in
set_option maxHeartbeats 1600000 in
theorem diag {X : Cx} {w : World} (h : St X 0 [] w) (hn : X.L.nest ≤ 65535) (hel : X.L.el ≤ 2147483647) (hpa : X.L.pa ≤ 2147483647) (sq : Bool) {n : Nat} {r : R} (hr : SeqC X sq n true 0 r) (hlen : r.1.length ≤ room) :
    Calls Tryz.prog 87 #[.pointer (some ⟨X.di, 0, none⟩), .bool sq] w (SPost X r w) := by
  have L0 : Togo [] r [] r := Togo.refl _ _
  have hlen' : ([] : List UInt8).length + r.1.length ≤ room := by simpa using hlen
  generalize hn0 : n = n0 at *
  replace L0 := Lib.hid L0
  replace hr := Lib.hid hr
  replace hlen' := Lib.hid hlen'
  clear hlen hn0
  go_enter Tryz.func87, Tryz.ntmps87
  go_wp2
  go_loopg [6] n0 (fun k v6 wr => ∃ (first : Bool) (off : Nat) (bs' : List UInt8) (r' : R), v6 = .bool first ∧ Hid (SeqC X sq k first off r') ∧ Hid (Togo bs' r' [] r) ∧ St X off bs' wr ∧ Gr X.B [X.d, X.wb] w wr)
  case atStart => exact ⟨true, 0, [], r, rfl, hr, L0, h, Gr.refl _ _ _⟩
  case round =>
    obtain ⟨first, off, bs1, r1, rfl, hS, L1, h1, G1⟩ := hrel
    have W : ∀ q, wfTop X.L X.xs sq off q → Hid (Calls Tryz.prog 103 #[.pointer (some ⟨X.di, 0, none⟩), .bool sq] wr fun e w' => ∃ v, e = .returned v ∧ ErrO q v ∧ St X off bs1 w' ∧ Gr X.B [X.d, X.wb] wr w') := fun q hq => Lib.hid (di_wellformed h1 hn hel hpa sq q hq)
    rcases hS.out with hq | hq | ⟨hq, hk⟩ | ⟨hq, hC, hrest⟩
    · have K := W _ hq
      clear W hS
      go_wp2_with fail
      refine K.out.mono ?_
      rintro e w2 ⟨v, rfl, hv, h2, G2⟩
      obtain rfl : v = .iface 141 (.string eofS) := hv
      have k2 := h2.i2
      have KS := Lib.hid (string h2.buf)
      have he := eq_eof w2
      unfold eofS
      go_wp2_with fail
      refine KS.out.mono ?_
      rintro e w3 ⟨rfl, rfl⟩
      go_wp2
      go_ret2
      exact SPost.of L1.out rfl (show ErrO (some 1) _ from rfl) h2 (G1.trans G2)
    · have K := W _ hq
      clear W hS
      go_wp2_with fail
      refine K.out.mono ?_
      rintro e w2 ⟨v, rfl, hv, h2, G2⟩
      obtain rfl : v = .iface 141 (.string eofS) := hv
      have k2 := h2.i2
      have KS := Lib.hid (string h2.buf)
      have he := eq_eof w2
      unfold eofS
      go_wp2_with fail
      refine KS.out.mono ?_
      rintro e w3 ⟨rfl, rfl⟩
      go_wp2
      go_ret2
      exact SPost.of L1.out rfl rfl h2 (G1.trans G2)
    · have K := W _ hq
      clear W hS
      go_wp2_with fail
      refine K.out.mono ?_
      rintro e w2 ⟨v, rfl, hv, h2, G2⟩
      have k2 := h2.i2
      have KS := Lib.hid (string h2.buf)
      have he := errv_eof hv hk w2
      obtain ⟨t, x, rfl⟩ := ErrV.iface hv
      go_wp2_with fail
      refine KS.out.mono ?_
      rintro e w3 ⟨rfl, rfl⟩
      go_wp2
      go_ret2
      exact SPost.of L1.out rfl hv h2 (G1.trans G2)
    · rename_i off' m r2 r3 hJ
      have K := W _ hq
      clear W hS
      replace hC := Lib.hid hC
      replace hrest := Lib.hid hrest
      go_wp2_with fail
      refine K.out.mono ?_
      rintro e w2 ⟨v, rfl, hv, h2, G2⟩
      obtain rfl := hv.nil
      have k2 := h2.i2
      have G2' := G1.trans G2
      rcases first with _ | _
      · have L2' := Lib.hid (show Togo bs1 (thenR (txt [44, 32]) (thenR r2 r3)) [] r from L1.out)
        have K3 := Lib.hid (fun n => writeString (h2.drewN n).buf h2.lw (h2.drewN n).hB [44, 32] (L2'.out.len_tx hlen'.out))
        go_wp2_with fail
        refine (K3.out 0).mono ?_
        rintro e w3 ⟨⟨u3, rfl⟩, hb3, hg3⟩
        have h3 := h2.wrote hg3 hb3
        have G3 := G2'.trans (St.grW hg3)
        have L3 := Lib.hid L2'.out.tx
        have KI := Lib.hid (hC.out _ _ h3 (L3.out.len1 hlen'.out))
        go_wp2_with fail
        refine KI.out.mono ?_
        rintro e w4 ⟨v4, o4, rfl, hv4, ho4, h4, hG4⟩
        have G4 := G3.trans hG4
        rcases hr4 : r2.2 with _ | k
        · rw [hr4] at hv4
          obtain rfl := hv4.nil
          have L4 := Lib.hid (L3.out.ok hr4)
          rw [ho4 hr4] at h4
          go_wp2
          go_roundg m
          case measure => omega
          case rel => exact ⟨false, off', _, r3, rfl, Lib.hid (hrest.out hr4), L4, h4, G4⟩
        · rw [hr4] at hv4
          have k4 := h4.i2
          have KS := Lib.hid (string h4.buf)
          obtain ⟨t, x, rfl⟩ := hv4.ne
          go_wp2_with fail
          refine KS.out.mono ?_
          rintro e w5 ⟨rfl, rfl⟩
          go_wp2
          go_ret2
          exact SPost.err hv4 h4 G4 (L3.out.err hr4) (by simp)
      · have L2' := L1.out.tx
        rw [if_pos rfl, List.append_nil] at L2'
        replace L2' := Lib.hid L2'
        have KI := Lib.hid (hC.out _ _ h2 (L2'.out.len1 hlen'.out))
        go_wp2_with fail
        refine KI.out.mono ?_
        rintro e w4 ⟨v4, o4, rfl, hv4, ho4, h4, hG4⟩
        have G4 := G2'.trans hG4
        rcases hr4 : r2.2 with _ | k
        · rw [hr4] at hv4
          obtain rfl := hv4.nil
          have L4 := Lib.hid (L2'.out.ok hr4)
          rw [ho4 hr4] at h4
          go_wp2
          go_roundg m
          case measure => omega
          case rel => exact ⟨false, off', _, r3, rfl, Lib.hid (hrest.out hr4), L4, h4, G4⟩
        · rw [hr4] at hv4
          have k4 := h4.i2
          have KS := Lib.hid (string h4.buf)
          obtain ⟨t, x, rfl⟩ := hv4.ne
          go_wp2_with fail
          refine KS.out.mono ?_
          rintro e w5 ⟨rfl, rfl⟩
          go_wp2
          go_ret2
          exact SPost.err hv4 h4 G4 (L2'.out.err hr4) rfl
end
section
open Go.RowKit

theorem Fr.gr {S T : List Nat} {B : Nat} {w w1 w2 : World} (h : Fr S w w1) (g : Gr B T w1 w2) (hB : w.heap.size ≤ B) (hT : ∀ k, k ∈ T → k ∈ S ∨ w.heap.size ≤ k) : Fr S w w2 :=
  ⟨g.os.trans h.os, g.tape.trans h.tape, g.output.trans h.output, Nat.le_trans h.size g.size, fun k hk hn => (g.block k (by omega) (fun e => (hT k e).elim hn (by omega))).trans (h.block k hk hn)⟩
/-- What is said of bytes: the text that is written of them. -/
def Says (xs : List UInt8) (L : Lim) (M : Md) (sq : Bool) (r : R) : Prop := ∀ X : Cx, X.xs = xs → X.L = L → X.M = M → ∃ n, SeqC X sq n true 0 r
/-- What Diagnose leaves. -/
def GPost (r : R) (w : World) (e : Ending) (w' : World) : Prop := ∃ v, e = .returned (.tuple #[.string ⟨r.1.toArray⟩, v]) ∧ ErrO r.2 v ∧ Fr [] w w'
theorem diagnose {w : World} {db o c dm dg : Nat} {xs : List UInt8} {M : Md} {L : Lim} (hL : L.nest ≤ 65535 ∧ L.el ≤ 2147483647 ∧ L.pa ≤ 2147483647) (hrd : Rd w db o xs) (hcap : xs.length ≤ c) (hlen : xs.length ≤ 1099511627776) (hdb : db < w.heap.size) (hM : DgM w dg dm M) (hD : DecM w dm L.nest L.el L.pa) (hu : U8 w)
    {r : R} (hr : Says xs L M M.sq r) (hroom : r.1.length ≤ room) :
    Calls Tryz.prog 57 #[.pointer (some ⟨dg, 0, none⟩), .slice (some ⟨db, o, none⟩) xs.length c] w (GPost r w) := by
  have c4 : w.cell? ⟨dg, 4, none⟩ = some (.bool M.sq) := cell_blk hM 4
  have c6 : w.cell? ⟨dg, 6, none⟩ = some (.pointer (some ⟨dm, 0, none⟩)) := cell_blk hM 6
  have K1 := fun n => newDiagnose (w := w.drewN n) (hrd.fr ((Fr.refl [] w).drewN n) (by simp)) hcap hlen hdb hM hD (hu.fr ((Fr.refl [] w).drewN n) (by simp))
  replace K1 := Lib.hid K1
  clear hu
  replace hr := Lib.hid hr
  replace hM := Lib.hid hM
  go_enter Tryz.func57, Tryz.ntmps57
  go_wp2
  go_region_held3 (fun w' => w'.cell? ⟨dg, 4, none⟩ = some (.bool M.sq) ∧ w'.cell? ⟨dg, 6, none⟩ = some (.pointer (some ⟨dm, 0, none⟩)))
    (first | go_keep | exact ⟨hf1.cell c4 (by simp), hf1.cell c6 (by simp)⟩ | exact ⟨hf2.cell c4 (by simp), hf2.cell c6 (by simp)⟩)
    (first | (go_at_call 86; refine (K1.out _).mono ?_; rintro e w1 ⟨X, rfl, hx, hl, hm, hdg, -, -, -, hB, hd, hwb, hS, hf0⟩; have hf1 : Fr [] w w1 := ((Fr.refl [] w).drewN _).trans hf0; have hB' : w.heap.size ≤ X.B := hB; have hd' : w.heap.size ≤ X.d := hd; have hwb' : w.heap.size ≤ X.wb := hwb) | (go_at_call 87; obtain ⟨nn, hq⟩ := hr.out X hx hl hm; refine (diag hS (hl ▸ hL.1) (hl ▸ hL.2.1) (hl ▸ hL.2.2) _ hq hroom).mono ?_; rintro e w2 ⟨v, o2, rfl, hv, hS2, hG⟩; have hf2 : Fr [] w w2 := hf1.gr hG hB' (by intro k hk; simp at hk; rcases hk with rfl | rfl <;> exact .inr (by assumption))))
  go_wp2
  go_ret2
  exact ⟨v, rfl, hv, hf2⟩
end
end Go.Proofs.YteodinhkhhaafaaGreatDoor
