/- Bytes that are put together encode what is put together. The plain law of limits. The plain law of limits: many elements, many pairs. The plain law of limits: the notations are texts, not too long. The plain law of limits, whole. The walk of FnDiagLimits. -/
import Derived.Test.YteodinhkhhaafaaGreatDoorTb
import Derived.Test.YteodinhkhhaafaaGreatDoorHd
import Derived.Test.YteodinhkhhaafaaGreatDoorXg
set_option linter.unusedVariables false
set_option linter.unusedSimpArgs false
namespace Go.Proofs.YteodinhkhhaafaaGreatDoor
section
open Go.RowKit

/-- Bytes that encode an item, wherever they stand. -/
def EncAt (bs : List UInt8) (t : Tr) : Prop := ∀ pre post, Enc (pre ++ (bs ++ post)) t pre.length (pre.length + bs.length)
def EncsAt (bs : List UInt8) (l : List Tr) : Prop := ∀ pre post, Encs (pre ++ (bs ++ post)) l pre.length (pre.length + bs.length)
theorem EncAt.whole {bs : List UInt8} {t : Tr} (h : EncAt bs t) : Enc bs t 0 bs.length := by
  have := h [] []
  simpa using this
theorem EncsAt.nil : EncsAt [] [] := fun pre post => by rw [Encs]; rfl
theorem EncsAt.cons {b c : List UInt8} {t : Tr} {l : List Tr} (h : EncAt b t) (g : EncsAt c l) : EncsAt (b ++ c) (t :: l) := fun pre post => by
  rw [Encs]
  refine ⟨pre.length + b.length, ?_, ?_⟩
  · have := h pre (c ++ post)
    simpa [List.append_assoc] using this
  · have := g (pre ++ b) post
    simpa [List.append_assoc, Nat.add_assoc] using this
theorem headB_pos (m n f : Nat) : 0 < (headB m n f).length := by unfold headB; split <;> simp
theorem EncAt.uint {n : Nat} (hn : n < 18446744073709551616) (f : Nat) : EncAt (headB 0 n f) (.int false n) := fun pre post => by
  obtain ⟨ai, h, _⟩ := hd_headB 0 n f (by omega) hn pre post
  rw [Enc]
  exact ⟨ai, h⟩
theorem EncAt.nint {n : Nat} (hn : n < 18446744073709551616) (f : Nat) : EncAt (headB 1 n f) (.int true n) := fun pre post => by
  obtain ⟨ai, h, _⟩ := hd_headB 1 n f (by omega) hn pre post
  rw [Enc]
  exact ⟨ai, h⟩
theorem EncAt.arr {l : List Tr} {bs : List UInt8} (f : Nat) (hn : l.length < 18446744073709551616) (h : EncsAt bs l) : EncAt (headB 4 l.length f ++ bs) (.arr false l) := fun pre post => by
  obtain ⟨ai, hh, ha⟩ := hd_headB 4 l.length f (by omega) hn pre (bs ++ post)
  rw [Enc]
  refine ⟨ai, _, by simpa [List.append_assoc] using hh, by omega, ?_⟩
  have := h (pre ++ headB 4 l.length f) post
  simpa [List.append_assoc, Nat.add_assoc] using this
theorem EncAt.map {l : List Tr} {bs : List UInt8} (f v : Nat) (hv : l.length = v * 2) (hn : v < 18446744073709551616) (h : EncsAt bs l) : EncAt (headB 5 v f ++ bs) (.map false l) := fun pre post => by
  obtain ⟨ai, hh, ha⟩ := hd_headB 5 v f (by omega) hn pre (bs ++ post)
  rw [Enc]
  refine ⟨ai, v, _, by simpa [List.append_assoc] using hh, by omega, hv, ?_⟩
  have := h (pre ++ headB 5 v f) post
  simpa [List.append_assoc, Nat.add_assoc] using this
theorem EncAt.tag {n : Nat} {t : Tr} {bs : List UInt8} (f : Nat) (hn : n < 18446744073709551616) (h : EncAt bs t) : EncAt (headB 6 n f ++ bs) (.tag n t) := fun pre post => by
  obtain ⟨ai, hh, ha⟩ := hd_headB 6 n f (by omega) hn pre (bs ++ post)
  rw [Enc]
  refine ⟨ai, _, by simpa [List.append_assoc] using hh, ?_⟩
  have := h (pre ++ headB 6 n f) post
  simpa [List.append_assoc, Nat.add_assoc] using this
theorem EncAt.str {b : List UInt8} (tx : Bool) (f : Nat) (hn : b.length < 9223372036854775808) : EncAt (headB (majS tx) b.length f ++ b) (.str tx b) := fun pre post => by
  obtain ⟨ai, hh, ha⟩ := hd_headB (majS tx) b.length f (by cases tx <;> simp [majS]) (by omega) pre (b ++ post)
  rw [Enc]
  refine ⟨ai, b.length, _, by simpa [List.append_assoc] using hh, by omega, ?_, hn, ?_, ?_⟩
  · simp; omega
  · simp [Nat.add_assoc]
  · have e : pre ++ (headB (majS tx) b.length f ++ b ++ post) = (pre ++ headB (majS tx) b.length f) ++ (b ++ post) := by simp [List.append_assoc]
    rw [e, ← List.length_append, List.drop_left, List.take_left]
end
section
open Go.RowKit

/-- Arrays, or maps, within one another. -/
def nestB (mp : Bool) : Nat → List UInt8
  | 0 => [1]
  | n + 1 => (if mp then [161, 2] else [129]) ++ nestB mp n
def nestT (mp : Bool) : Nat → Tr
  | 0 => .int false 1
  | n + 1 => if mp then .map false [.int false 2, nestT mp n] else .arr false [nestT mp n]
theorem nest_enc (mp : Bool) : ∀ n, EncAt (nestB mp n) (nestT mp n)
  | 0 => EncAt.uint (n := 1) (by decide) 0
  | n + 1 => by
    have ih := nest_enc mp n
    cases mp
    · have := EncAt.arr (l := [nestT false n]) (bs := nestB false n) 0 (by simp) (by have := EncsAt.cons ih EncsAt.nil; simpa using this)
      exact this
    · have := EncAt.map (l := [.int false 2, nestT true n]) (bs := [2] ++ nestB true n) 0 1 (by simp) (by simp) (by have := EncsAt.cons (show EncAt [2] (.int false 2) from EncAt.uint (n := 2) (by decide) 0) (EncsAt.cons ih EncsAt.nil); simpa using this)
      exact this
theorem nest_dp (mp : Bool) : ∀ n, (nestT mp n).dp = n
  | 0 => by simp [nestT, Tr.dp]
  | n + 1 => by cases mp <;> simp [nestT, Tr.dp, Tr.dps, nest_dp _ n] <;> omega
theorem nest_fits (mp : Bool) (L : Lim) (h1 : 1 ≤ L.el) (h2 : 1 ≤ L.pa) : ∀ n, (nestT mp n).fits L
  | 0 => by simp [nestT, Tr.fits]
  | n + 1 => by cases mp <;> simp [nestT, Tr.fits, Tr.fitss, nest_fits _ L h1 h2 n] <;> omega
theorem nest_leaf (mp : Bool) (X : Cx) (N : Nt) : ∀ n, LeafOK X N (nestT mp n)
  | 0 => by simp [nestT, LeafOK]
  | n + 1 => by cases mp <;> simp [nestT, LeafOK, LeavesOK, nest_leaf _ X N n]
theorem wfN_err {L : Lim} {xs : List UInt8} {f o d k : Nat} (h : wfI L xs f o d = some (.error k)) : wfN L xs (f + 1) 1 o d = some (.error k) := by
  show wfN L xs (f + 1) (0 + 1) o d = _
  rw [wfN, h]
/-- Too deep. -/
theorem nest_deep (mp : Bool) (L : Lim) (h1 : 1 ≤ L.el) (h2 : 1 ≤ L.pa) : ∀ n pre post dep, L.nest < dep + n → dep ≤ L.nest → wfI L (pre ++ (nestB mp n ++ post)) (3 * n + 3) pre.length dep = some (.error 5)
  | 0, pre, post, dep, h, hd => by omega
  | n + 1, pre, post, dep, h, hd => by
    have ih := nest_deep mp L h1 h2 n
    rw [show 3 * (n + 1) + 3 = (3 * n + 5) + 1 from by omega, wfI]
    cases mp
    · obtain ⟨ai, hh, ha⟩ := hd_headB 4 1 0 (by omega) (by omega) pre (nestB false n ++ post)
      rw [show nestB false (n + 1) ++ post = headB 4 1 0 ++ (nestB false n ++ post) from rfl, hh]
      dsimp only
      rw [if_neg (by decide), if_pos (.inl rfl)]
      by_cases hn : L.nest < dep + 1
      · rw [if_pos hn]
      · rw [if_neg hn, if_neg (by omega), if_neg (by omega), if_neg (by omega), if_neg (by omega)]
        have := ih (pre ++ headB 4 1 0) post (dep + 1) (by omega) (by omega)
        rw [List.append_assoc, List.length_append] at this
        rw [show 3 * n + 5 = (3 * n + 4) + 1 from rfl, show 1 * (4 - 3) = 0 + 1 from rfl, wfN, (wf_le L _ (show 3 * n + 3 ≤ 3 * n + 4 by omega)).1 _ _ _ this]
    · obtain ⟨ai, hh, ha⟩ := hd_headB 5 1 0 (by omega) (by omega) pre ([2] ++ nestB true n ++ post)
      rw [show nestB true (n + 1) ++ post = headB 5 1 0 ++ ([2] ++ nestB true n ++ post) from rfl, hh]
      dsimp only
      rw [if_neg (by decide), if_pos (.inr rfl)]
      by_cases hn : L.nest < dep + 1
      · rw [if_pos hn]
      · rw [if_neg hn, if_neg (by omega), if_neg (by omega), if_neg (by omega), if_neg (by omega)]
        have hk := EncAt.uint (n := 2) (by decide) 0 (pre ++ headB 5 1 0) (nestB true n ++ post)
        rw [Enc] at hk
        obtain ⟨ai2, hk⟩ := hk
        have := ih (pre ++ headB 5 1 0 ++ [2]) post (dep + 1) (by omega) (by omega)
        simp only [List.append_assoc, List.length_append] at this hk ⊢
        rw [show 3 * n + 5 = (3 * n + 4) + 1 from rfl, show 1 * (5 - 3) = 1 + 1 from rfl, wfN, wfI]
        rw [show headB 0 2 0 = [2] from rfl] at hk
        simp only [Nat.add_assoc] at this hk ⊢
        rw [hk]
        simp only [Bool.false_eq_true, if_false]
        rw [if_neg (by decide), if_neg (by decide), if_neg (by decide)]
        dsimp only
        rw [show 3 * n + 4 = (3 * n + 3) + 1 from rfl, wfN_err this]
        rfl
end
section
open Go.RowKit

theorem ones_enc : ∀ n, EncsAt (List.replicate n 1) (List.replicate n (.int false 1))
  | 0 => EncsAt.nil
  | n + 1 => by
    have := EncsAt.cons (show EncAt [1] (.int false 1) from EncAt.uint (n := 1) (by decide) 0) (ones_enc n)
    simpa [List.replicate_succ] using this
/-- n pairs, from a number on. -/
def prsB : Nat → Nat → List UInt8
  | 0, _ => []
  | n + 1, i => (headB 0 i 0 ++ [1]) ++ prsB n (i + 1)
def prsT : Nat → Nat → List Tr
  | 0, _ => []
  | n + 1, i => .int false i :: .int false 1 :: prsT n (i + 1)
theorem prsT_length : ∀ n i, (prsT n i).length = n * 2
  | 0, i => rfl
  | n + 1, i => by simp [prsT, prsT_length n]; omega
theorem prs_enc : ∀ n i, i + n < 1000 → EncsAt (prsB n i) (prsT n i)
  | 0, i, h => EncsAt.nil
  | n + 1, i, h => by
    have := EncsAt.cons (EncAt.uint (n := i) (by omega) 0) (EncsAt.cons (show EncAt [1] (.int false 1) from EncAt.uint (n := 1) (by decide) 0) (prs_enc n (i + 1) (by omega)))
    simpa [prsB, prsT, List.append_assoc] using this
theorem many_el (L : Lim) (hL : 1 ≤ L.nest) (n : Nat) (hn : L.el < n) (hn2 : n < 1000) (bs : List UInt8) : wfI L (headB 4 n 0 ++ bs) 1 0 0 = some (.error 6) := by
  obtain ⟨ai, hh, ha⟩ := hd_headB 4 n 0 (by omega) (by omega) [] bs
  simp only [List.nil_append, List.length_nil] at hh
  rw [wfI, hh]
  dsimp only
  rw [if_neg (by decide), if_pos (.inl rfl), if_neg (by omega), if_neg (by omega), if_neg (by omega), if_pos ⟨rfl, hn⟩]
theorem many_pa (L : Lim) (hL : 1 ≤ L.nest) (n : Nat) (hn : L.pa < n) (hn2 : n < 1000) (bs : List UInt8) : wfI L (headB 5 n 0 ++ bs) 1 0 0 = some (.error 7) := by
  obtain ⟨ai, hh, ha⟩ := hd_headB 5 n 0 (by omega) (by omega) [] bs
  simp only [List.nil_append, List.length_nil] at hh
  rw [wfI, hh]
  dsimp only
  rw [if_neg (by decide), if_pos (.inr rfl), if_neg (by omega), if_neg (by omega), if_neg (by omega), if_neg (by omega), if_pos ⟨rfl, hn⟩]
theorem ones_dp : ∀ n, Tr.dps (List.replicate n (.int false 1)) = 0
  | 0 => by simp [Tr.dps]
  | n + 1 => by simp [List.replicate_succ, Tr.dps, Tr.dp, ones_dp n]
theorem ones_fits (L : Lim) : ∀ n, Tr.fitss L (List.replicate n (.int false 1))
  | 0 => by simp [Tr.fitss]
  | n + 1 => by simp [List.replicate_succ, Tr.fitss, Tr.fits, ones_fits L n]
theorem ones_leaf (X : Cx) (N : Nt) : ∀ n, LeavesOK X N (List.replicate n (.int false 1))
  | 0 => by simp [LeavesOK]
  | n + 1 => by simp [List.replicate_succ, LeavesOK, LeafOK, ones_leaf X N n]
theorem prs_dp : ∀ n i, Tr.dps (prsT n i) = 0
  | 0, i => by simp [prsT, Tr.dps]
  | n + 1, i => by simp [prsT, Tr.dps, Tr.dp, prs_dp n]
theorem prs_fits (L : Lim) : ∀ n i, Tr.fitss L (prsT n i)
  | 0, i => by simp [prsT, Tr.fitss]
  | n + 1, i => by simp [prsT, Tr.fitss, Tr.fits, prs_fits L n]
theorem prs_leaf (X : Cx) (N : Nt) : ∀ n i, LeavesOK X N (prsT n i)
  | 0, i => by simp [prsT, LeavesOK]
  | n + 1, i => by simp [prsT, LeavesOK, LeafOK, prs_leaf X N n]
end
section
open Go.RowKit

theorem dec1 : (dec 1).length = 1 := by decide +kernel
theorem dec2 : (dec 2).length = 1 := by decide +kernel
theorem nest_note (mp : Bool) (N : Nt) : ∀ n, (note N (nestT mp n)).2 = none ∧ 0 < (note N (nestT mp n)).1.length ∧ (note N (nestT mp n)).1.length ≤ 10 * n + 10
  | 0 => by simp [nestT, note, txt, dec1]
  | n + 1 => by
    obtain ⟨h1, h2, h3⟩ := nest_note mp N n
    cases mp
    · have e : note N (nestT false (n + 1)) = thenR (txt [91]) (thenR (txt []) (thenR (note N (nestT false n)) (txt [93]))) := by simp [nestT, note, notes, arrR]
      rw [e, thenR_ok h1]
      simp only [thenR_txt]
      refine ⟨rfl, ?_, ?_⟩
      · simp [txt]
      · simp only [txt, List.length_append, List.length_cons, List.length_nil]; omega
    · have e : note N (nestT true (n + 1)) = thenR (txt [123]) (thenR (txt []) (thenR (txt (dec 2)) (thenR (txt [58, 32]) (thenR (note N (nestT true n)) (txt [125]))))) := by simp [nestT, note, notes, mapR, pairs]
      rw [e, thenR_ok h1]
      simp only [thenR_txt]
      refine ⟨rfl, ?_, ?_⟩
      · simp [txt]
      · simp only [txt, List.length_append, List.length_cons, List.length_nil, dec2]; omega
theorem ones_note (N : Nt) : ∀ n i, (arrR [93] i (notes N (List.replicate n (.int false 1)))).2 = none ∧ (arrR [93] i (notes N (List.replicate n (.int false 1)))).1.length ≤ 3 * n + 1
  | 0, i => by simp [notes, arrR, txt]
  | n + 1, i => by
    obtain ⟨h1, h2⟩ := ones_note N n (i + 1)
    have e : arrR [93] i (notes N (List.replicate (n + 1) (.int false 1))) = thenR (txt (if i = 0 then [] else [44, 32])) (thenR (txt (dec 1)) (arrR [93] (i + 1) (notes N (List.replicate n (.int false 1))))) := by simp [List.replicate_succ, notes, arrR, note]
    rw [e]
    simp only [thenR_txt]
    refine ⟨h1, ?_⟩
    have : (if i = 0 then ([] : List UInt8) else [44, 32]).length ≤ 2 := by split <;> simp
    simp only [List.length_append, dec1]
    omega
theorem dec_small {n : Nat} (h : n < 1000) : (dec n).length ≤ 3 := dec_length n 3 (by omega) (by omega)
theorem prs_note (N : Nt) : ∀ n j i, j + n < 1000 → (mapR [125] i (pairs (notes N (prsT n j)))).2 = none ∧ (mapR [125] i (pairs (notes N (prsT n j)))).1.length ≤ 8 * n + 1
  | 0, j, i, h => by simp [prsT, notes, pairs, mapR, txt]
  | n + 1, j, i, h => by
    obtain ⟨h1, h2⟩ := prs_note N n (j + 1) (i + 1) (by omega)
    have e : mapR [125] i (pairs (notes N (prsT (n + 1) j))) = thenR (txt (if i = 0 then [] else [44, 32])) (thenR (txt (dec j)) (thenR (txt [58, 32]) (thenR (txt (dec 1)) (mapR [125] (i + 1) (pairs (notes N (prsT n (j + 1)))))))) := by simp [prsT, notes, pairs, mapR, note]
    rw [e]
    simp only [thenR_txt]
    refine ⟨h1, ?_⟩
    have : (if i = 0 then ([] : List UInt8) else [44, 32]).length ≤ 2 := by split <;> simp
    have := dec_small (n := j) (by omega)
    simp only [List.length_append, dec1, List.length_cons, List.length_nil]
    omega
end
section
open Go.RowKit

def limData (k n : Nat) : List UInt8 := if k = 0 then nestB false n else if k = 1 then nestB true n else if k = 2 then headB 4 n 0 ++ List.replicate n 1 else headB 5 n 0 ++ prsB n 0
def limKind (k : Nat) : Nat := if k = 0 ∨ k = 1 then 5 else if k = 2 then 6 else 7
def nt0 : Nt := ⟨fun _ => [], fun _ => ([], none), fun _ _ => [], fun _ _ => ([], none)⟩
/-- What is answered to a test of limits. -/
def LimAns (lim k n : Nat) (r : R) : Prop := r.1.length ≤ room ∧ (lim < n → r = ([], some (limKind k))) ∧ (¬ lim < n → r.2 = none ∧ 0 < r.1.length)
theorem nest_says (mp : Bool) (lim n : Nat) (h1 : 16 ≤ lim) (h2 : lim ≤ 60) (hn : n < 80) (M : Md) (sq : Bool) : ∃ r, Says (nestB mp n) ⟨lim, lim, lim⟩ M sq r ∧ r.1.length ≤ room ∧ (lim < n → r = ([], some 5)) ∧ (¬ lim < n → r.2 = none ∧ 0 < r.1.length) := by
  by_cases h : lim < n
  · refine ⟨([], some 5), ?_, by simp, fun _ => rfl, fun hh => absurd h hh⟩
    have := nest_deep mp ⟨lim, lim, lim⟩ (by dsimp only; omega) (by dsimp only; omega) n [] [] 0 (by dsimp only; omega) (by dsimp only; omega)
    simp only [List.nil_append, List.append_nil, List.length_nil] at this
    refine says_bad ?_ (by decide) this
    cases n <;> cases mp <;> simp [nestB]
  · obtain ⟨a, b, c⟩ := nest_note mp nt0 n
    refine ⟨note nt0 (nestT mp n), ?_, by unfold room; omega, fun hh => absurd hh h, fun _ => ⟨a, b⟩⟩
    exact says_one (by dsimp only; omega) (nest_enc mp n).whole (nest_fits mp _ (by dsimp only; omega) (by dsimp only; omega) n) (by rw [nest_dp]; dsimp only; omega) (fun X _ _ _ => nest_leaf mp X nt0 n)
theorem lim_says (lim k n : Nat) (h1 : 16 ≤ lim) (h2 : lim ≤ 60) (hn : n < 80) (M : Md) (sq : Bool) : ∃ r, Says (limData k n) ⟨lim, lim, lim⟩ M sq r ∧ LimAns lim k n r := by
  unfold limData LimAns limKind
  by_cases k0 : k = 0
  · subst k0
    exact nest_says false lim n h1 h2 hn M sq
  · by_cases k1 : k = 1
    · subst k1
      exact nest_says true lim n h1 h2 hn M sq
    · rw [if_neg k0, if_neg k1]
      by_cases k2 : k = 2
      · subst k2
        rw [if_pos rfl]
        by_cases h : lim < n
        · refine ⟨([], some 6), ?_, by simp, fun _ => rfl, fun hh => absurd h hh⟩
          exact says_bad (by have := headB_pos 4 n 0; simp; omega) (by decide) (many_el ⟨lim, lim, lim⟩ (by dsimp only; omega) n h (by omega) _)
        · obtain ⟨a, b⟩ := ones_note nt0 n 0
          refine ⟨note nt0 (.arr false (List.replicate n (.int false 1))), ?_, ?_, fun hh => absurd hh h, fun _ => ?_⟩
          · have hE := EncAt.arr (l := List.replicate n (.int false 1)) 0 (by simp; omega) (ones_enc n)
            rw [List.length_replicate] at hE
            refine says_one (by dsimp only; omega) hE.whole ?_ ?_ (fun X _ _ _ => ?_)
            · rw [Tr.fits]; exact ⟨by simp; omega, ones_fits _ n⟩
            · rw [Tr.dp, ones_dp]; dsimp only; omega
            · rw [LeafOK]; exact ⟨by simp; omega, ones_leaf X nt0 n⟩
          · rw [note, thenR_txt]; simp only [List.length_append]; unfold room; simp; omega
          · rw [note, thenR_txt]; exact ⟨a, by simp⟩
      · rw [if_neg k2]
        by_cases h : lim < n
        · refine ⟨([], some 7), ?_, by simp, fun _ => by simp [k0, k1, k2], fun hh => absurd h hh⟩
          exact says_bad (by have := headB_pos 5 n 0; simp; omega) (by decide) (many_pa ⟨lim, lim, lim⟩ (by dsimp only; omega) n h (by omega) _)
        · obtain ⟨a, b⟩ := prs_note nt0 n 0 0 (by omega)
          refine ⟨note nt0 (.map false (prsT n 0)), ?_, ?_, fun hh => absurd hh h, fun _ => ?_⟩
          · have hE := EncAt.map (l := prsT n 0) 0 n (prsT_length n 0) (by omega) (prs_enc n 0 (by omega))
            refine says_one (by dsimp only; omega) hE.whole ?_ ?_ (fun X _ _ _ => ?_)
            · rw [Tr.fits]; exact ⟨by rw [prsT_length]; dsimp only; omega, prs_fits _ n 0⟩
            · rw [Tr.dp, prs_dp]; dsimp only; omega
            · rw [LeafOK]; exact ⟨by rw [prsT_length]; omega, prs_leaf X nt0 n 0⟩
          · rw [note, thenR_txt]; simp only [List.length_append]; unfold room; simp; omega
          · rw [note, thenR_txt]; exact ⟨a, by simp⟩
end
section
open Go.RowKit

theorem rem_nat (a : Int) (m : Nat) (hm : 0 < m) (hm2 : m < 1000) : ∃ k : Nat, k < m ∧ (IntKind.u64.wrap a).tmod m = (k : Int) ∧ wrap64 ((IntKind.u64.wrap a).tmod m) = (k : Int) := by
  have h0 : 0 ≤ IntKind.u64.wrap a := by show 0 ≤ a % 18446744073709551616; omega
  have h1 : 0 ≤ IntKind.u64.wrap a % (m : Int) := Int.emod_nonneg _ (by omega)
  have h2 : IntKind.u64.wrap a % (m : Int) < m := Int.emod_lt_of_pos _ (by omega)
  rw [Int.tmod_eq_emod_of_nonneg h0]
  generalize IntKind.u64.wrap a % (m : Int) = z at *
  refine ⟨z.toNat, by omega, by omega, ?_⟩
  unfold wrap64
  omega
end
end Go.Proofs.YteodinhkhhaafaaGreatDoor
