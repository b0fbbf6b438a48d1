/- The notation of a tree; item writes it. item writes the notation of what is encoded. What Diag says of one item, and of what is not well-formed. -/
import Derived.Test.YteodinhkhhaafaaGreatDoorXc
import Derived.Test.YteodinhkhhaafaaGreatDoorXe
import Derived.Test.YteodinhkhhaafaaGreatDoorXf
import Derived.Test.YteodinhkhhaafaaGreatDoorTb
import Derived.Test.YteodinhkhhaafaaGreatDoorXa
set_option linter.unusedVariables false
set_option linter.unusedSimpArgs false
namespace Go.Proofs.YteodinhkhhaafaaGreatDoor
section
open Go.RowKit

/-- How leaves are noted. -/
structure Nt where
  by_ : List UInt8 → List UInt8
  tx : List UInt8 → R
  fl : Nat → Nat → List UInt8
  big : Nat → Tr → R
def pairs : List R → List (R × R)
  | a :: b :: l => (a, b) :: pairs l
  | _ => []
def primT (fl : Nat → Nat → List UInt8) (ai v : Nat) : R :=
  if ai = 20 then txt [102, 97, 108, 115, 101] else if ai = 21 then txt [116, 114, 117, 101] else if ai = 22 then txt [110, 117, 108, 108]
  else if ai = 23 then txt [117, 110, 100, 101, 102, 105, 110, 101, 100] else if ai = 25 ∨ ai = 26 ∨ ai = 27 then txt (fl ai v)
  else thenR (txt [115, 105, 109, 112, 108, 101, 40]) (thenR (txt (dec v)) (txt [41]))
mutual
/-- A tree's notation. -/
def note (N : Nt) : Tr → R
  | .int false n => txt (dec n)
  | .int true n => txt (45 :: dec (n + 1))
  | .str false b => txt (N.by_ b)
  | .str true b => N.tx b
  | .chk tx [] => txt (if tx then [34, 34, 95] else [39, 39, 95])
  | .chk tx (t :: l) => thenR (txt [40, 95, 32]) (arrR [41] 0 (note N t :: notes N l))
  | .arr opn l => thenR (txt (if opn then [91, 95, 32] else [91])) (arrR [93] 0 (notes N l))
  | .map opn l => thenR (txt (if opn then [123, 95, 32] else [123])) (mapR [125] 0 (pairs (notes N l)))
  | .tag n t => if n = 2 ∨ n = 3 then N.big n t else thenR (txt (dec n)) (thenR (txt [40]) (thenR (note N t) (txt [41])))
  | .prim ai v => primT N.fl ai v
def notes (N : Nt) : List Tr → List R
  | [] => []
  | t :: l => note N t :: notes N l
end
theorem notes_length (N : Nt) : ∀ l, (notes N l).length = l.length
  | [] => rfl
  | t :: l => by simp [notes, notes_length N l]
theorem pairs_length : ∀ (l : List R) (v : Nat), l.length = v * 2 → (pairs l).length = v
  | [], v, h => by simp at h; simp [pairs]; omega
  | [a], v, h => by simp at h; omega
  | a :: b :: l, v, h => by
    rw [pairs, List.length_cons, pairs_length l (v - 1) (by simp at h; omega)]
    simp at h
    omega
/-- A leaf: its contract is given. -/
def Tr.leaf : Tr → Bool
  | .int true n => decide (9223372036854775808 ≤ n)
  | .str _ _ => true
  | .tag n _ => decide (n = 2 ∨ n = 3)
  | .prim ai _ => decide (ai = 25 ∨ ai = 26 ∨ ai = 27)
  | _ => false
mutual
/-- The leaves' contracts. -/
def LeafOK (X : Cx) (N : Nt) : Tr → Prop
  | .chk tx l => l.length ≤ 2147483647 ∧ LeavesOK X N l
  | .arr opn l => l.length ≤ 2147483647 ∧ LeavesOK X N l
  | .map opn l => l.length ≤ 2147483647 ∧ LeavesOK X N l
  | .tag n t => if n = 2 ∨ n = 3 then ∀ off off', Enc X.xs (.tag n t) off off' → ItemC X off off' (N.big n t) else LeafOK X N t
  | .int neg n => neg = true → 9223372036854775808 ≤ n → ∀ off off', Enc X.xs (.int true n) off off' → ItemC X off off' (txt (45 :: dec (n + 1)))
  | .str tx b => ∀ off off', Enc X.xs (.str tx b) off off' → ItemC X off off' (note N (.str tx b))
  | .prim ai v => (ai = 25 ∨ ai = 26 ∨ ai = 27) → ∀ off off', Enc X.xs (.prim ai v) off off' → ItemC X off off' (txt (N.fl ai v))
def LeavesOK (X : Cx) (N : Nt) : List Tr → Prop
  | [] => True
  | t :: l => LeafOK X N t ∧ LeavesOK X N l
end
end
section
open Go.RowKit

theorem hd31 {xs : List UInt8} {off m v o : Nat} (h : hd xs off = .ok (m, 31, v, o)) : o = off + 1 ∧ ∃ hl : off < xs.length, xs[off].toNat = m * 32 + 31 := by
  obtain ⟨hl, h1, h2⟩ := byte_of_hd h
  refine ⟨?_, hl, by omega⟩
  unfold hd at h
  rw [List.getElem?_eq_getElem hl] at h
  dsimp only at h
  rw [if_neg (by omega), if_neg (by omega), if_pos h2] at h
  split at h
  · cases h
  · cases h; rfl
theorem Kids.pair {X : Cx} : ∀ (rs : List R) (o o' : Nat), rs.length % 2 = 0 → Kids X o o' rs → Kids2 X o o' (pairs rs)
  | [], o, o', h, hk => by cases hk; exact .nil _
  | [a], o, o', h, hk => by simp at h
  | a :: b :: l, o, o', h, hk => by
    cases hk with
    | cons h1 hk =>
      cases hk with
      | cons h2 hk => exact .cons h1 h2 (Kids.pair l _ _ (by simp at h; omega) hk)
theorem KidsO.pair {X : Cx} : ∀ (rs : List R) (o o' : Nat), rs.length % 2 = 0 → KidsO X o o' rs → KidsO2 X o o' (pairs rs)
  | [], o, o', h, hk => by cases hk with | nil a b => exact .nil a b
  | [a], o, o', h, hk => by simp at h
  | a :: b :: l, o, o', h, hk => by
    cases hk with
    | cons a1 b1 h1 hk =>
      cases hk with
      | cons a2 b2 h2 hk => exact .cons a1 b1 h1 h2 (KidsO.pair l _ _ (by simp at h; omega) hk)
theorem getElem_of {xs : List UInt8} {off : Nat} {b : UInt8} (h : xs[off]? = some b) : ∃ hl : off < xs.length, xs[off] = b := by
  obtain ⟨hl, e⟩ := List.getElem?_eq_some_iff.1 h
  exact ⟨hl, e⟩
mutual
theorem item_note (X : Cx) (N : Nt) : ∀ (t : Tr) (off off' : Nat), Enc X.xs t off off' → LeafOK X N t → ItemC X off off' (note N t)
  | .int false n, off, off', h, hL => by
    rw [Enc] at h
    obtain ⟨ai, h⟩ := h
    rw [note]
    exact fun w bs hS hl => di_uint hS h hl
  | .int true n, off, off', h, hL => by
    rw [LeafOK] at hL
    by_cases h63 : 9223372036854775808 ≤ n
    · rw [note]
      exact hL rfl h63 off off' h
    · rw [Enc] at h
      obtain ⟨ai, h⟩ := h
      rw [note]
      exact fun w bs hS hl => di_nint hS h (by omega) hl
  | .str tx b, off, off', h, hL => by
    rw [LeafOK] at hL
    exact hL off off' h
  | .chk tx [], off, off', h, hL => by
    rw [Enc] at h
    obtain ⟨v, o, h, hc⟩ := h
    rw [Chunks] at hc
    obtain ⟨b, hb, h255, rfl⟩ := hc
    obtain ⟨rfl, hl, hx⟩ := hd31 h
    obtain ⟨hl1, rfl⟩ := getElem_of hb
    rw [note]
    cases tx
    · exact fun w bs hS hlen => di_none_b hS hl hx hl1 h255 hlen
    · exact fun w bs hS hlen => di_none_t hS hl hx hl1 h255 hlen
  | .chk tx (t :: l), off, off', h, hL => by
    rw [Enc] at h
    rw [LeafOK] at hL
    obtain ⟨v, o, h, hc⟩ := h
    have hk := kids_chunks X N tx (t :: l) o off' hc hL.2
    rw [Chunks] at hc
    obtain ⟨b, mid, hb, h255, _, _, _⟩ := hc
    obtain ⟨rfl, hl, hx⟩ := hd31 h
    obtain ⟨hl1, rfl⟩ := getElem_of hb
    rw [note]
    rw [notes] at hk
    have hcap : (note N t :: notes N l).length ≤ 2147483647 := by rw [List.length_cons, notes_length, ← List.length_cons (a := t)]; exact hL.1
    cases tx
    · exact fun w bs hS hlen => di_chunks_b hS hl hx hl1 h255 hk hcap rfl hlen
    · exact fun w bs hS hlen => di_chunks_t hS hl hx hl1 h255 hk hcap rfl hlen
  | .arr false l, off, off', h, hL => by
    rw [Enc] at h
    rw [LeafOK] at hL
    obtain ⟨ai, o, h, h31, he⟩ := h
    have hk := kids_encs X N l o off' he hL.2
    rw [note]
    exact fun w bs hS hlen => di_list4 hS h h31 hk (notes_length N l) hL.1 rfl hlen
  | .arr true l, off, off', h, hL => by
    rw [Enc] at h
    rw [LeafOK] at hL
    obtain ⟨v, o, h, he⟩ := h
    have hk := kids_opens X N l o off' he hL.2
    obtain ⟨rfl, hl, hx⟩ := hd31 h
    rw [note]
    exact fun w bs hS hlen => di_oarr hS hl hx hk (by rw [notes_length]; exact hL.1) rfl hlen
  | .map false l, off, off', h, hL => by
    rw [Enc] at h
    rw [LeafOK] at hL
    obtain ⟨ai, v, o, h, h31, hlv, he⟩ := h
    have hk := (kids_encs X N l o off' he hL.2).pair _ _ _ (by rw [notes_length]; omega)
    rw [note]
    exact fun w bs hS hlen => di_list5 hS h h31 hk (pairs_length _ _ (by rw [notes_length]; exact hlv)) (by omega) rfl hlen
  | .map true l, off, off', h, hL => by
    rw [Enc] at h
    rw [LeafOK] at hL
    obtain ⟨v, o, h, hev, he⟩ := h
    have hk := (kids_opens X N l o off' he hL.2).pair _ _ _ (by rw [notes_length]; exact hev)
    obtain ⟨rfl, hl, hx⟩ := hd31 h
    rw [note]
    exact fun w bs hS hlen => di_omap hS hl hx hk (by rw [pairs_length _ (l.length / 2) (by rw [notes_length]; omega)]; omega) rfl hlen
  | .tag n t, off, off', h, hL => by
    rw [LeafOK] at hL
    rw [note]
    by_cases hn : n = 2 ∨ n = 3
    · rw [if_pos hn] at hL ⊢
      exact hL off off' h
    · rw [if_neg hn] at hL ⊢
      rw [Enc] at h
      obtain ⟨ai, o, h, he⟩ := h
      have hC := item_note X N t o off' he hL
      exact fun w bs hS hlen => di_tag hS h (fun e => hn (.inl e)) (fun e => hn (.inr e)) hC rfl hlen
  | .prim ai v, off, off', h, hL => by
    rw [LeafOK] at hL
    rw [note]
    unfold primT
    by_cases c0 : ai = 20
    · subst c0; rw [if_pos rfl]; rw [Enc] at h; exact fun w bs hS hlen => di_false hS h hlen
    · rw [if_neg c0]
      by_cases c1 : ai = 21
      · subst c1; rw [if_pos rfl]; rw [Enc] at h; exact fun w bs hS hlen => di_true hS h hlen
      · rw [if_neg c1]
        by_cases c2 : ai = 22
        · subst c2; rw [if_pos rfl]; rw [Enc] at h; exact fun w bs hS hlen => di_null hS h hlen
        · rw [if_neg c2]
          by_cases c3 : ai = 23
          · subst c3; rw [if_pos rfl]; rw [Enc] at h; exact fun w bs hS hlen => di_undefined hS h hlen
          · rw [if_neg c3]
            by_cases c4 : ai = 25 ∨ ai = 26 ∨ ai = 27
            · rw [if_pos c4]; exact hL c4 off off' h
            · rw [if_neg c4]; rw [Enc] at h; exact fun w bs hS hlen => di_simple hS h (by omega) rfl hlen
termination_by t => SizeOf.sizeOf t
theorem kids_encs (X : Cx) (N : Nt) : ∀ (l : List Tr) (o o' : Nat), Encs X.xs l o o' → LeavesOK X N l → Kids X o o' (notes N l)
  | [], o, o', h, hL => by
    rw [Encs] at h
    subst h
    rw [notes]
    exact .nil _
  | t :: l, o, o', h, hL => by
    rw [Encs] at h
    rw [LeavesOK] at hL
    obtain ⟨mid, h1, h2⟩ := h
    rw [notes]
    exact .cons (item_note X N t o mid h1 hL.1) (kids_encs X N l mid o' h2 hL.2)
termination_by l => SizeOf.sizeOf l
theorem kids_opens (X : Cx) (N : Nt) : ∀ (l : List Tr) (o o' : Nat), Opens X.xs l o o' → LeavesOK X N l → KidsO X o o' (notes N l)
  | [], o, o', h, hL => by
    rw [Opens] at h
    obtain ⟨b, hb, h255, rfl⟩ := h
    obtain ⟨hl1, rfl⟩ := getElem_of hb
    rw [notes]
    exact .nil hl1 h255
  | t :: l, o, o', h, hL => by
    rw [Opens] at h
    rw [LeavesOK] at hL
    obtain ⟨b, mid, hb, h255, h1, h2⟩ := h
    obtain ⟨hl1, rfl⟩ := getElem_of hb
    rw [notes]
    exact .cons hl1 h255 (item_note X N t o mid h1 hL.1) (kids_opens X N l mid o' h2 hL.2)
termination_by l => SizeOf.sizeOf l
theorem kids_chunks (X : Cx) (N : Nt) (tx : Bool) : ∀ (l : List Tr) (o o' : Nat), Chunks X.xs tx l o o' → LeavesOK X N l → KidsO X o o' (notes N l)
  | [], o, o', h, hL => by
    rw [Chunks] at h
    obtain ⟨b, hb, h255, rfl⟩ := h
    obtain ⟨hl1, rfl⟩ := getElem_of hb
    rw [notes]
    exact .nil hl1 h255
  | t :: l, o, o', h, hL => by
    rw [Chunks] at h
    rw [LeavesOK] at hL
    obtain ⟨b, mid, hb, h255, _, h1, h2⟩ := h
    obtain ⟨hl1, rfl⟩ := getElem_of hb
    rw [notes]
    exact .cons hl1 h255 (item_note X N t o mid h1 hL.1) (kids_chunks X N tx l mid o' h2 hL.2)
termination_by l => SizeOf.sizeOf l
end
end
section
open Go.RowKit

theorem thenR_nil (a : R) : thenR a ([], none) = a := by
  obtain ⟨s, q⟩ := a
  cases q <;> simp [thenR]
theorem enc_lt {xs : List UInt8} {t : Tr} {off off' : Nat} (h : Enc xs t off off') : off < xs.length := by
  obtain ⟨b, hb, _⟩ := enc_tag h
  exact (List.getElem?_eq_some_iff.1 hb).1
theorem says_one {xs : List UInt8} {L : Lim} {M : Md} {sq : Bool} {N : Nt} {t : Tr} (hL : L.nest ≤ 65535 ∧ L.el ≤ 2147483647 ∧ L.pa ≤ 2147483647) (hE : Enc xs t 0 xs.length) (hf : t.fits L) (hd : t.dp ≤ L.nest)
    (hleaf : ∀ X : Cx, X.xs = xs → X.L = L → X.M = M → LeafOK X N t) : Says xs L M sq (note N t) := by
  intro X hx hl hm
  obtain ⟨f, hw⟩ := wf_item L xs hL.2.1 hL.2.2 t 0 xs.length 0 hE hf (by omega)
  have hlt := enc_lt hE
  refine ⟨1, ?_⟩
  have h1 : wfTop X.L X.xs sq 0 none := by
    rw [hx, hl]
    refine .inr ⟨hlt, f, _, hw, ?_⟩
    cases sq <;> simp
  have h2 : wfTop X.L X.xs sq X.xs.length (some 1) := .inl ⟨rfl, rfl⟩
  have hC : ItemC X 0 X.xs.length (note N t) := item_note X N t 0 X.xs.length (by rw [hx]; exact hE) (hleaf X hx hl hm)
  have := SeqC.item (first := true) h1 hC (fun _ => SeqC.stop h2)
  rw [thenR_nil] at this
  simpa [thenR_txt] using this
theorem says_bad {xs : List UInt8} {L : Lim} {M : Md} {sq : Bool} {k f : Nat} (hlt : 0 < xs.length) (hk : k ≠ 1) (hw : wfI L xs f 0 0 = some (.error k)) : Says xs L M sq ([], some k) := by
  intro X hx hl hm
  refine ⟨0, .bad ?_ hk⟩
  rw [hx, hl]
  exact .inr ⟨hlt, f, _, hw, rfl⟩
end
end Go.Proofs.YteodinhkhhaafaaGreatDoor
