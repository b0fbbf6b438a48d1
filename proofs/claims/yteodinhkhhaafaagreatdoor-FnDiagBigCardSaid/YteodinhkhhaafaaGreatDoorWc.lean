/- Floats: half to single, single from bits, what is acceptable. Floats: single from half; a float that a decoder takes; the head that is checked. -/
import Derived.Test.YteodinhkhhaafaaGreatDoorWb
set_option linter.unusedVariables false
set_option linter.unusedSimpArgs false
namespace Go.Proofs.YteodinhkhhaafaaGreatDoor
section
open Go.RowKit

/-- A fraction shifted till its highest bit stands at 23; the exponent goes down. -/
def subn : Nat → Nat → Nat → Nat × Nat
  | 0, c, E => (c, E)
  | f + 1, c, E => if c < 8388608 then subn f (c * 2) (E - 1) else (c, E)
/-- The 32 bits of a number of 16. -/
def h2s (x : Nat) : Nat :=
  let s := (x &&& 32768) * 65536
  let e := (x &&& 31744) / 1024
  let c := (x &&& 1023) * 8192
  if e = 31 then (if c = 0 then (s ||| 2139095040) ||| c else (s ||| 2143289344) ||| c)
  else if e = 0 then (if c = 0 then s else (s ||| (subn 11 c 113).2 * 8388608) ||| ((subn 11 c 113).1 &&& 8388607))
  else (s ||| (e + 112) * 8388608) ||| c

def U32 (n : Nat) : Value := .int .u32 (n : Int)
theorem or_u32 (a b : Nat) (ha : a < 4294967296) (hb : b < 4294967296) : bits .or .u32 (a : Int) (b : Int) = ((a ||| b : Nat) : Int) := u32_or_nat a b ha hb
theorem or_lt32 {a b : Nat} (ha : a < 4294967296) (hb : b < 4294967296) : a ||| b < 4294967296 := Nat.or_lt_two_pow (n := 32) ha hb


theorem or2_u32 (a b c : Nat) (ha : a < 4294967296) (hb : b < 4294967296) (hc : c < 4294967296) : bits .or .u32 (bits .or .u32 (a : Int) (b : Int)) (c : Int) = ((a ||| b ||| c : Nat) : Int) := by
  rw [or_u32 a b ha hb, or_u32 _ c (or_lt32 ha hb) hc]

section
variable (x a b c : Nat) (w : World) (e1 : bits .and .u16 (x : Int) 32768 = (a : Int)) (e2 : bits .and .u16 (x : Int) 31744 = (b : Int)) (e3 : bits .and .u16 (x : Int) 1023 = (c : Int)) (la : a ≤ 32768) (lb : b ≤ 31744) (lc : c ≤ 1023)
include e1 e2 e3 la lb lc
theorem half_inf (h1 : ((b : Int) / 1024 == 31) = true) (h2 : ((c : Int) * 8192 == 0) = true) :
    Calls Tryz.prog 201 #[.int .u16 (x : Int)] w fun e w' => e = .returned (.int .u32 ((a * 65536 ||| 2139095040 ||| c * 8192 : Nat) : Int)) ∧ w' = w := by
  rw [← or2_u32 _ _ _ (by omega) (by omega) (by omega)]
  go_enter Tryz.func201, Tryz.ntmps201
  go_wp2
  go_ret
  exact ⟨rfl, rfl⟩
theorem half_nan (h1 : ((b : Int) / 1024 == 31) = true) (h2 : ((c : Int) * 8192 == 0) = false) :
    Calls Tryz.prog 201 #[.int .u16 (x : Int)] w fun e w' => e = .returned (.int .u32 ((a * 65536 ||| 2143289344 ||| c * 8192 : Nat) : Int)) ∧ w' = w := by
  rw [← or2_u32 _ _ _ (by omega) (by omega) (by omega)]
  go_enter Tryz.func201, Tryz.ntmps201
  go_wp2
  go_ret
  exact ⟨rfl, rfl⟩
theorem half_zero (h1 : ((b : Int) / 1024 == 31) = false) (h0 : ((b : Int) / 1024 == 0) = true) (h2 : ((c : Int) * 8192 == 0) = true) :
    Calls Tryz.prog 201 #[.int .u16 (x : Int)] w fun e w' => e = .returned (.int .u32 ((a * 65536 : Nat) : Int)) ∧ w' = w := by
  go_enter Tryz.func201, Tryz.ntmps201
  go_wp2
  go_ret
  exact ⟨rfl, rfl⟩
theorem half_norm (h1 : ((b : Int) / 1024 == 31) = false) (h0 : ((b : Int) / 1024 == 0) = false) :
    Calls Tryz.prog 201 #[.int .u16 (x : Int)] w fun e w' => e = .returned (.int .u32 ((a * 65536 ||| (b / 1024 + 112) * 8388608 ||| c * 8192 : Nat) : Int)) ∧ w' = w := by
  rw [← or2_u32 _ _ _ (by omega) (by omega) (by omega)]
  go_enter Tryz.func201, Tryz.ntmps201
  go_wp2
  go_ret
  exact ⟨rfl, rfl⟩
omit e1 e2 e3 la lb lc in
theorem subn_lt : ∀ (f c E : Nat), c < 16777216 → (subn f c E).1 < 16777216
  | 0, c, E, h => h
  | f + 1, c, E, h => by
    unfold subn
    split
    · exact subn_lt f _ _ (by omega)
    · exact h
theorem half_sub (h1 : ((b : Int) / 1024 == 31) = false) (h0 : ((b : Int) / 1024 == 0) = true) (h2 : ((c : Int) * 8192 == 0) = false) :
    Calls Tryz.prog 201 #[.int .u16 (x : Int)] w fun e w' => e = .returned (.int .u32 ((a * 65536 ||| (subn 11 (c * 8192) 113).2 * 8388608 ||| ((subn 11 (c * 8192) 113).1 &&& 8388607) : Nat) : Int)) ∧ w' = w := by
  obtain ⟨p, hp⟩ : ∃ p, subn 11 (c * 8192) 113 = p := ⟨_, rfl⟩
  rw [hp]
  replace hp := Lib.hid hp
  go_enter Tryz.func201, Tryz.ntmps201
  go_wp2
  go_loop [4, 5] (fun ve vc => ∃ f k E : Nat, 8192 ≤ k ∧ k < 16777216 ∧ 8388608 ≤ k * 2 ^ f ∧ 103 + f ≤ E + 1 ∧ E ≤ 113 ∧ Hid (subn f k E = p) ∧ ve = .int .u32 (IntKind.u32.wrap ((E : Int) - 112)) ∧ vc = .int .u32 (k : Int)) (fun _ vc => 16777216 - (intOf vc).toNat)
  case atStart =>
    have hb : b / 1024 = 0 := by simp at h0; omega
    refine ⟨11, c * 8192, 113, by simp at h2; omega, by omega, by simp at h2; omega, by omega, by omega, hp, ?_, rfl⟩
    rw [show (b : Int) / 1024 = 0 by omega]
    rfl
  case round =>
    obtain ⟨f, k, E, g1, g2, g3, g4, g5, hq, rfl, rfl⟩ := hrel
    have key : bits .and .u32 (k : Int) 2139095040 = ((k / 8388608 * 8388608 : Nat) : Int) := by
      rw [show (2139095040 : Int) = ((2139095040 : Nat) : Int) from rfl, u32_and_nat k 2139095040 (by omega) (by omega)]
      have e : k &&& 2139095040 = k / 8388608 * 8388608 := by
        have h24 : k &&& 16777215 = k := by rw [show (16777215 : Nat) = 2 ^ 24 - 1 from rfl, Nat.and_two_pow_sub_one_eq_mod, Nat.mod_eq_of_lt (by omega)]
        rw [← h24, Nat.and_assoc, show (16777215 &&& 2139095040 : Nat) = 2 ^ 23 from rfl, h24, nat_bit]
        omega
      rw [e]
    by_cases hk : k < 8388608
    · have ht : (bits .and .u32 (k : Int) 2139095040 == 0) = true := by rw [key]; simp; omega
      replace key := Lib.hid key
      go_wp2
      go_round
      case rel =>
        obtain ⟨f, rfl⟩ : ∃ f', f = f' + 1 := by
          rcases f with _ | f
          · simp at g3; omega
          · exact ⟨f, rfl⟩
        refine ⟨f, k * 2, E - 1, by omega, by omega, by rw [Nat.pow_succ] at g3; rw [Nat.mul_assoc, Nat.mul_comm 2]; exact g3, by omega, by omega, ?_, ?_, by go_num⟩
        · have := hq.out
          unfold subn at this
          rw [if_pos hk] at this
          exact this
        · rw [IntKind.wrap_u32]
          congr 1
          omega
      case measure => simp [intOf]; omega
    · have ht : (bits .and .u32 (k : Int) 2139095040 == 0) = false := by rw [key]; simp; omega
      replace key := Lib.hid key
      have hs : subn f k E = (k, E) := by
        rcases f with _ | f
        · rfl
        · unfold subn
          rw [if_neg hk]
      rw [hs] at hq
      have hq := hq.out
      subst hq
      have m1 : bits .and .u32 (k : Int) 8388607 = ((k &&& 8388607 : Nat) : Int) := u32_and_nat k 8388607 (by omega) (by omega)
      have l1 : k &&& 8388607 ≤ 8388607 := Nat.and_le_right
      have fin : bits .or .u32 (bits .or .u32 ((a : Int) * 65536) ((E : Int) % 4294967296 * 8388608)) (bits .and .u32 (k : Int) 8388607) = ((a * 65536 ||| E * 8388608 ||| k &&& 8388607 : Nat) : Int) := by
        rw [m1, ← or2_u32 _ _ _ (by omega) (by omega) (by omega), show (E : Int) % 4294967296 * 8388608 = ((E * 8388608 : Nat) : Int) by omega]
        rfl
      replace fin := Lib.hid fin
      clear m1 l1
      go_wp2
      go_ret
      exact ⟨by rw [← fin.out]; rfl, rfl⟩
end

/-- The 32 bits of a number of 16. -/
theorem half_any (x : Nat) (hx : x < 65536) (w : World) :
    Calls Tryz.prog 201 #[.int .u16 (x : Int)] w fun e w' => e = .returned (.int .u32 (h2s x : Int)) ∧ w' = w := by
  have e1 : bits .and .u16 (x : Int) 32768 = ((x &&& 32768 : Nat) : Int) := u16_and_nat x 32768 hx (by decide)
  have e2 : bits .and .u16 (x : Int) 31744 = ((x &&& 31744 : Nat) : Int) := u16_and_nat x 31744 hx (by decide)
  have e3 : bits .and .u16 (x : Int) 1023 = ((x &&& 1023 : Nat) : Int) := u16_and_nat x 1023 hx (by decide)
  have la : x &&& 32768 ≤ 32768 := Nat.and_le_right
  have lb : x &&& 31744 ≤ 31744 := Nat.and_le_right
  have lc : x &&& 1023 ≤ 1023 := Nat.and_le_right
  unfold h2s
  dsimp only
  by_cases h1 : (x &&& 31744) / 1024 = 31
  · rw [if_pos h1]
    by_cases h2 : (x &&& 1023) * 8192 = 0
    · rw [if_pos h2]
      exact half_inf x _ _ _ w e1 e2 e3 la lb lc (by simp; omega) (by simp; omega)
    · rw [if_neg h2]
      exact half_nan x _ _ _ w e1 e2 e3 la lb lc (by simp; omega) (by simp; omega)
  · rw [if_neg h1]
    by_cases h0 : (x &&& 31744) / 1024 = 0
    · rw [if_pos h0]
      by_cases h2 : (x &&& 1023) * 8192 = 0
      · rw [if_pos h2]
        exact half_zero x _ _ _ w e1 e2 e3 la lb lc (by simp; omega) (by simp; omega) (by simp; omega)
      · rw [if_neg h2]
        exact half_sub x _ _ _ w e1 e2 e3 la lb lc (by simp; omega) (by simp; omega) (by simp; omega)
    · rw [if_neg h0]
      exact half_norm x _ _ _ w e1 e2 e3 la lb lc (by simp; omega) (by simp; omega)
end
section
open Go.RowKit

theorem ext183 (n : Nat) (w : World) : (callFunc 183 #[.int .u32 (n : Int)]).run Tryz.prog w = .ok (.value (.float .f32 n)) w :=
  (run_callFunc_extern Tryz.func183 (by kernel_rfl) (by kernel_rfl) (by kernel_rfl) (show Extern.find Tryz.f183 = some Extern.MathFloatBits.float32frombits by kernel_rfl) _ w).trans rfl
theorem ext184 (n : Nat) (w : World) : (callFunc 184 #[.int .u64 (n : Int)]).run Tryz.prog w = .ok (.value (.float .f64 n)) w :=
  (run_callFunc_extern Tryz.func184 (by kernel_rfl) (by kernel_rfl) (by kernel_rfl) (show Extern.find Tryz.f184 = some Extern.MathFloatBits.float64frombits by kernel_rfl) _ w).trans rfl
theorem ext202 (n : Nat) (w : World) : (callFunc 202 #[.float .f64 n]).run Tryz.prog w = .ok (.value (.int .u64 (n : Int))) w :=
  (run_callFunc_extern Tryz.func202 (by kernel_rfl) (by kernel_rfl) (by kernel_rfl) (show Extern.find Tryz.f202 = some Extern.MathFloatBits.float64bits by kernel_rfl) _ w).trans rfl

theorem float32_any (x : Nat) (hx : x < 65536) (w : World) :
    Calls Tryz.prog 182 #[.int .u16 (x : Int)] w fun e w' => e = .returned (.float .f32 (h2s x)) ∧ w' = w := by
  have K := Lib.hid (half_any x hx)
  clear hx
  generalize h2s x = y at K
  have he := ext183 y
  go_enter Tryz.func182, Tryz.ntmps182
  go_wp2_with (go_at_call 201; refine (K.out _).mono ?_; rintro e w' ⟨rfl, rfl⟩)
  go_wp2
  go_ret
  exact ⟨rfl, rfl⟩

/-- The modes of a decoder: all as they are by default, but for the three limits. -/
def DecM (w : World) (dm nest elems pairs : Nat) : Prop :=
  w.heap[dm]? = some (.cells #[.int .i64 0, .int .i64 (nest : Int), .int .i64 (elems : Int), .int .i64 (pairs : Int), .int .i64 0, .int .i64 0, .int .i64 0, .int .i64 0, .int .i64 0, .int .i64 0, .int .i64 0, .pointer none, .int .i64 0, .int .i64 0, .int .i64 0] 239 (0, 0))
theorem DecM.fr {S : List Nat} {w w' : World} {dm n e p : Nat} (h : DecM w dm n e p) (hf : Fr S w w') (hn : dm ∉ S) : DecM w' dm n e p := hf.blk h hn
theorem DecM.cell {w : World} {dm n e p : Nat} (h : DecM w dm n e p) (i : Nat) : w.cell? ⟨dm, i, none⟩ = (#[.int .i64 0, .int .i64 (n : Int), .int .i64 (e : Int), .int .i64 (p : Int), .int .i64 0, .int .i64 0, .int .i64 0, .int .i64 0, .int .i64 0, .int .i64 0, .int .i64 0, .pointer none, .int .i64 0, .int .i64 0, .int .i64 0] : Array Value)[i]? := cell_blk h i

theorem acceptableFloat {w : World} {d db o c dm n el pa : Nat} {xs : List UInt8} {v : Value} (h : DecV w d db o c dm xs v) (hm : DecM w dm n el pa) (b : Nat) :
    Calls Tryz.prog 192 #[.pointer (some ⟨d, 0, none⟩), .float .f64 b] w fun e w' => e = .returned .nilIface ∧ w' = w := by
  have h2 : w.cell? ⟨d, 2, none⟩ = some (.pointer (some ⟨dm, 0, none⟩)) := cell_blk h.blk 2
  have h12 : w.cell? ⟨dm, 12, none⟩ = some (.int .i64 0) := hm.cell 12
  have h13 : w.cell? ⟨dm, 13, none⟩ = some (.int .i64 0) := hm.cell 13
  go_enter Tryz.func192, Tryz.ntmps192
  go_wp2
  go_ret
  exact ⟨rfl, rfl⟩

/-- A single made double: some float; whether an order is drawn hangs on the bits alone. -/
theorem convert_f32 (b : Nat) : (∃ f : World → Nat, ∀ w, (convert 291 287 (.float .f32 b)).run Tryz.prog w = .ok (.float .f64 (f w)) w) ∨ (∃ f : World → Nat, ∀ w, (convert 291 287 (.float .f32 b)).run Tryz.prog w = .ok (.float .f64 (f w)) w.drew) := by
  have hc : ∀ w, (convert 291 287 (.float .f32 b)).run Tryz.prog w = (Conv.floatToFloat .f32 b .f64).run Tryz.prog w := fun w => by
    simp [convert, run_underlying Tryz.underlying291, run_underlying Tryz.underlying287]
  simp only [hc]
  unfold Conv.floatToFloat
  simp only [reduceCtorEq, if_false]
  split
  · simp only [Sem.run_bind, run_choose_drew]
    by_cases hq : (Question.nanConv .f64 b).forced = true
    · exact .inl ⟨fun w => 0, fun w => by rw [if_pos hq]; rfl⟩
    · exact .inr ⟨fun w => (Question.nanConv .f64 b).cut (w.tape w.drawn (Question.nanConv .f64 b)), fun w => by rw [if_neg hq]; rfl⟩
  · exact .inl ⟨_, fun w => rfl⟩
  · skip
    split
    · simp only [Sem.run_bind, run_choose_drew]
      by_cases hq : (Question.floatToFloat b).forced = true
      · exact .inl ⟨fun w => 0, fun w => by rw [if_pos hq]; rfl⟩
      · exact .inr ⟨fun w => (Question.floatToFloat b).cut (w.tape w.drawn (Question.floatToFloat b)), fun w => by rw [if_neg hq]; rfl⟩
    · exact .inl ⟨fun _ => _, fun w => rfl⟩
end
end Go.Proofs.YteodinhkhhaafaaGreatDoor
