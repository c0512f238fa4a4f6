import Derived.Test.YbulkrewDoorRows
import Derived.WalkKit
import Derived.WalkSpells
import Derived.WalkLawsBesides
import Derived.Laws.Bits64
import Derived.Laws.Bits64b
import Derived.Lib.TrailingZeros
namespace Go.Proofs.YbulkrewDoor
open Go.RowKit
set_option linter.unusedVariables false

/-- A byte that a JSON string holds for itself. -/
def plainB (c : Nat) : Bool := decide (32 ≤ c) && decide (c ≠ 34) && decide (c ≠ 92) && decide (c < 128)
/-- Byte k of a word. -/
def byteAt (x k : Nat) : Nat := x / 256 ^ k % 256

theorem sub_byte20 (x k : Nat) (hx : x < 18446744073709551616) (hk : k < 8) (h : ∀ j, j < k → 32 ≤ byteAt x j) : byteAt ((x + 18446744073709551616 - 2314885530818453536) % 18446744073709551616) k = (byteAt x k + 224) % 256 := by
  have e : ∀ j, j < 8 → j < k → 32 ≤ byteAt x j := fun j _ h2 => h j h2
  unfold byteAt at *
  have h0 := e 0 (by omega)
  have h1 := e 1 (by omega)
  have h2 := e 2 (by omega)
  have h3 := e 3 (by omega)
  have h4 := e 4 (by omega)
  have h5 := e 5 (by omega)
  have h6 := e 6 (by omega)
  clear e h
  match k, hk with
  | 0, _ => omega
  | 1, _ => have := h0 (by omega); omega
  | 2, _ => have := h0 (by omega); have := h1 (by omega); omega
  | 3, _ => have := h0 (by omega); have := h1 (by omega); have := h2 (by omega); omega
  | 4, _ => have := h0 (by omega); have := h1 (by omega); have := h2 (by omega); have := h3 (by omega); omega
  | 5, _ => have := h0 (by omega); have := h1 (by omega); have := h2 (by omega); have := h3 (by omega); have := h4 (by omega); omega
  | 6, _ => have := h0 (by omega); have := h1 (by omega); have := h2 (by omega); have := h3 (by omega); have := h4 (by omega); have := h5 (by omega); omega
  | 7, _ => have := h0 (by omega); have := h1 (by omega); have := h2 (by omega); have := h3 (by omega); have := h4 (by omega); have := h5 (by omega); have := h6 (by omega); omega
theorem sub_byte01 (x k : Nat) (hx : x < 18446744073709551616) (hk : k < 8) (h : ∀ j, j < k → 1 ≤ byteAt x j) : byteAt ((x + 18446744073709551616 - 72340172838076673) % 18446744073709551616) k = (byteAt x k + 255) % 256 := by
  have e : ∀ j, j < 8 → j < k → 1 ≤ byteAt x j := fun j _ h2 => h j h2
  unfold byteAt at *
  have h0 := e 0 (by omega)
  have h1 := e 1 (by omega)
  have h2 := e 2 (by omega)
  have h3 := e 3 (by omega)
  have h4 := e 4 (by omega)
  have h5 := e 5 (by omega)
  have h6 := e 6 (by omega)
  clear e h
  match k, hk with
  | 0, _ => omega
  | 1, _ => have := h0 (by omega); omega
  | 2, _ => have := h0 (by omega); have := h1 (by omega); omega
  | 3, _ => have := h0 (by omega); have := h1 (by omega); have := h2 (by omega); omega
  | 4, _ => have := h0 (by omega); have := h1 (by omega); have := h2 (by omega); have := h3 (by omega); omega
  | 5, _ => have := h0 (by omega); have := h1 (by omega); have := h2 (by omega); have := h3 (by omega); have := h4 (by omega); omega
  | 6, _ => have := h0 (by omega); have := h1 (by omega); have := h2 (by omega); have := h3 (by omega); have := h4 (by omega); have := h5 (by omega); omega
  | 7, _ => have := h0 (by omega); have := h1 (by omega); have := h2 (by omega); have := h3 (by omega); have := h4 (by omega); have := h5 (by omega); have := h6 (by omega); omega

theorem xor_byte (x c C k : Nat) (hC : byteAt C k = c) : byteAt (x ^^^ C) k = byteAt x k ^^^ c := by
  unfold byteAt at *
  rw [show (256 : Nat) ^ k = 2 ^ (8 * k) by rw [show (256 : Nat) = 2 ^ 8 from rfl, ← Nat.pow_mul]] at *
  rw [← Nat.shiftRight_eq_div_pow, Nat.shiftRight_xor_distrib, show (256 : Nat) = 2 ^ 8 from rfl, Nat.xor_mod_two_pow, Nat.shiftRight_eq_div_pow, Nat.shiftRight_eq_div_pow, hC]

theorem top_byte (y k : Nat) : y.testBit (8 * k + 7) = decide (128 ≤ byteAt y k) := by
  unfold byteAt
  rw [show (256 : Nat) ^ k = 2 ^ (8 * k) by rw [show (256 : Nat) = 2 ^ 8 from rfl, ← Nat.pow_mul]]
  rw [Nat.testBit_eq_decide_div_mod_eq, Nat.pow_add, ← Nat.div_div_eq_div_mul]
  generalize y / 2 ^ (8 * k) = z
  by_cases h : 128 ≤ z % 256
  · rw [decide_eq_true h, decide_eq_true]; omega
  · rw [decide_eq_false h, decide_eq_false]; omega

/-- Not-and of two words. -/
def andNotN (a b : Nat) : Nat := a &&& (18446744073709551615 - b)
theorem testBit_not64 (b j : Nat) (hb : b < 18446744073709551616) (hj : j < 64) : (18446744073709551615 - b).testBit j = !b.testBit j := by
  have h := Nat.testBit_two_pow_sub_succ (n := 64) (x := b) (by simpa using hb) j
  simp only [hj, decide_true, Bool.true_and] at h
  rw [← h]
  congr 1
  omega

/-- What notPlainBytes computes. -/
def marks (x : Nat) : Nat :=
  (((andNotN ((x + 18446744073709551616 - 2314885530818453536) % 18446744073709551616) x
    ||| andNotN (((x ^^^ 2459565876494606882) + 18446744073709551616 - 72340172838076673) % 18446744073709551616) (x ^^^ 2459565876494606882))
    ||| andNotN (((x ^^^ 6655295901103053916) + 18446744073709551616 - 72340172838076673) % 18446744073709551616) (x ^^^ 6655295901103053916))
    ||| x) &&& 9259542123273814144

theorem tops_bit : ∀ j, j < 64 → (9259542123273814144 : Nat).testBit j = decide (j % 8 = 7) := by decide +kernel
theorem c22_byte : ∀ k, k < 8 → byteAt 2459565876494606882 k = 34 := by decide +kernel
theorem c5c_byte : ∀ k, k < 8 → byteAt 6655295901103053916 k = 92 := by decide +kernel
theorem plain_parts : ∀ b, b < 256 → plainB b = true → 32 ≤ b ∧ 1 ≤ b ^^^ 34 ∧ 1 ≤ b ^^^ 92 := by decide +kernel
theorem mark_byte : ∀ b, b < 256 → ((((decide (128 ≤ (b + 224) % 256) && !decide (128 ≤ b)) || (decide (128 ≤ ((b ^^^ 34) + 255) % 256) && !decide (128 ≤ b ^^^ 34))) || (decide (128 ≤ ((b ^^^ 92) + 255) % 256) && !decide (128 ≤ b ^^^ 92))) || decide (128 ≤ b)) = !plainB b := by decide +kernel
theorem byteAt_lt (x k : Nat) : byteAt x k < 256 := Nat.mod_lt _ (by omega)

theorem xor_lt64 (x C : Nat) (hx : x < 18446744073709551616) (hC : C < 18446744073709551616) : x ^^^ C < 18446744073709551616 := Nat.xor_lt_two_pow (n := 64) hx hC

/-- A mark's bit, where all bytes below are plain. -/
theorem marks_at (x k : Nat) (hx : x < 18446744073709551616) (hk : k < 8) (h : ∀ j, j < k → plainB (byteAt x j) = true) : (marks x).testBit (8 * k + 7) = !plainB (byteAt x k) := by
  have hp := fun j hj => plain_parts _ (byteAt_lt x j) (h j hj)
  have q := xor_lt64 x 2459565876494606882 hx (by omega)
  have s := xor_lt64 x 6655295901103053916 hx (by omega)
  have d0 := sub_byte20 x k hx hk (fun j hj => (hp j hj).1)
  have d1 := sub_byte01 (x ^^^ 2459565876494606882) k q hk (fun j hj => by rw [xor_byte x 34 _ j (c22_byte j (by omega))]; exact (hp j hj).2.1)
  have d2 := sub_byte01 (x ^^^ 6655295901103053916) k s hk (fun j hj => by rw [xor_byte x 92 _ j (c5c_byte j (by omega))]; exact (hp j hj).2.2)
  have x1 := xor_byte x 34 _ k (c22_byte k hk)
  have x2 := xor_byte x 92 _ k (c5c_byte k hk)
  have hj : 8 * k + 7 < 64 := by omega
  unfold marks andNotN
  rw [Nat.testBit_and, Nat.testBit_or, Nat.testBit_or, Nat.testBit_or, Nat.testBit_and, Nat.testBit_and, Nat.testBit_and, testBit_not64 _ _ hx hj, testBit_not64 _ _ q hj, testBit_not64 _ _ s hj, tops_bit _ hj,
    top_byte, top_byte, top_byte, top_byte, top_byte, top_byte, d0, d1, d2, x1, x2]
  have e : decide ((8 * k + 7) % 8 = 7) = true := by simp
  rw [e, Bool.and_true]
  exact mark_byte _ (byteAt_lt x k)

theorem marks_off (x j : Nat) (hj : j % 8 ≠ 7) : (marks x).testBit j = false := by
  unfold marks
  rw [Nat.testBit_and]
  by_cases h : j < 64
  · rw [tops_bit _ h]; simp [hj]
  · rw [show (9259542123273814144 : Nat).testBit j = false from Nat.testBit_lt_two_pow (Nat.lt_of_lt_of_le (by decide : (9259542123273814144 : Nat) < 2 ^ 64) (Nat.pow_le_pow_right (by omega) (by omega)))]
    simp
theorem marks_lt (x : Nat) : marks x < 18446744073709551616 := by
  unfold marks
  exact Nat.lt_of_le_of_lt Nat.and_le_right (by decide)

theorem marks_zero (x : Nat) (hx : x < 18446744073709551616) (h : ∀ j, j < 8 → plainB (byteAt x j) = true) : marks x = 0 := by
  apply Nat.eq_of_testBit_eq
  intro j
  rw [Nat.zero_testBit]
  by_cases h7 : j % 8 = 7
  · by_cases h64 : j < 64
    · have := marks_at x (j / 8) hx (by omega) (fun i hi => h i (by omega))
      rw [show 8 * (j / 8) + 7 = j by omega] at this
      rw [this, h _ (by omega)]
      rfl
    · exact Nat.testBit_lt_two_pow (Nat.lt_of_lt_of_le (marks_lt x) (by
        have := Nat.pow_le_pow_right (show 0 < 2 by omega) (show 64 ≤ j by omega)
        simpa using this))
  · exact marks_off x j h7

theorem ctz_of_bits (m t : Nat) (hm : m < 18446744073709551616) (ht : m.testBit t = true) (hlo : ∀ j, j < t → m.testBit j = false) : Lib.ctz 64 m = t := by
  have h0 : m ≠ 0 := fun e => by rw [e] at ht; simp at ht
  obtain ⟨q, hq, hlt⟩ := Lib.ctzFrom_spec 64 m (by omega) (by simpa using hm)
  have e : Lib.ctz 64 m = Lib.ctzFrom 64 m := by unfold Lib.ctz; rw [if_neg h0]
  rw [e]
  generalize Lib.ctzFrom 64 m = c at *
  have bit : m.testBit c = true := by
    rw [hq, Nat.mul_comm, Nat.testBit_mul_two_pow]
    simp
  rcases Nat.lt_trichotomy c t with h | h | h
  · rw [hlo c h] at bit; cases bit
  · exact h
  · have : m.testBit t = false := by
      rw [hq, Nat.mul_comm, Nat.testBit_mul_two_pow]
      simp [show ¬ c ≤ t by omega]
    rw [this] at ht; cases ht

/-- The first byte that is not plain. -/
theorem marks_first (x k : Nat) (hx : x < 18446744073709551616) (hk : k < 8) (h : ∀ j, j < k → plainB (byteAt x j) = true) (hn : plainB (byteAt x k) = false) : marks x ≠ 0 ∧ Lib.ctz 64 (marks x) = 8 * k + 7 := by
  have ht : (marks x).testBit (8 * k + 7) = true := by rw [marks_at x k hx hk h, hn]; rfl
  refine ⟨fun e => by rw [e] at ht; simp at ht, ctz_of_bits _ _ (marks_lt x) ht fun j hj => ?_⟩
  by_cases h7 : j % 8 = 7
  · have := marks_at x (j / 8) hx (by omega) (fun i hi => h i (by omega))
    rw [show 8 * (j / 8) + 7 = j by omega] at this
    rw [this, h _ (by omega)]
    rfl
  · exact marks_off x j h7
end Go.Proofs.YbulkrewDoor
