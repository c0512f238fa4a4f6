import Derived.Test.YbulkrewDoorSwar
import Derived.BigQuiet
import Derived.Deep.QuietTactic
namespace Go.Proofs.YbulkrewDoor
open Go.RowKit
set_option linter.unusedVariables false

theorem hid {p : Prop} (h : p) : Hid p := h

theorem bits_andNot_u64 (a b : Nat) (ha : a < 18446744073709551616) (hb : b < 18446744073709551616) : bits .andNot .u64 (a : Int) (b : Int) = ((andNotN a b : Nat) : Int) := by
  have h1 : (BitVec.ofInt 64 (a : Int)).toNat = a := by
    rw [BitVec.ofInt_natCast, BitVec.toNat_ofNat]; exact Nat.mod_eq_of_lt (by omega)
  have h2 : (BitVec.ofInt 64 (b : Int)).toNat = b := by
    rw [BitVec.ofInt_natCast, BitVec.toNat_ofNat]; exact Nat.mod_eq_of_lt (by omega)
  have hx : andNotN a b < 18446744073709551616 := Nat.lt_of_le_of_lt Nat.and_le_left ha
  show IntKind.u64.wrap ((BitVec.ofInt 64 (a : Int) &&& ~~~ BitVec.ofInt 64 (b : Int)).toNat : Int) = _
  rw [BitVec.toNat_and, BitVec.toNat_not, h1, h2, IntKind.wrap_u64]
  unfold andNotN at *
  rw [show 2 ^ 64 - 1 - b = 18446744073709551615 - b by omega]
  omega

theorem wrap_sub (x c : Nat) (hc : c < 18446744073709551616) : IntKind.u64.wrap ((x : Int) - (c : Int)) = (((x + 18446744073709551616 - c) % 18446744073709551616 : Nat) : Int) := by
  rw [IntKind.wrap_u64]; omega

theorem andNot_lt (a b : Nat) (ha : a < 18446744073709551616) : andNotN a b < 18446744073709551616 := Nat.lt_of_le_of_lt Nat.and_le_left ha
theorem or_lt (a b : Nat) (ha : a < 18446744073709551616) (hb : b < 18446744073709551616) : a ||| b < 18446744073709551616 := Nat.or_lt_two_pow (n := 64) ha hb

/-- The word's form as the walk leaves it. -/
theorem marks_form (x : Nat) (hx : x < 18446744073709551616) :
    bits .and .u64 (bits .or .u64 (bits .or .u64 (bits .or .u64 (bits .andNot .u64 (IntKind.u64.wrap ((x : Int) - 2314885530818453536)) x)
      (bits .andNot .u64 (IntKind.u64.wrap (bits .xor .u64 x 2459565876494606882 - 72340172838076673)) (bits .xor .u64 x 2459565876494606882)))
      (bits .andNot .u64 (IntKind.u64.wrap (bits .xor .u64 x 6655295901103053916 - 72340172838076673)) (bits .xor .u64 x 6655295901103053916))) x) 9259542123273814144 = ((marks x : Nat) : Int) := by
  have q := xor_lt64 x 2459565876494606882 hx (by omega)
  have s := xor_lt64 x 6655295901103053916 hx (by omega)
  have x1 : bits .xor .u64 (x : Int) 2459565876494606882 = ((x ^^^ 2459565876494606882 : Nat) : Int) := bits_xor_u64_nat x 2459565876494606882 hx (by omega)
  have x2 : bits .xor .u64 (x : Int) 6655295901103053916 = ((x ^^^ 6655295901103053916 : Nat) : Int) := bits_xor_u64_nat x 6655295901103053916 hx (by omega)
  rw [x1, x2]
  have w0 : IntKind.u64.wrap ((x : Int) - 2314885530818453536) = _ := wrap_sub x 2314885530818453536 (by omega)
  have w1 : IntKind.u64.wrap (((x ^^^ 2459565876494606882 : Nat) : Int) - 72340172838076673) = _ := wrap_sub _ 72340172838076673 (by omega)
  have w2 : IntKind.u64.wrap (((x ^^^ 6655295901103053916 : Nat) : Int) - 72340172838076673) = _ := wrap_sub _ 72340172838076673 (by omega)
  rw [w0, w1, w2]
  have m : ∀ y, y % 18446744073709551616 < 18446744073709551616 := fun y => Nat.mod_lt _ (by omega)
  rw [bits_andNot_u64 _ _ (m _) hx, bits_andNot_u64 _ _ (m _) q, bits_andNot_u64 _ _ (m _) s,
    bits_or_u64_nat _ _ (andNot_lt _ _ (m _)) (andNot_lt _ _ (m _)), bits_or_u64_nat _ _ (or_lt _ _ (andNot_lt _ _ (m _)) (andNot_lt _ _ (m _))) (andNot_lt _ _ (m _)),
    bits_or_u64_nat _ _ (or_lt _ _ (or_lt _ _ (andNot_lt _ _ (m _)) (andNot_lt _ _ (m _))) (andNot_lt _ _ (m _))) hx]
  exact bits_and_u64_nat _ 9259542123273814144 (or_lt _ _ (or_lt _ _ (or_lt _ _ (andNot_lt _ _ (m _)) (andNot_lt _ _ (m _))) (andNot_lt _ _ (m _))) hx) (by omega)

set_option maxRecDepth 100000 in
set_option maxHeartbeats 1000000 in
theorem notPlain_any (x : Nat) (hx : x < 18446744073709551616) (w : World) : Calls Ybad.prog 12 #[.int .u64 x] w fun e w' => e = .returned (.int .u64 (marks x : Nat)) ∧ w' = w := by
  have HM := hid (marks_form x hx)
  go_enter Ybad.func12, Ybad.ntmps12
  go_wp2
  go_ret
  exact ⟨by rw [← HM.out]; rfl, rfl⟩

/-- Eight bytes as one word. -/
def wordOf (b : Nat → Nat) : Nat := b 0 + 256 * b 1 + 65536 * b 2 + 16777216 * b 3 + 4294967296 * b 4 + 1099511627776 * b 5 + 281474976710656 * b 6 + 72057594037927936 * b 7

theorem wrap_byte (b : Nat) (h : b < 256) : IntKind.u64.wrap (b : Int) = (b : Int) := by rw [IntKind.wrap_u64]; omega
theorem or_step (x b k : Nat) (K : Int) (hK : K = ((2 ^ k : Nat) : Int)) (hk : k ≤ 56) (hx : x < 2 ^ k) (hb : b < 256) : bits .or .u64 (x : Int) (IntKind.u64.wrap (IntKind.u64.wrap (b : Int) * K)) = ((x + 2 ^ k * b : Nat) : Int) := by
  subst hK
  have hp : 2 ^ k ≤ 2 ^ 56 := Nat.pow_le_pow_right (by omega) hk
  have h2 : 2 ^ k * b < 18446744073709551616 := Nat.lt_of_le_of_lt (Nat.mul_le_mul hp (show b ≤ 255 by omega)) (by decide)
  have e : IntKind.u64.wrap (IntKind.u64.wrap (b : Int) * ((2 ^ k : Nat) : Int)) = ((2 ^ k * b : Nat) : Int) := by
    rw [wrap_byte b hb, IntKind.wrap_u64]
    have e2 : (b : Int) * ((2 ^ k : Nat) : Int) = ((2 ^ k * b : Nat) : Int) := by rw [Nat.mul_comm, Int.natCast_mul]
    rw [e2]
    omega
  rw [e, bits_or_u64_nat _ _ (by omega) h2, Nat.or_comm, ← Nat.two_pow_add_eq_or_of_lt hx, Nat.add_comm]

theorem word_form (b : Nat → Nat) (h : ∀ j, b j < 256) :
    bits .or .u64 (bits .or .u64 (bits .or .u64 (bits .or .u64 (bits .or .u64 (bits .or .u64 (bits .or .u64 (IntKind.u64.wrap (b 0 : Int)) (IntKind.u64.wrap (IntKind.u64.wrap (b 1 : Int) * 256))) (IntKind.u64.wrap (IntKind.u64.wrap (b 2 : Int) * 65536))) (IntKind.u64.wrap (IntKind.u64.wrap (b 3 : Int) * 16777216)))
      (IntKind.u64.wrap (IntKind.u64.wrap (b 4 : Int) * 4294967296))) (IntKind.u64.wrap (IntKind.u64.wrap (b 5 : Int) * 1099511627776))) (IntKind.u64.wrap (IntKind.u64.wrap (b 6 : Int) * 281474976710656))) (IntKind.u64.wrap (IntKind.u64.wrap (b 7 : Int) * 72057594037927936)) = ((wordOf b : Nat) : Int) := by
  have h0 := h 0; have h1 := h 1; have h2 := h 2; have h3 := h 3; have h4 := h 4; have h5 := h 5; have h6 := h 6; have h7 := h 7
  rw [wrap_byte _ h0, or_step _ _ 8 256 rfl (by omega) (by omega) h1, or_step _ _ 16 65536 rfl (by omega) (by omega) h2, or_step _ _ 24 16777216 rfl (by omega) (by omega) h3,
    or_step _ _ 32 4294967296 rfl (by omega) (by omega) h4, or_step _ _ 40 1099511627776 rfl (by omega) (by omega) h5, or_step _ _ 48 281474976710656 rfl (by omega) (by omega) h6, or_step _ _ 56 72057594037927936 rfl (by omega) (by omega) h7]
  rfl

theorem wordOf_lt (b : Nat → Nat) (h : ∀ j, b j < 256) : wordOf b < 18446744073709551616 := by
  have h0 := h 0; have h1 := h 1; have h2 := h 2; have h3 := h 3; have h4 := h 4; have h5 := h 5; have h6 := h 6; have h7 := h 7
  unfold wordOf; omega
theorem wordOf_byte (b : Nat → Nat) (h : ∀ j, b j < 256) (k : Nat) (hk : k < 8) : byteAt (wordOf b) k = b k := by
  have h0 := h 0; have h1 := h 1; have h2 := h 2; have h3 := h 3; have h4 := h 4; have h5 := h 5; have h6 := h 6; have h7 := h 7
  unfold wordOf byteAt
  match k, hk with
  | 0, _ => omega
  | 1, _ => omega
  | 2, _ => omega
  | 3, _ => omega
  | 4, _ => omega
  | 5, _ => omega
  | 6, _ => omega
  | 7, _ => omega

set_option maxRecDepth 100000 in
set_option maxHeartbeats 1000000 in
theorem word_any (tb o cap : Nat) (b : Nat → Nat) (w : World) (hc : ∀ j, j < 8 → w.cell? ⟨tb, o + j, none⟩ = some (.int .u8 (b j : Nat))) (hb : ∀ j, b j < 256) (hcap : 8 ≤ cap) : Calls Ybad.prog 13 #[.slice (some ⟨tb, o, none⟩) 8 cap] w fun e w' => e = .returned (.int .u64 (wordOf b : Nat)) ∧ ∃ m, w' = w.drewN m := by
  have h0 := hc 0 (by omega)
  have h1 := hc 1 (by omega)
  have h2 := hc 2 (by omega)
  have h3 := hc 3 (by omega)
  have h4 := hc 4 (by omega)
  have h5 := hc 5 (by omega)
  have h6 := hc 6 (by omega)
  have h7 := hc 7 (by omega)
  rw [show o + 0 = o from rfl] at h0
  have hcap' : (8 : Int) ≤ (cap : Int) := by omega
  have HW := hid (word_form b hb)
  clear hc hb
  go_enter Ybad.func13, Ybad.ntmps13
  go_wp2_with fail
  go_quiet (fail)
  go_wp2
  go_ret
  exact ⟨by rw [← HW.out]; rfl, _, rfl⟩
end Go.Proofs.YbulkrewDoor
