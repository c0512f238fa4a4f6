import GoSem.Core.Float
namespace Go.Proofs.Ybulkrce
open Ieee

theorem cut_zero (neg : Bool) (n : Nat) : Toward.even.cut neg n 0 = n := by
  simp [Toward.cut, Nat.mod_one]

theorem cut_exact (neg : Bool) (m d : Nat) (hm : m ≠ 0) : Toward.even.cut neg (m * 2 ^ d) d = m := by
  have hl : (m * 2 ^ d).log2 = m.log2 + d := by
    rw [Nat.log2_eq_iff (by
      have : 0 < 2 ^ d := Nat.two_pow_pos d
      exact Nat.ne_of_gt (Nat.mul_pos (Nat.pos_of_ne_zero hm) this))]
    have h1 := Nat.log2_self_le hm
    have h2 := (Nat.log2_lt hm).1 (Nat.lt_succ_self m.log2)
    constructor
    · rw [Nat.pow_add]; exact Nat.mul_le_mul_right _ h1
    · rw [show m.log2 + d + 1 = (m.log2 + 1) + d by omega, Nat.pow_add]
      exact Nat.mul_lt_mul_of_pos_right h2 (Nat.two_pow_pos d)
  have hmin : min d ((m * 2 ^ d).log2 + 2) = d := by rw [hl]; omega
  simp only [Toward.cut, hmin, Nat.one_shiftLeft]
  have hp : 0 < 2 ^ d := Nat.two_pow_pos d
  rw [Nat.mul_div_cancel _ hp, Nat.mul_mod_left]
  simp

/-- What the nearest word of a small whole number reads as. -/
theorem read_nearest (neg : Bool) (m : Nat) (hm : m ≠ 0) (hb : m.log2 ≤ 52) :
    double.read (double.nearest neg m 0) = .number neg (m * 2 ^ (52 - m.log2)) ((m.log2 : Int) - 52) := by
  have h1 := Nat.log2_self_le hm
  have h2 := (Nat.log2_lt hm).1 (Nat.lt_succ_self m.log2)
  have hlp : double.leastPlace = -1074 := by decide
  have hbin : double.binade = 4503599627370496 := by decide
  have hinf : double.infRung = 9218868437227405312 := by decide
  have hsw : double.signWeight = 9223372036854775808 := by decide
  have hK : m <<< (52 - m.log2) = m * 2 ^ (52 - m.log2) := Nat.shiftLeft_eq ..
  have k1 : 4503599627370496 ≤ m * 2 ^ (52 - m.log2) := by
    have := Nat.mul_le_mul_right (2 ^ (52 - m.log2)) h1
    rw [← Nat.pow_add, show m.log2 + (52 - m.log2) = 52 by omega] at this
    exact this
  have k2 : m * 2 ^ (52 - m.log2) < 9007199254740992 := by
    have := Nat.mul_lt_mul_of_pos_right h2 (Nat.two_pow_pos (52 - m.log2))
    rw [← Nat.pow_add, show m.log2 + 1 + (52 - m.log2) = 53 by omega] at this
    exact this
  have hn : double.nearest neg m 0 = double.word neg ((m.log2 + 1022) * 4503599627370496 + m * 2 ^ (52 - m.log2)) := by
    unfold Format.nearest
    rw [if_neg hm]
    have hlast : max ((0 : Int) + (m.log2 : Int) - (double.fractionBits : Int)) double.leastPlace = (m.log2 : Int) - 52 := by
      rw [hlp, show (double.fractionBits : Int) = 52 from rfl]; omega
    simp only [hlast]
    rw [show ((0 : Int) - ((m.log2 : Int) - 52)).toNat = 52 - m.log2 by omega, show (((m.log2 : Int) - 52) - 0).toNat = 0 by omega, cut_zero, hK, hlp, hbin, hinf,
      show (((m.log2 : Int) - 52) - -1074).toNat = m.log2 + 1022 by omega]
    rw [Nat.min_eq_left]
    generalize m * 2 ^ (52 - m.log2) = K at *
    omega
  rw [hn]
  generalize m * 2 ^ (52 - m.log2) = K at *
  generalize m.log2 = L at *
  unfold Format.read
  have hword : ∀ R : Nat, R < 9223372036854775808 → (double.word neg R / 9223372036854775808 % 2 == 1) = neg ∧ double.word neg R % 9223372036854775808 = R := by
    intro R hR
    unfold Format.word
    rw [hsw]
    cases neg with
    | false => simp; omega
    | true => simp; omega
  obtain ⟨e1, e2⟩ := hword ((L + 1022) * 4503599627370496 + K) (by omega)
  simp only [hsw, hbin, hinf, hlp]
  rw [e1, e2, if_neg (by omega), if_pos (by omega)]
  have d1 : ((L + 1022) * 4503599627370496 + K) / 4503599627370496 = L + 1023 := by omega
  have d2 : 4503599627370496 + ((L + 1022) * 4503599627370496 + K) % 4503599627370496 = K := by omega
  rw [d1, d2]
  have d3 : (-1074 : Int) + ((L + 1023 - 1 : Nat) : Int) = (L : Int) - 52 := by omega
  rw [d3]

theorem read_zero : double.read (double.nearest false 0 0) = .number false 0 (-1074) := by decide

/-- The word of a small whole number. -/
def fb (x : Int) : Nat := FloatKind.f64.nearest x

theorem fb_eq (x : Int) : fb x = double.nearest (decide (x < 0)) x.natAbs 0 := rfl

theorem signed_eq (x : Int) (m k : Nat) (h : m = x.natAbs) : signed (decide (x < 0)) m k = x * ((2 ^ k : Nat) : Int) := by
  subst h
  unfold signed
  rw [Nat.shiftLeft_eq]
  by_cases hx : x < 0
  · rw [if_pos (by simpa using hx), Int.natCast_mul, ← Int.neg_mul]
    congr 1; omega
  · rw [if_neg (by simpa using hx), Int.natCast_mul]
    congr 1; omega

theorem log_le {m : Nat} (hm : m ≠ 0) (hb : m < 1048576) : m.log2 ≤ 52 := by
  have := (Nat.log2_lt hm (k := 20)).2 (by simpa using hb)
  omega

/-- What the word of a small whole number stands for, at whatever base below. -/
theorem read_fb (x : Int) (hx : x.natAbs < 1048576) : ∃ (m : Nat) (i : Int), double.read (fb x) = .number (decide (x < 0)) m i ∧ i ≤ 0 ∧
    ∀ base : Int, base ≤ i → signed (decide (x < 0)) m (i - base).toNat = x * ((2 ^ (-base).toNat : Nat) : Int) := by
  by_cases h0 : x = 0
  · subst h0
    refine ⟨0, -1074, read_zero, by omega, fun base _ => ?_⟩
    simp [signed]
  · have hm : x.natAbs ≠ 0 := by omega
    have hl := log_le hm hx
    refine ⟨_, _, (congrArg double.read (fb_eq x)).trans (read_nearest _ _ hm hl), by omega, fun base hb => ?_⟩
    generalize x.natAbs.log2 = L at *
    have e : (-base).toNat = (52 - L) + ((L : Int) - 52 - base).toNat := by omega
    rw [e]
    unfold signed
    rw [Nat.shiftLeft_eq, Nat.mul_assoc, ← Nat.pow_add]
    generalize 2 ^ ((52 - L) + ((L : Int) - 52 - base).toNat) = Q
    by_cases hx0 : x < 0
    · rw [if_pos (by simpa using hx0), Int.natCast_mul, ← Int.neg_mul]
      congr 1; omega
    · rw [if_neg (by simpa using hx0), Int.natCast_mul]
      congr 1; omega

theorem compare_mul (x y : Int) (Q : Nat) (hQ : 0 < Q) : compare (x * (Q : Int)) (y * (Q : Int)) = compare x y := by
  have hq : (0 : Int) < (Q : Int) := by omega
  rcases Int.lt_trichotomy x y with h | h | h
  · rw [Int.compare_eq_lt.2 h, Int.compare_eq_lt.2 (Int.mul_lt_mul_of_pos_right h hq)]
  · subst h; simp
  · rw [Int.compare_eq_gt.2 h, Int.compare_eq_gt.2 (Int.mul_lt_mul_of_pos_right h hq)]

theorem order_fb (x y : Int) (hx : x.natAbs < 1048576) (hy : y.natAbs < 1048576) : FloatKind.f64.format.order (fb x) (fb y) = some (compare x y) := by
  obtain ⟨m, i, h1, _, h2⟩ := read_fb x hx
  obtain ⟨n, j, h3, _, h4⟩ := read_fb y hy
  show (double.read (fb x)).order (double.read (fb y)) = _
  rw [h1, h3]
  simp only [Datum.order]
  rw [h2 _ (by omega), h4 _ (by omega), compare_mul _ _ _ (Nat.two_pow_pos _)]

theorem log2_mul_pow (m d : Nat) (hm : m ≠ 0) : (m * 2 ^ d).log2 = m.log2 + d := by
  rw [Nat.log2_eq_iff (by
    have : 0 < 2 ^ d := Nat.two_pow_pos d
    exact Nat.ne_of_gt (Nat.mul_pos (Nat.pos_of_ne_zero hm) this))]
  have h1 := Nat.log2_self_le hm
  have h2 := (Nat.log2_lt hm).1 (Nat.lt_succ_self m.log2)
  constructor
  · rw [Nat.pow_add]; exact Nat.mul_le_mul_right _ h1
  · rw [show m.log2 + d + 1 = (m.log2 + 1) + d by omega, Nat.pow_add]
    exact Nat.mul_lt_mul_of_pos_right h2 (Nat.two_pow_pos d)

/-- A whole number written at a lower place is the same word. -/
theorem nearest_scaled (neg : Bool) (m k : Nat) (hm : m ≠ 0) (hb : m.log2 ≤ 52) : double.nearest neg (m * 2 ^ k) (-(k : Int)) = double.nearest neg m 0 := by
  have hlp : double.leastPlace = -1074 := by decide
  have hp : 0 < 2 ^ k := Nat.two_pow_pos k
  have hne : m * 2 ^ k ≠ 0 := Nat.ne_of_gt (Nat.mul_pos (Nat.pos_of_ne_zero hm) hp)
  unfold Format.nearest
  rw [if_neg hm, if_neg hne, log2_mul_pow _ _ hm]
  have e1 : max (-(k : Int) + ((m.log2 + k : Nat) : Int) - (double.fractionBits : Int)) double.leastPlace = (m.log2 : Int) - 52 := by
    rw [hlp, show (double.fractionBits : Int) = 52 from rfl]; omega
  have e2 : max ((0 : Int) + (m.log2 : Int) - (double.fractionBits : Int)) double.leastPlace = (m.log2 : Int) - 52 := by
    rw [hlp, show (double.fractionBits : Int) = 52 from rfl]; omega
  simp only [e1, e2]
  have c1 : Toward.even.cut neg (m <<< ((0 : Int) - ((m.log2 : Int) - 52)).toNat) (((m.log2 : Int) - 52) - 0).toNat = m * 2 ^ (52 - m.log2) := by
    rw [show ((0 : Int) - ((m.log2 : Int) - 52)).toNat = 52 - m.log2 by omega, show (((m.log2 : Int) - 52) - 0).toNat = 0 by omega, cut_zero, Nat.shiftLeft_eq]
  have c2 : Toward.even.cut neg ((m * 2 ^ k) <<< (-(k : Int) - ((m.log2 : Int) - 52)).toNat) (((m.log2 : Int) - 52) - -(k : Int)).toNat = m * 2 ^ (52 - m.log2) := by
    by_cases hk : k ≤ 52 - m.log2
    · rw [show (((m.log2 : Int) - 52) - -(k : Int)).toNat = 0 by omega, cut_zero, Nat.shiftLeft_eq, Nat.mul_assoc, ← Nat.pow_add, show k + (-(k : Int) - ((m.log2 : Int) - 52)).toNat = 52 - m.log2 by omega]
    · obtain ⟨d, hd⟩ : ∃ d, k = (52 - m.log2) + d := ⟨k - (52 - m.log2), by omega⟩
      rw [show (-(k : Int) - ((m.log2 : Int) - 52)).toNat = 0 by omega, show (((m.log2 : Int) - 52) - -(k : Int)).toNat = d by omega, Nat.shiftLeft_zero, hd, Nat.pow_add, ← Nat.mul_assoc]
      exact cut_exact neg (m * 2 ^ (52 - m.log2)) d (Nat.ne_of_gt (Nat.mul_pos (Nat.pos_of_ne_zero hm) (Nat.two_pow_pos _)))
  rw [c1, c2]

theorem add_fb (x y : Int) (hx : x.natAbs < 1048576) (hy : y.natAbs < 1048576) (hs : (x + y).natAbs < 1048576) : FloatKind.f64.format.add (fb x) (fb y) = some (fb (x + y)) := by
  obtain ⟨m, i, h1, i0, h2⟩ := read_fb x hx
  obtain ⟨n, j, h3, j0, h4⟩ := read_fb y hy
  show ((double.read (fb x)).sum (double.read (fb y))).map double.write = _
  rw [h1, h3]
  simp only [Datum.sum, Option.map_some]
  rw [h2 _ (by omega), h4 _ (by omega), ← Int.add_mul]
  obtain ⟨k, hk⟩ : ∃ k : Nat, min i j = -(k : Int) := ⟨(-(min i j)).toNat, by omega⟩
  rw [hk, show (- -(k : Int)).toNat = k by omega]
  have hp : 0 < 2 ^ k := Nat.two_pow_pos k
  by_cases h0 : x + y = 0
  · rw [h0, Int.zero_mul, if_pos rfl]
    have e : (decide (x < 0) && decide (y < 0)) = false := by
      simp; omega
    rw [e]
    simp only [Format.write, Int.natAbs_zero, fb_eq]
    simp [Format.nearest]
  · have hne : (x + y) * ((2 ^ k : Nat) : Int) ≠ 0 := by
      intro e
      rcases Int.mul_eq_zero.1 e with e | e
      · exact h0 e
      · omega
    rw [if_neg hne]
    have hm : (x + y).natAbs ≠ 0 := by omega
    have e1 : ((x + y) * ((2 ^ k : Nat) : Int)).natAbs = (x + y).natAbs * 2 ^ k := by rw [Int.natAbs_mul, Int.natAbs_natCast]
    have e2 : decide ((x + y) * ((2 ^ k : Nat) : Int) < 0) = decide (x + y < 0) := by
      have hq : (0 : Int) < ((2 ^ k : Nat) : Int) := by omega
      by_cases hl : x + y < 0
      · rw [decide_eq_true hl, decide_eq_true (Int.mul_neg_of_neg_of_pos hl hq)]
      · rw [decide_eq_false hl, decide_eq_false (by
          have := Int.mul_nonneg (show 0 ≤ x + y by omega) (Int.le_of_lt hq)
          omega)]
    simp only [Format.write, fb_eq]
    rw [e1, e2, nearest_scaled _ _ _ hm (log_le hm hs)]
end Go.Proofs.Ybulkrce
