import Derived.Test.YbulkrewDoorPlain
namespace Go.Proofs.YbulkrewDoor
open Go.RowKit
set_option linter.unusedVariables false

/-- A hexadecimal digit. -/
def hexB (c : Nat) : Bool := (decide (48 ≤ c) && decide (c ≤ 57)) || (decide (97 ≤ c) && decide (c ≤ 102)) || (decide (65 ≤ c) && decide (c ≤ 70))

/-- The bytes that a backslash may stand before. -/
def shortE (e : Nat) : Bool := e == 34 || e == 92 || e == 47 || e == 98 || e == 102 || e == 110 || e == 114 || e == 116

/-- How long the escape at i is, if there is one. -/
def escLen (bs : Nat → Nat) (N i : Nat) : Option Nat :=
  if N ≤ i + 1 then none
  else if shortE (bs (i + 1)) then some 2
  else if bs (i + 1) = 117 then
    if N < i + 6 then none
    else if hexB (bs (i + 2)) && hexB (bs (i + 3)) && hexB (bs (i + 4)) && hexB (bs (i + 5)) then some 6 else none
  else none

theorem escLen_pos {bs : Nat → Nat} {N i l : Nat} (h : escLen bs N i = some l) : 0 < l ∧ i + l ≤ N := by
  unfold escLen at h
  split at h
  · cases h
  · split at h
    · cases h; omega
    · split at h
      · split at h
        · cases h
        · split at h
          · cases h; omega
          · cases h
      · cases h

/-- The rest of a string from byte i on: whether all was plain, and where it ends. -/
def scan (bs : Nat → Nat) (N : Nat) : Nat → Nat → Bool → Option (Bool × Nat)
  | 0, _, _ => none
  | f + 1, i, p =>
    if N ≤ i then none
    else if bs i = 34 then some (p, i + 1)
    else if bs i = 92 then
      match escLen bs N i with
      | none => none
      | some l => scan bs N f (i + l) false
    else if bs i < 32 then none
    else scan bs N f (i + 1) (if 128 ≤ bs i then false else p)

/-- More fuel changes nothing. -/
theorem scan_fuel (bs : Nat → Nat) (N : Nat) : ∀ (f g i : Nat) (p : Bool), N + 1 ≤ f + i → N + 1 ≤ g + i → scan bs N f i p = scan bs N g i p
  | 0, 0, i, p, _, _ => rfl
  | 0, g + 1, i, p, h1, h2 => by
    unfold scan
    rw [if_pos (by omega)]
  | f + 1, 0, i, p, h1, h2 => by
    unfold scan
    rw [if_pos (by omega)]
  | f + 1, g + 1, i, p, h1, h2 => by
    unfold scan
    by_cases hN : N ≤ i
    · rw [if_pos hN, if_pos hN]
    rw [if_neg hN, if_neg hN]
    by_cases h34 : bs i = 34
    · rw [if_pos h34, if_pos h34]
    rw [if_neg h34, if_neg h34]
    by_cases h92 : bs i = 92
    · rw [if_pos h92, if_pos h92]
      cases he : escLen bs N i with
      | none => rfl
      | some l =>
        have := escLen_pos he
        exact scan_fuel bs N f g (i + l) false (by omega) (by omega)
    rw [if_neg h92, if_neg h92]
    by_cases h32 : bs i < 32
    · rw [if_pos h32, if_pos h32]
    rw [if_neg h32, if_neg h32]
    exact scan_fuel bs N f g (i + 1) _ (by omega) (by omega)

/-- The scan with fuel enough. -/
def scanS (bs : Nat → Nat) (N i : Nat) (p : Bool) : Option (Bool × Nat) := scan bs N (N + 1) i p

section
variable {bs : Nat → Nat} {N i : Nat} {p : Bool}
theorem scanS_end (h : N ≤ i) : scanS bs N i p = none := by unfold scanS scan; rw [if_pos h]
theorem scanS_quote (h : i < N) (hq : bs i = 34) : scanS bs N i p = some (p, i + 1) := by unfold scanS scan; rw [if_neg (by omega), if_pos hq]
theorem scanS_bad (h : i < N) (hq : bs i = 92) (he : escLen bs N i = none) : scanS bs N i p = none := by unfold scanS scan; rw [if_neg (by omega), if_neg (by omega), if_pos hq, he]
theorem scanS_esc (h : i < N) (hq : bs i = 92) {l : Nat} (he : escLen bs N i = some l) : scanS bs N i p = scanS bs N (i + l) false := by
  have := escLen_pos he
  unfold scanS
  rw [scan, if_neg (by omega), if_neg (by omega), if_pos hq, he]
  exact scan_fuel bs N _ _ _ _ (by omega) (by omega)
theorem scanS_low (h : i < N) (hq : bs i < 32) : scanS bs N i p = none := by unfold scanS scan; rw [if_neg (by omega), if_neg (by omega), if_neg (by omega), if_pos hq]
theorem scanS_next (h : i < N) (h1 : bs i ≠ 34) (h2 : bs i ≠ 92) (h3 : ¬ bs i < 32) : scanS bs N i p = scanS bs N (i + 1) (if 128 ≤ bs i then false else p) := by
  unfold scanS
  rw [scan, if_neg (by omega), if_neg h1, if_neg h2, if_neg h3]
  exact scan_fuel bs N _ _ _ _ (by omega) (by omega)
theorem plain_iff (c : Nat) : plainB c = true ↔ 32 ≤ c ∧ c ≠ 34 ∧ c ≠ 92 ∧ c < 128 := by simp [plainB, and_assoc]
theorem scanS_plain (k : Nat) (hk : i + k ≤ N) (h : ∀ j, j < k → plainB (bs (i + j)) = true) : scanS bs N i p = scanS bs N (i + k) p := by
  induction k with
  | zero => rfl
  | succ k ih =>
    rw [ih (by omega) (fun j hj => h j (by omega))]
    have hp := (plain_iff _).1 (h k (by omega))
    rw [scanS_next (by omega) hp.2.1 hp.2.2.1 (by omega), if_neg (by omega)]
    rfl
end
end Go.Proofs.YbulkrewDoor
