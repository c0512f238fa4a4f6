import Derived.Test.YbulkrewDoorEsc
namespace Go.Proofs.YbulkrewDoor
open Go.RowKit
set_option linter.unusedVariables false

/-- How the four digits stand. -/
def hexTo (bs : Nat → Nat) (z k : Nat) : Prop := ∀ j, j < k → hexB (bs (z + j)) = true

set_option maxRecDepth 100000 in
set_option maxHeartbeats 2000000 in
theorem esc_u (W : World) (SB tb N cap : Nat) (bs : Nat → Nat) (pos : Nat) (np : Bool) (w : World) (hN : N ≤ 5000) (hcap : N ≤ cap) (hs : SC W SB tb N cap bs pos np w) (hp : pos + 1 < N) (h2 : bs (pos + 1) = 117) (h3 : pos + 6 ≤ N) :
    Calls Ybad.prog 10 #[.pointer (some ⟨SB, 0, none⟩)] w (EscPost W SB tb N cap bs pos np) := by
  have o0 : w.cell? ⟨SB, 0, none⟩ = some (.slice (some ⟨tb, 0, none⟩) N cap) := (cellB hs.obj).trans rfl
  have o1 : w.cell? ⟨SB, 1, none⟩ = some (.int .i64 (pos : Nat)) := (cellB hs.obj).trans rfl
  obtain ⟨q, hq⟩ : ∃ q, pos + 1 = q := ⟨_, rfl⟩
  have q1 : (pos : Int) + 1 = (q : Int) := by omega
  have q2 := wI64 q (by omega)
  have q3 : (0 : Int) ≤ (q : Int) := by omega
  have q4 : (q : Int) ≤ (N : Int) := by omega
  have q5 : (N : Int) ≤ (cap : Int) := by omega
  obtain ⟨r, hr⟩ : ∃ r, N - q = r := ⟨_, rfl⟩
  obtain ⟨c2, hc2⟩ : ∃ c2, cap - q = c2 := ⟨_, rfl⟩
  have tx := hs.text (pos + 1) hp
  have r1 : ((r : Int) == 0) = false := by simp; omega
  have r2 : (0 : Int) < (r : Int) := by omega
  have r3 : ¬ (r : Int) < 5 := by omega
  have c3 : (5 : Int) ≤ (c2 : Int) := by omega
  have hcq : ¬ cap = q := by omega
  have HS := hid hs
  rw [h2] at tx
  rw [hq] at tx
  clear hs
  go_enter Ybad.func10, Ybad.ntmps10
  go_wp2_with fail
  go_quiet (fail)
  go_wp2_with fail
  go_loopw [46] (fun s wr => ∃ (k m : Nat), k ≤ 4 ∧ s = .int .i64 k ∧ hexTo bs (q + 1) k ∧ wr = w.drewN m) (fun s _ => 4 - (intOf s).toNat)
  case atStart => exact ⟨0, _, by omega, rfl, fun j h => by omega, rfl⟩
  case round =>
    obtain ⟨k, m, hk, rfl, hx, hw⟩ := hrel
    subst hw
    have HX := hid hx
    clear hx
    by_cases hk4 : k < 4
    · have tc := (HS.out.drewN m).text (q + 1 + k) (by omega)
      have k0 : (0 : Int) ≤ (k : Int) := by omega
      have k1 : (k : Int) < 4 := by omega
      generalize hcb : bs (q + 1 + k) = c at tc
      by_cases hc : hexB c = true
      · have HC := hid hc
        have hr3 : (48 ≤ c ∧ c ≤ 57) ∨ (97 ≤ c ∧ c ≤ 102) ∨ (65 ≤ c ∧ c ≤ 70) := by simpa [hexB, or_assoc] using hc
        clear hc
        rcases hr3 with ⟨d1, d2⟩ | ⟨d1, d2⟩ | ⟨d1, d2⟩
        · have e1 : (48 : Int) ≤ (c : Int) := by omega
          have e2 : (c : Int) ≤ 57 := by omega
          go_wp2
          go_roundw
          case rel => exact ⟨k + 1, m, by omega, by go_num, fun j hj => (by
            by_cases e : j = k
            · subst e; rw [hcb]; exact HC.out
            · exact HX.out j (by omega)), by trivial⟩
          case measure => simp [intOf]; omega
        · have e1 : (48 : Int) ≤ (c : Int) := by omega
          have e2 : ¬ (c : Int) ≤ 57 := by omega
          have e3 : (97 : Int) ≤ (c : Int) := by omega
          have e4 : (c : Int) ≤ 102 := by omega
          go_wp2
          go_roundw
          case rel => exact ⟨k + 1, m, by omega, by go_num, fun j hj => (by
            by_cases e : j = k
            · subst e; rw [hcb]; exact HC.out
            · exact HX.out j (by omega)), by trivial⟩
          case measure => simp [intOf]; omega
        · have e1 : (48 : Int) ≤ (c : Int) := by omega
          have e2 : ¬ (c : Int) ≤ 57 := by omega
          have e3 : ¬ (97 : Int) ≤ (c : Int) := by omega
          have e5 : (65 : Int) ≤ (c : Int) := by omega
          have e6 : (c : Int) ≤ 70 := by omega
          go_wp2
          go_roundw
          case rel => exact ⟨k + 1, m, by omega, by go_num, fun j hj => (by
            by_cases e : j = k
            · subst e; rw [hcb]; exact HC.out
            · exact HX.out j (by omega)), by trivial⟩
          case measure => simp [intOf]; omega
      · have hcf : hexB c = false := by simpa using hc
        have HE := hid (show escLen bs N pos = none by
          unfold escLen
          rw [if_neg (by omega), h2, if_neg (by decide), if_pos rfl, if_neg (by omega), if_neg]
          intro hall
          simp only [Bool.and_eq_true] at hall
          have : hexB (bs (q + 1 + k)) = true := by
            have hk' : k = 0 ∨ k = 1 ∨ k = 2 ∨ k = 3 := by omega
            rcases hk' with h | h | h | h
            · rw [show q + 1 + k = pos + 2 by omega]; exact hall.1.1.1
            · rw [show q + 1 + k = pos + 3 by omega]; exact hall.1.1.2
            · rw [show q + 1 + k = pos + 4 by omega]; exact hall.1.2
            · rw [show q + 1 + k = pos + 5 by omega]; exact hall.2
          rw [hcb, hcf] at this
          cases this)
        have hr4 : c < 48 ∨ (58 ≤ c ∧ c < 65) ∨ (71 ≤ c ∧ c < 97) ∨ 103 ≤ c := by
          have hn : ¬ ((48 ≤ c ∧ c ≤ 57) ∨ (97 ≤ c ∧ c ≤ 102) ∨ (65 ≤ c ∧ c ≤ 70)) := by simpa [hexB, or_assoc] using hc
          omega
        clear hc hcf
        rcases hr4 with d | ⟨d1, d2⟩ | ⟨d1, d2⟩ | d
        · have e1 : ¬ (48 : Int) ≤ (c : Int) := by omega
          have e3 : ¬ (97 : Int) ≤ (c : Int) := by omega
          have e5 : ¬ (65 : Int) ≤ (c : Int) := by omega
          go_wp2
          go_ret
          exact Or.inl ⟨HE.out, by simp, HS.out.drewN _⟩
        · have e1 : (48 : Int) ≤ (c : Int) := by omega
          have e2 : ¬ (c : Int) ≤ 57 := by omega
          have e3 : ¬ (97 : Int) ≤ (c : Int) := by omega
          have e5 : ¬ (65 : Int) ≤ (c : Int) := by omega
          go_wp2
          go_ret
          exact Or.inl ⟨HE.out, by simp, HS.out.drewN _⟩
        · have e1 : (48 : Int) ≤ (c : Int) := by omega
          have e2 : ¬ (c : Int) ≤ 57 := by omega
          have e3 : ¬ (97 : Int) ≤ (c : Int) := by omega
          have e5 : (65 : Int) ≤ (c : Int) := by omega
          have e6 : ¬ (c : Int) ≤ 70 := by omega
          go_wp2
          go_ret
          exact Or.inl ⟨HE.out, by simp, HS.out.drewN _⟩
        · have e1 : (48 : Int) ≤ (c : Int) := by omega
          have e2 : ¬ (c : Int) ≤ 57 := by omega
          have e3 : (97 : Int) ≤ (c : Int) := by omega
          have e4 : ¬ (c : Int) ≤ 102 := by omega
          have e5 : (65 : Int) ≤ (c : Int) := by omega
          have e6 : ¬ (c : Int) ≤ 70 := by omega
          go_wp2
          go_ret
          exact Or.inl ⟨HE.out, by simp, HS.out.drewN _⟩
    · have ek : k = 4 := by omega
      subst ek
      have hx := HX.out
      have HE := hid (show escLen bs N pos = some 6 by
        unfold escLen
        have a0 := hx 0 (by omega)
        have a1 := hx 1 (by omega)
        have a2 := hx 2 (by omega)
        have a3 := hx 3 (by omega)
        rw [show q + 1 + 0 = pos + 2 by omega] at a0
        rw [show q + 1 + 1 = pos + 3 by omega] at a1
        rw [show q + 1 + 2 = pos + 4 by omega] at a2
        rw [show q + 1 + 3 = pos + 5 by omega] at a3
        rw [if_neg (by omega), h2, if_neg (by decide), if_pos rfl, if_neg (by omega), a0, a1, a2, a3]
        rfl)
      obtain ⟨z, hz⟩ : ∃ z, pos + 6 = z := ⟨_, rfl⟩
      have z1 : (pos : Int) + 6 = (z : Int) := by omega
      have z2 := wI64 z (by omega)
      have f1 : w.frozen? ⟨SB, 1, none⟩ = false := freeB HS.out.obj
      have HZ := hid ((HS.out.setPos z).drewN m)
      clear hx
      go_wp2
      go_ret
      exact Or.inr ⟨6, HE.out, by simp, by rw [hz]; exact HZ.out⟩

theorem esc_any (W : World) (SB tb N cap : Nat) (bs : Nat → Nat) (pos : Nat) (np : Bool) (w : World) (hN : N ≤ 5000) (hcap : N ≤ cap) (hs : SC W SB tb N cap bs pos np w) (hp : pos < N) :
    Calls Ybad.prog 10 #[.pointer (some ⟨SB, 0, none⟩)] w (EscPost W SB tb N cap bs pos np) := by
  by_cases h1 : pos + 1 = N
  · exact esc_none W SB tb N cap bs pos np w hN hcap hs h1
  · cases h2 : shortE (bs (pos + 1))
    · by_cases h3 : bs (pos + 1) = 117
      · by_cases h4 : N < pos + 6
        · exact esc_u_short W SB tb N cap bs pos np w hN hcap hs (by omega) h3 h4
        · exact esc_u W SB tb N cap bs pos np w hN hcap hs (by omega) h3 (by omega)
      · exact esc_other W SB tb N cap bs pos np w hN hcap hs (by omega) h2 h3
    · exact esc_short _ (by simpa [shortE, or_assoc] using h2) W SB tb N cap bs pos np w hN hcap hs (by omega) rfl
end Go.Proofs.YbulkrewDoor
