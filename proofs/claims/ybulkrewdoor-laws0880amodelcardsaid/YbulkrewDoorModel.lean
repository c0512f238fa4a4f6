import Derived.Test.YbulkrewDoorStr
namespace Go.Proofs.YbulkrewDoor
open Go.RowKit
set_option linter.unusedVariables false

section
variable {bs : Nat → Nat} {N i : Nat}
theorem escLen_end (h : N ≤ i + 1) : escLen bs N i = none := by unfold escLen; rw [if_pos h]
theorem escLen_two (h : i + 1 < N) (h1 : shortE (bs (i + 1)) = true) : escLen bs N i = some 2 := by unfold escLen; rw [if_neg (by omega), if_pos h1]
theorem escLen_other (h : i + 1 < N) (h1 : shortE (bs (i + 1)) = false) (h2 : bs (i + 1) ≠ 117) : escLen bs N i = none := by unfold escLen; rw [if_neg (by omega), h1, if_neg (by decide), if_neg h2]
theorem escLen_near (h : i + 1 < N) (h2 : bs (i + 1) = 117) (h3 : N < i + 6) : escLen bs N i = none := by unfold escLen; rw [if_neg (by omega), h2, if_neg (by decide), if_pos rfl, if_pos h3]
theorem escLen_six (h2 : bs (i + 1) = 117) (h3 : i + 6 ≤ N) (hx : hexTo bs (i + 2) 4) : escLen bs N i = some 6 := by
  unfold escLen
  have a0 : hexB (bs (i + 2)) = true := hx 0 (by omega)
  have a1 : hexB (bs (i + 3)) = true := hx 1 (by omega)
  have a2 : hexB (bs (i + 4)) = true := hx 2 (by omega)
  have a3 : hexB (bs (i + 5)) = true := hx 3 (by omega)
  rw [if_neg (by omega), h2, if_neg (by decide), if_pos rfl, if_neg (by omega), a0, a1, a2, a3]
  rfl
theorem escLen_nohex (h2 : bs (i + 1) = 117) (h3 : i + 6 ≤ N) {k : Nat} (hk : k < 4) (hx : hexB (bs (i + 2 + k)) = false) : escLen bs N i = none := by
  unfold escLen
  rw [if_neg (by omega), h2, if_neg (by decide), if_pos rfl, if_neg (by omega), if_neg]
  intro hall
  simp only [Bool.and_eq_true] at hall
  have : hexB (bs (i + 2 + k)) = true := by
    have hk' : k = 0 ∨ k = 1 ∨ k = 2 ∨ k = 3 := by omega
    rcases hk' with h | h | h | h <;> subst h
    · exact hall.1.1.1
    · exact hall.1.1.2
    · exact hall.1.2
    · exact hall.2
  rw [hx] at this
  cases this
end

def ModPost (w : World) (R : Option (Bool × Nat)) (pos : Nat) (e : Ending) (w' : World) : Prop :=
  w' = w ∧ ((R = none ∧ e = .returned (.tuple #[.bool false, .bool false, .int .i64 (pos : Nat)])) ∨ ∃ p en, R = some (p, en) ∧ e = .returned (.tuple #[.bool true, .bool p, .int .i64 (en : Nat)]))

set_option maxRecDepth 100000 in
set_option maxHeartbeats 4000000 in
theorem model_any (tb N cap : Nat) (bs : Nat → Nat) (pos : Nat) (w : World) (hN : N ≤ 5000) (hcap : N ≤ cap) (hb : ∀ j, bs j < 256) (hc : ∀ j, j < N → w.cell? ⟨tb, j, none⟩ = some (.int .u8 (bs j : Nat))) (hp : pos ≤ N) :
    Calls Ybad.prog 7 #[.slice (some ⟨tb, 0, none⟩) N cap, .int .i64 (pos : Nat)] w (ModPost w (strRes bs N pos) pos) := by
  obtain ⟨R, hR⟩ : ∃ R, strRes bs N pos = R := ⟨_, rfl⟩
  rw [hR]
  unfold strRes at hR
  have HC := hid hc
  have p0 : (0 : Int) ≤ (pos : Int) := by omega
  have p1 : ¬ (pos : Int) < 0 := by omega
  by_cases hq : pos < N ∧ bs pos = 34
  · rw [if_pos hq] at hR
    have tp := hc pos hq.1
    rw [hq.2] at tp
    have p2 : (pos : Int) < (N : Int) := by omega
    have p3 : ¬ (N : Int) ≤ (pos : Int) := by omega
    obtain ⟨q, hq1⟩ : ∃ q, pos + 1 = q := ⟨_, rfl⟩
    rw [hq1] at hR
    have q1 : (pos : Int) + 1 = (q : Int) := by omega
    have q2 := wI64 q (by omega)
    have hqN : q ≤ N := by omega
    have HR := hid hR
    clear hR hc hq
    go_enter Ybad.func7, Ybad.ntmps7
    go_wp2_with fail
    go_loopg [7, 8] (N - q) (fun g s7 s8 wr => ∃ (i : Nat) (p : Bool), i + g = N ∧ s7 = .bool p ∧ s8 = .int .i64 (i : Nat) ∧ wr = w ∧ scanS bs N i p = R)
    case atStart => exact ⟨q, true, by omega, rfl, rfl, rfl, HR.out⟩
    case round =>
      clear HR tp p0 p1 p2 p3 q1 q2
      obtain ⟨i, p, hi, rfl, rfl, rfl, hR⟩ := hrel
      by_cases hiN : i < N
      · have tx := HC.out i hiN
        have i0 : (0 : Int) ≤ (i : Int) := by omega
        have i1 : (i : Int) < (N : Int) := by omega
        obtain ⟨z, hz⟩ : ∃ z, i + 1 = z := ⟨_, rfl⟩
        have z1 : (i : Int) + 1 = (z : Int) := by omega
        have z2 := wI64 z (by omega)
        by_cases h34 : bs i = 34
        · rw [h34] at tx
          have HR2 := hid (show R = some (p, z) by rw [← hR, scanS_quote hiN h34, hz])
          clear hR h34
          go_wp2
          go_ret3
          exact ⟨by trivial, Or.inr ⟨_, z, HR2.out, by simp⟩⟩
        · have g34 : ((bs i : Int) == 34) = false := by simp; omega
          by_cases h92 : bs i = 92
          · rw [h92] at tx
            have HN := hid (fun (h : escLen bs N i = none) => (hR.symm.trans (scanS_bad hiN h92 h) : R = none))
            have HL := hid (fun l (h : escLen bs N i = some l) => ((scanS_esc hiN h92 h).symm.trans hR : scanS bs N (i + l) false = R))
            clear hR h34 h92 g34
            by_cases hzN : z < N
            · have y0 : (0 : Int) ≤ (z : Int) := by omega
              have y1 : (z : Int) < (N : Int) := by omega
              have y2 : ¬ (N : Int) ≤ (z : Int) := by omega
              have tz := HC.out z hzN
              cases hsh : shortE (bs z)
              · have hx : bs z ≠ 34 ∧ bs z ≠ 92 ∧ bs z ≠ 47 ∧ bs z ≠ 98 ∧ bs z ≠ 102 ∧ bs z ≠ 110 ∧ bs z ≠ 114 ∧ bs z ≠ 116 := by simpa [shortE, and_assoc] using hsh
                by_cases h117 : bs z = 117
                · rw [h117] at tz
                  clear hsh hx
                  by_cases h6 : i + 6 ≤ N
                  · obtain ⟨r, hr⟩ : ∃ r, N - z = r := ⟨_, rfl⟩
                    have r1 : (N : Int) - (z : Int) = (r : Int) := by omega
                    have r2 := wI64 r (by omega)
                    have r3 : ¬ (r : Int) < 5 := by omega
                    obtain ⟨y, hy⟩ : ∃ y, i + 2 = y := ⟨_, rfl⟩
                    have y3 : (i : Int) + 2 = (y : Int) := by omega
                    have y4 := wI64 y (by omega)
                    obtain ⟨x, hx⟩ : ∃ x, i + 6 = x := ⟨_, rfl⟩
                    have x1 : (i : Int) + 6 = (x : Int) := by omega
                    have x2 := wI64 x (by omega)
                    have HU := hid (show bs (i + 1) = 117 by rw [hz]; exact h117)
                    clear h117
                    obtain ⟨w0, hw0⟩ : ∃ w0, w0 = wr := ⟨_, rfl⟩
                    subst hw0
                    go_wp2_with fail
                    go_loopg [11] 4 (fun g s wq => ∃ (k d : Nat), y + k = d ∧ k + g = 4 ∧ s = .int .i64 (d : Nat) ∧ hexTo bs y k ∧ wq = w0)
                    case atStart => exact ⟨0, y, by omega, by omega, rfl, fun j h => by omega, by trivial⟩
                    case round =>
                      clear tx tz r1 r2 r3 z1 z2 y3 y4
                      obtain ⟨k, d, hd, hk, rfl, hx4, hw4⟩ := hrel
                      subst hw4
                      have HX4 := hid hx4
                      clear hx4
                      by_cases hk4 : k < 4
                      · have tc := HC.out d (by omega)
                        have d0 : (0 : Int) ≤ (d : Int) := by omega
                        have d1 : (d : Int) < (N : Int) := by omega
                        have d2 : (d : Int) < (x : Int) := by omega
                        obtain ⟨d', hd'⟩ : ∃ d', d + 1 = d' := ⟨_, rfl⟩
                        have d3 : (d : Int) + 1 = (d' : Int) := by omega
                        have d4 := wI64 d' (by omega)
                        have HXA := hid (fun w => hex_any (bs d) w)
                        cases hh : hexB (bs d)
                        · rw [hh] at HXA
                          have HE := hid (HN.out (escLen_nohex (k := k) HU.out (by omega) hk4 (by rw [hy, hd]; exact hh)))
                          clear hh
                          go_wp2_with fail
                          refine (HXA.out _).mono ?_
                          rintro e w2 ⟨rfl, rfl⟩
                          go_wp2
                          go_ret3
                          exact ⟨by trivial, Or.inl ⟨HE.out, by simp⟩⟩
                        · rw [hh] at HXA
                          have HH := hid hh
                          clear hh
                          go_wp2_with fail
                          refine (HXA.out _).mono ?_
                          rintro e w2 ⟨rfl, rfl⟩
                          go_wp2
                          go_roundg (4 - (k + 1))
                          case rel =>
                            refine ⟨k + 1, d', by omega, by omega, rfl, fun j hj => ?_, by trivial⟩
                            by_cases e : j = k
                            · subst e; rw [hd]; exact HH.out
                            · exact HX4.out j (by omega)
                          case measure => omega
                      · have hk5 : k = 4 := by omega
                        subst hk5
                        have d2 : ¬ (d : Int) < (x : Int) := by omega
                        have HE := hid (HL.out 6 (escLen_six HU.out (by omega) (by rw [hy]; exact HX4.out)))
                        rw [hx] at HE
                        go_wp2
                        go_roundg (N - x)
                        case rel => exact ⟨x, false, by omega, rfl, rfl, by trivial, HE.out⟩
                        case measure => omega
                  · have HE := hid (HN.out (escLen_near (by omega) (by rw [hz]; exact h117) (by omega)))
                    obtain ⟨r, hr⟩ : ∃ r, N - z = r := ⟨_, rfl⟩
                    have r1 : (N : Int) - (z : Int) = (r : Int) := by omega
                    have r2 := wI64 r (by omega)
                    have r3 : (r : Int) < 5 := by omega
                    clear h117
                    go_wp2
                    go_ret3
                    exact ⟨by trivial, Or.inl ⟨HE.out, by simp⟩⟩
                · have HE := hid (HN.out (escLen_other (by omega) (by rw [hz]; exact hsh) (by rw [hz]; exact h117)))
                  have g1 : ((bs z : Int) == 34) = false := by simp; omega
                  have g2 : ((bs z : Int) == 92) = false := by simp; omega
                  have g3 : ((bs z : Int) == 47) = false := by simp; omega
                  have g4 : ((bs z : Int) == 98) = false := by simp; omega
                  have g5 : ((bs z : Int) == 102) = false := by simp; omega
                  have g6 : ((bs z : Int) == 110) = false := by simp; omega
                  have g7 : ((bs z : Int) == 114) = false := by simp; omega
                  have g8 : ((bs z : Int) == 116) = false := by simp; omega
                  have g9 : ((bs z : Int) == 117) = false := by simp; omega
                  clear hsh hx h117
                  generalize bs z = c at tz g1 g2 g3 g4 g5 g6 g7 g8 g9
                  go_wp2
                  go_ret3
                  exact ⟨by trivial, Or.inl ⟨HE.out, by simp⟩⟩
              · have HE := hid (HL.out 2 (escLen_two (by omega) (by rw [hz]; exact hsh)))
                have hx : bs z = 34 ∨ bs z = 92 ∨ bs z = 47 ∨ bs z = 98 ∨ bs z = 102 ∨ bs z = 110 ∨ bs z = 114 ∨ bs z = 116 := by simpa [shortE, or_assoc] using hsh
                obtain ⟨y, hy⟩ : ∃ y, i + 2 = y := ⟨_, rfl⟩
                rw [hy] at HE
                have y3 : (i : Int) + 2 = (y : Int) := by omega
                have y4 := wI64 y (by omega)
                clear hsh
                rcases hx with h | h | h | h | h | h | h | h
                all_goals
                  rw [h] at tz
                  clear h
                  go_wp2
                  go_roundg (N - y)
                  case rel => exact ⟨y, false, by omega, rfl, rfl, by trivial, HE.out⟩
                  case measure => omega
            · have y2 : (N : Int) ≤ (z : Int) := by omega
              have HE := hid (HN.out (escLen_end (by omega)))
              go_wp2
              go_ret3
              exact ⟨by trivial, Or.inl ⟨HE.out, by simp⟩⟩
          · have g92 : ((bs i : Int) == 92) = false := by simp; omega
            by_cases h32 : bs i < 32
            · have g32 : (bs i : Int) < 32 := by omega
              have HE := hid (hR.symm.trans (scanS_low hiN h32) : R = none)
              clear hR h34 h92 h32
              generalize bs i = c at tx g34 g92 g32
              go_wp2
              go_ret3
              exact ⟨by trivial, Or.inl ⟨HE.out, by simp⟩⟩
            · have g32 : ¬ (bs i : Int) < 32 := by omega
              have hn := scanS_next (p := p) hiN h34 h92 h32
              by_cases h128 : 128 ≤ bs i
              · have g128 : (128 : Int) ≤ (bs i : Int) := by omega
                rw [if_pos h128, hz] at hn
                have HE := hid (hn.symm.trans hR)
                clear hR hn h34 h92 h32 h128
                generalize bs i = c at tx g34 g92 g32 g128
                go_wp2
                go_roundg (N - z)
                case rel => exact ⟨z, false, by omega, rfl, rfl, by trivial, HE.out⟩
                case measure => omega
              · have g128 : ¬ (128 : Int) ≤ (bs i : Int) := by omega
                rw [if_neg h128, hz] at hn
                have HE := hid (hn.symm.trans hR)
                clear hR hn h34 h92 h32 h128
                generalize bs i = c at tx g34 g92 g32 g128
                go_wp2
                go_roundg (N - z)
                case rel => exact ⟨z, p, by omega, rfl, rfl, by trivial, HE.out⟩
                case measure => omega
      · have i1 : ¬ (i : Int) < (N : Int) := by omega
        have HE := hid (hR.symm.trans (scanS_end (by omega)) : R = none)
        clear hR
        go_wp2
        go_ret3
        exact ⟨by trivial, Or.inl ⟨HE.out, by simp⟩⟩
  · rw [if_neg hq] at hR
    subst hR
    by_cases hpN : pos < N
    · have tp := hc pos hpN
      have p2 : (pos : Int) < (N : Int) := by omega
      have p3 : ¬ (N : Int) ≤ (pos : Int) := by omega
      have g1 : ((bs pos : Int) == 34) = false := by
        have : bs pos ≠ 34 := fun h => hq ⟨hpN, h⟩
        simp; omega
      clear hc hq
      generalize bs pos = c at tp g1
      go_enter Ybad.func7, Ybad.ntmps7
      go_wp2
      go_ret3
      exact ⟨by trivial, Or.inl ⟨rfl, by simp⟩⟩
    · have p3 : (N : Int) ≤ (pos : Int) := by omega
      clear hc hq
      go_enter Ybad.func7, Ybad.ntmps7
      go_wp2
      go_ret3
      exact ⟨by trivial, Or.inl ⟨rfl, by simp⟩⟩
end Go.Proofs.YbulkrewDoor
