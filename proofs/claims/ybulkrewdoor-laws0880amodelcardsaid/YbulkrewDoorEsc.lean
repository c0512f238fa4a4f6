import Derived.Test.YbulkrewDoorSkip
namespace Go.Proofs.YbulkrewDoor
open Go.RowKit
set_option linter.unusedVariables false

def EscPost (W : World) (SB tb N cap : Nat) (bs : Nat → Nat) (pos : Nat) (np : Bool) (e : Ending) (w' : World) : Prop :=
  (escLen bs N pos = none ∧ e = .returned (.bool false) ∧ SC W SB tb N cap bs pos np w') ∨ ∃ l, escLen bs N pos = some l ∧ e = .returned (.bool true) ∧ SC W SB tb N cap bs (pos + l) np w'

set_option maxRecDepth 100000 in
set_option maxHeartbeats 1000000 in
theorem esc_short (c : Nat) (hc : c = 34 ∨ c = 92 ∨ c = 47 ∨ c = 98 ∨ c = 102 ∨ c = 110 ∨ c = 114 ∨ c = 116) (W : World) (SB tb N cap : Nat) (bs : Nat → Nat) (pos : Nat) (np : Bool) (w : World) (hN : N ≤ 5000) (hcap : N ≤ cap) (hs : SC W SB tb N cap bs pos np w) (hp : pos + 1 < N) (hb : bs (pos + 1) = c) :
    Calls Ybad.prog 10 #[.pointer (some ⟨SB, 0, none⟩)] w (EscPost W SB tb N cap bs pos np) := by
  have o0 : w.cell? ⟨SB, 0, none⟩ = some (.slice (some ⟨tb, 0, none⟩) N cap) := (cellB hs.obj).trans rfl
  have o1 : w.cell? ⟨SB, 1, none⟩ = some (.int .i64 (pos : Nat)) := (cellB hs.obj).trans rfl
  have f1 : w.frozen? ⟨SB, 1, none⟩ = false := freeB hs.obj
  have tx := hs.text (pos + 1) hp
  rw [hb] at tx
  obtain ⟨q, hq⟩ : ∃ q, pos + 1 = q := ⟨_, rfl⟩
  obtain ⟨z, hz⟩ : ∃ z, pos + 2 = z := ⟨_, rfl⟩
  have HE := hid (show escLen bs N pos = some 2 by
    unfold escLen
    rw [if_neg (by omega), hb, if_pos (by unfold shortE; rcases hc with h | h | h | h | h | h | h | h <;> subst h <;> rfl)])
  rw [hq] at tx
  have q1 : (pos : Int) + 1 = (q : Int) := by omega
  have q2 := wI64 q (by omega)
  have z1 : (pos : Int) + 2 = (z : Int) := by omega
  have z2 := wI64 z (by omega)
  have q3 : (0 : Int) ≤ (q : Int) := by omega
  have q4 : (q : Int) ≤ (N : Int) := by omega
  have q5 : (N : Int) ≤ (cap : Int) := by omega
  obtain ⟨r, hr⟩ : ∃ r, N - q = r := ⟨_, rfl⟩
  have r1 : ((r : Int) == 0) = false := by simp; omega
  have r2 : (0 : Int) < (r : Int) := by omega
  have HS := hid (hs.setPos z)
  clear hs hb
  rcases hc with h | h | h | h | h | h | h | h <;> subst h
  all_goals
    go_enter Ybad.func10, Ybad.ntmps10
    go_wp2_with fail
    go_quiet (fail)
    go_wp2
    go_ret
    exact Or.inr ⟨2, HE.out, by simp, by rw [hz]; exact HS.out.drewN _⟩

set_option maxRecDepth 100000 in
set_option maxHeartbeats 1000000 in
theorem esc_none (W : World) (SB tb N cap : Nat) (bs : Nat → Nat) (pos : Nat) (np : Bool) (w : World) (hN : N ≤ 5000) (hcap : N ≤ cap) (hs : SC W SB tb N cap bs pos np w) (hp : pos + 1 = N) :
    Calls Ybad.prog 10 #[.pointer (some ⟨SB, 0, none⟩)] w (EscPost W SB tb N cap bs pos np) := by
  have o0 : w.cell? ⟨SB, 0, none⟩ = some (.slice (some ⟨tb, 0, none⟩) N cap) := (cellB hs.obj).trans rfl
  have o1 : w.cell? ⟨SB, 1, none⟩ = some (.int .i64 (pos : Nat)) := (cellB hs.obj).trans rfl
  have f1 : w.frozen? ⟨SB, 1, none⟩ = false := freeB hs.obj
  obtain ⟨q, hq⟩ : ∃ q, pos + 1 = q := ⟨_, rfl⟩
  have q1 : (pos : Int) + 1 = (q : Int) := by omega
  have q2 := wI64 q (by omega)
  have q3 : (0 : Int) ≤ (q : Int) := by omega
  have q4 : (q : Int) ≤ (N : Int) := by omega
  have q5 : (N : Int) ≤ (cap : Int) := by omega
  obtain ⟨r, hr⟩ : ∃ r, N - q = r := ⟨_, rfl⟩
  have hr0 : r = 0 := by omega
  subst hr0
  have HE := hid (show escLen bs N pos = none by unfold escLen; rw [if_pos (by omega)])
  have HS := hid hs
  clear hs
  by_cases hcq : cap = q
  · subst hcq
    go_enter Ybad.func10, Ybad.ntmps10
    go_wp2_with fail
    go_quiet (fail)
    go_wp2
    go_ret
    exact Or.inl ⟨HE.out, by simp, HS.out.drewN _⟩
  · have hcq2 : ¬ q = cap := fun h => hcq h.symm
    go_enter Ybad.func10, Ybad.ntmps10
    go_wp2_with fail
    go_quiet (fail)
    go_wp2
    go_ret
    exact Or.inl ⟨HE.out, by simp, HS.out.drewN _⟩

set_option maxRecDepth 100000 in
set_option maxHeartbeats 1000000 in
theorem esc_other (W : World) (SB tb N cap : Nat) (bs : Nat → Nat) (pos : Nat) (np : Bool) (w : World) (hN : N ≤ 5000) (hcap : N ≤ cap) (hs : SC W SB tb N cap bs pos np w) (hp : pos + 1 < N) (h1 : shortE (bs (pos + 1)) = false) (h2 : bs (pos + 1) ≠ 117) :
    Calls Ybad.prog 10 #[.pointer (some ⟨SB, 0, none⟩)] w (EscPost W SB tb N cap bs pos np) := by
  have o0 : w.cell? ⟨SB, 0, none⟩ = some (.slice (some ⟨tb, 0, none⟩) N cap) := (cellB hs.obj).trans rfl
  have o1 : w.cell? ⟨SB, 1, none⟩ = some (.int .i64 (pos : Nat)) := (cellB hs.obj).trans rfl
  have f1 : w.frozen? ⟨SB, 1, none⟩ = false := freeB hs.obj
  obtain ⟨q, hq⟩ : ∃ q, pos + 1 = q := ⟨_, rfl⟩
  have q1 : (pos : Int) + 1 = (q : Int) := by omega
  have q2 := wI64 q (by omega)
  have q3 : (0 : Int) ≤ (q : Int) := by omega
  have q4 : (q : Int) ≤ (N : Int) := by omega
  have q5 : (N : Int) ≤ (cap : Int) := by omega
  obtain ⟨r, hr⟩ : ∃ r, N - q = r := ⟨_, rfl⟩
  have tx := hs.text (pos + 1) hp
  have r1 : ((r : Int) == 0) = false := by simp; omega
  have r2 : (0 : Int) < (r : Int) := by omega
  have HE := hid (show escLen bs N pos = none by unfold escLen; rw [if_neg (by omega), h1, if_neg (by decide), if_neg h2])
  have HS := hid hs
  rw [hq] at tx h1 h2
  clear hs
  have hx : bs q ≠ 34 ∧ bs q ≠ 92 ∧ bs q ≠ 47 ∧ bs q ≠ 98 ∧ bs q ≠ 102 ∧ bs q ≠ 110 ∧ bs q ≠ 114 ∧ bs q ≠ 116 := by simpa [shortE, and_assoc] using h1
  have g1 : ((bs q : Int) == 34) = false := by simp; omega
  have g2 : ((bs q : Int) == 92) = false := by simp; omega
  have g3 : ((bs q : Int) == 47) = false := by simp; omega
  have g4 : ((bs q : Int) == 98) = false := by simp; omega
  have g5 : ((bs q : Int) == 102) = false := by simp; omega
  have g6 : ((bs q : Int) == 110) = false := by simp; omega
  have g7 : ((bs q : Int) == 114) = false := by simp; omega
  have g8 : ((bs q : Int) == 116) = false := by simp; omega
  have g9 : ((bs q : Int) == 117) = false := by simp; omega
  clear hx h1 h2
  generalize bs q = c at tx g1 g2 g3 g4 g5 g6 g7 g8 g9
  go_enter Ybad.func10, Ybad.ntmps10
  go_wp2_with fail
  go_quiet (fail)
  go_wp2
  go_ret
  exact Or.inl ⟨HE.out, by simp, HS.out.drewN _⟩

set_option maxRecDepth 100000 in
set_option maxHeartbeats 1000000 in
theorem esc_u_short (W : World) (SB tb N cap : Nat) (bs : Nat → Nat) (pos : Nat) (np : Bool) (w : World) (hN : N ≤ 5000) (hcap : N ≤ cap) (hs : SC W SB tb N cap bs pos np w) (hp : pos + 1 < N) (h2 : bs (pos + 1) = 117) (h3 : N < pos + 6) :
    Calls Ybad.prog 10 #[.pointer (some ⟨SB, 0, none⟩)] w (EscPost W SB tb N cap bs pos np) := by
  have o0 : w.cell? ⟨SB, 0, none⟩ = some (.slice (some ⟨tb, 0, none⟩) N cap) := (cellB hs.obj).trans rfl
  have o1 : w.cell? ⟨SB, 1, none⟩ = some (.int .i64 (pos : Nat)) := (cellB hs.obj).trans rfl
  have f1 : w.frozen? ⟨SB, 1, none⟩ = false := freeB hs.obj
  obtain ⟨q, hq⟩ : ∃ q, pos + 1 = q := ⟨_, rfl⟩
  have q1 : (pos : Int) + 1 = (q : Int) := by omega
  have q2 := wI64 q (by omega)
  have q3 : (0 : Int) ≤ (q : Int) := by omega
  have q4 : (q : Int) ≤ (N : Int) := by omega
  have q5 : (N : Int) ≤ (cap : Int) := by omega
  obtain ⟨r, hr⟩ : ∃ r, N - q = r := ⟨_, rfl⟩
  have tx := hs.text (pos + 1) hp
  have r1 : ((r : Int) == 0) = false := by simp; omega
  have r2 : (0 : Int) < (r : Int) := by omega
  have r3 : (r : Int) < 5 := by omega
  have HE := hid (show escLen bs N pos = none by unfold escLen; rw [if_neg (by omega), h2, if_neg (by decide), if_pos rfl, if_pos h3])
  have HS := hid hs
  rw [h2] at tx
  rw [hq] at tx
  clear hs
  go_enter Ybad.func10, Ybad.ntmps10
  go_wp2_with fail
  go_quiet (fail)
  go_wp2
  go_ret
  exact Or.inl ⟨HE.out, by simp, HS.out.drewN _⟩
end Go.Proofs.YbulkrewDoor
