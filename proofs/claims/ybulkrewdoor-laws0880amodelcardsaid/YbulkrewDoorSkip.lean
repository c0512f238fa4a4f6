import Derived.Test.YbulkrewDoorScan
namespace Go.Proofs.YbulkrewDoor
open Go.RowKit
set_option linter.unusedVariables false

/-- The scanner, and the text that it reads. -/
structure SC (W : World) (SB tb N cap : Nat) (bs : Nat → Nat) (pos : Nat) (np : Bool) (w : World) : Prop where
  below : Below SB W w
  obj : w.heap[SB]? = some (.cells #[.slice (some ⟨tb, 0, none⟩) N cap, .int .i64 (pos : Nat), .bool np] 26 (0, 0))
  lt : tb < SB
  text : ∀ j, j < N → w.cell? ⟨tb, j, none⟩ = some (.int .u8 (bs j : Nat))
  tab : Tab w
  zero : 0 < SB

section
variable {W w : World} {SB tb N cap : Nat} {bs : Nat → Nat} {pos : Nat} {np : Bool}

theorem cellB {w : World} {b o : Nat} {cur : Array Value} {e : TypeId} (h : w.heap[b]? = some (.cells cur e (0, 0))) : w.cell? ⟨b, o, none⟩ = cur[o]? := cell_of_row w b o cur e (0, 0) h
theorem freeB {w : World} {b o : Nat} {cur : Array Value} {e : TypeId} (h : w.heap[b]? = some (.cells cur e (0, 0))) : w.frozen? ⟨b, o, none⟩ = false := by simp [World.frozen?, h]
theorem setB_same (w : World) (b o : Nat) (cur : Array Value) (e : TypeId) (v : Value) (h : w.heap[b]? = some (.cells cur e (0, 0))) :
    (w.setCell ⟨b, o, none⟩ v).heap[b]? = some (.cells (cur.setIfInBounds o v) e (0, 0)) := by
  simp [World.setCell, Array.getElem?_modify, h]

theorem SC.keepB (h : SC W SB tb N cap bs pos np w) {w' : World} (hb : Below w.heap.size w w') : SC W SB tb N cap bs pos np w' := by
  have hz : SB < w.heap.size := by
    have := h.obj
    exact (Array.getElem?_eq_some_iff.1 this).1
  have st : ∀ p x, w.cell? p = some x → w'.cell? p = some x := fun p x hx => (hb.cell (World.block_lt_of_cell? w _ hx)).trans hx
  exact ⟨h.below.trans (hb.mono (by omega)), by rw [hb.block _ hz]; exact h.obj, h.lt, fun j hj => st _ _ (h.text j hj), fun j hj => st _ _ (h.tab j hj), h.zero⟩
theorem SC.drewN (h : SC W SB tb N cap bs pos np w) (m : Nat) : SC W SB tb N cap bs pos np (w.drewN m) := h.keepB (below_drewN (Below.refl _ _) m)

theorem SC.setPos (h : SC W SB tb N cap bs pos np w) (q : Nat) : SC W SB tb N cap bs q np (w.setCell ⟨SB, 1, none⟩ (.int .i64 (q : Nat))) := by
  have ot : ∀ b o, b ≠ SB → (w.setCell ⟨SB, 1, none⟩ (.int .i64 (q : Nat))).cell? ⟨b, o, none⟩ = w.cell? ⟨b, o, none⟩ := fun b o hb => World.cell?_setCell_other _ _ _ _ (fun e => by injection e with e1 e2; omega)
  have hl := h.lt
  have hz := h.zero
  exact ⟨h.below.setCell (Nat.le_refl _) _, by rw [setB_same _ _ _ _ _ _ h.obj]; rfl, h.lt, fun j hj => by rw [ot _ _ (by omega)]; exact h.text j hj, fun j hj => by rw [ot _ _ (by omega)]; exact h.tab j hj, h.zero⟩
theorem SC.setNp (h : SC W SB tb N cap bs pos np w) (q : Bool) : SC W SB tb N cap bs pos q (w.setCell ⟨SB, 2, none⟩ (.bool q)) := by
  have ot : ∀ b o, b ≠ SB → (w.setCell ⟨SB, 2, none⟩ (.bool q)).cell? ⟨b, o, none⟩ = w.cell? ⟨b, o, none⟩ := fun b o hb => World.cell?_setCell_other _ _ _ _ (fun e => by injection e with e1 e2; omega)
  have hl := h.lt
  have hz := h.zero
  exact ⟨h.below.setCell (Nat.le_refl _) _, by rw [setB_same _ _ _ _ _ _ h.obj]; rfl, h.lt, fun j hj => by rw [ot _ _ (by omega)]; exact h.text j hj, fun j hj => by rw [ot _ _ (by omega)]; exact h.tab j hj, h.zero⟩
end

set_option maxRecDepth 100000 in
set_option maxHeartbeats 1000000 in
theorem hex_any (c : Nat) (w : World) : Calls Ybad.prog 11 #[.int .u8 c] w fun e w' => e = .returned (.bool (hexB c)) ∧ w' = w := by
  have HX := hid (show hexB c = ((decide ((48 : Int) ≤ (c : Int)) && decide ((c : Int) ≤ 57)) || (decide ((97 : Int) ≤ (c : Int)) && decide ((c : Int) ≤ 102)) || (decide ((65 : Int) ≤ (c : Int)) && decide ((c : Int) ≤ 70))) by
    unfold hexB
    congr 1
    · congr 1 <;> (congr 1 <;> (apply decide_eq_decide.2; omega))
    · congr 1 <;> (apply decide_eq_decide.2; omega))
  obtain ⟨r, hr⟩ : ∃ r, hexB c = r := ⟨_, rfl⟩
  rw [hr]
  rw [hr] at HX
  go_enter Ybad.func11, Ybad.ntmps11
  by_cases h1 : (48 : Int) ≤ (c : Int) <;> by_cases h2 : (c : Int) ≤ 57 <;> by_cases h3 : (97 : Int) ≤ (c : Int) <;> by_cases h4 : (c : Int) ≤ 102 <;> by_cases h5 : (65 : Int) ≤ (c : Int) <;> by_cases h6 : (c : Int) ≤ 70 <;> first | (exfalso; omega) | skip
  all_goals
    have HY := HX.out
    simp only [h1, h2, h3, h4, h5, h6, decide_true, decide_false, Bool.and_true, Bool.and_false, Bool.or_true, Bool.or_false] at HY
    subst HY
    clear HX hr
    go_wp2
    go_ret
    exact ⟨by simp, rfl⟩

theorem wI64 (x : Nat) (h : x < 2 ^ 62) : IntKind.i64.wrap (x : Int) = (x : Int) := by simp [IntKind.wrap, IntKind.signed, IntKind.bits]; omega

set_option maxRecDepth 100000 in
set_option maxHeartbeats 1000000 in
theorem skip_yes (W : World) (SB tb N cap : Nat) (bs : Nat → Nat) (pos : Nat) (np : Bool) (w : World) (hN : N ≤ 5000) (hs : SC W SB tb N cap bs pos np w) (hp : pos < N) (hq : bs pos = 34) :
    Calls Ybad.prog 9 #[.pointer (some ⟨SB, 0, none⟩), .int .u8 34] w fun e w' => e = .returned (.bool true) ∧ SC W SB tb N cap bs (pos + 1) np w' := by
  have o0 : w.cell? ⟨SB, 0, none⟩ = some (.slice (some ⟨tb, 0, none⟩) N cap) := (cellB hs.obj).trans rfl
  have o1 : w.cell? ⟨SB, 1, none⟩ = some (.int .i64 (pos : Nat)) := (cellB hs.obj).trans rfl
  have f1 : w.frozen? ⟨SB, 1, none⟩ = false := freeB hs.obj
  have tx := hs.text pos hp
  rw [hq] at tx
  have p0 : (0 : Int) ≤ (pos : Int) := by omega
  have p1 : (pos : Int) < (N : Int) := by omega
  obtain ⟨q, hq2⟩ : ∃ q, pos + 1 = q := ⟨_, rfl⟩
  have q1 : (pos : Int) + 1 = (q : Int) := by omega
  have q2 := wI64 q (by omega)
  have HS := hid (hs.setPos q)
  rw [hq2]
  clear hs
  go_enter Ybad.func9, Ybad.ntmps9
  go_wp2_with fail
  go_quiet (fail)
  go_wp2
  go_ret
  exact ⟨by simp, HS.out.drewN _⟩

set_option maxRecDepth 100000 in
set_option maxHeartbeats 1000000 in
theorem skip_no (W : World) (SB tb N cap : Nat) (bs : Nat → Nat) (pos : Nat) (np : Bool) (w : World) (hN : N ≤ 5000) (hs : SC W SB tb N cap bs pos np w) (hpN : pos ≤ N) (hp : ¬ (pos < N ∧ bs pos = 34)) :
    Calls Ybad.prog 9 #[.pointer (some ⟨SB, 0, none⟩), .int .u8 34] w fun e w' => e = .returned (.bool false) ∧ SC W SB tb N cap bs pos np w' := by
  have o0 : w.cell? ⟨SB, 0, none⟩ = some (.slice (some ⟨tb, 0, none⟩) N cap) := (cellB hs.obj).trans rfl
  have o1 : w.cell? ⟨SB, 1, none⟩ = some (.int .i64 (pos : Nat)) := (cellB hs.obj).trans rfl
  have HS := hid hs
  by_cases hlt : pos < N
  · have tx := hs.text pos hlt
    have hne : bs pos ≠ 34 := fun h => hp ⟨hlt, h⟩
    have p0 : (0 : Int) ≤ (pos : Int) := by omega
    have p1 : (pos : Int) < (N : Int) := by omega
    have g1 : ((bs pos : Int) == 34) = false := by simp; omega
    have g2 : decide ((bs pos : Int) = 34) = false := by simp; omega
    clear hs hp hne
    generalize bs pos = c at tx g1 g2
    go_enter Ybad.func9, Ybad.ntmps9
    go_wp2_with fail
    go_quiet (fail)
    go_wp2
    go_ret
    exact ⟨by simp, HS.out.drewN _⟩
  · have p1 : decide ((pos : Int) < (N : Int)) = false := by simp; omega
    have p2 : ¬ (pos : Int) < (N : Int) := by omega
    clear hs hp
    go_enter Ybad.func9, Ybad.ntmps9
    go_wp2_with fail
    go_quiet (fail)
    go_wp2
    go_ret
    exact ⟨by simp, HS.out.drewN _⟩
end Go.Proofs.YbulkrewDoor
