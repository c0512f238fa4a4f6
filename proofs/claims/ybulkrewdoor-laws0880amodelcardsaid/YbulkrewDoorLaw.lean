import Derived.Test.YbulkrewDoorBuild
namespace Go.Proofs.YbulkrewDoor
open Go.RowKit
set_option linter.unusedVariables false

def LawPost (W : World) (e : Ending) (w' : World) : Prop := e = .returned (.bool true) ∧ Below W.heap.size W w'

set_option maxRecDepth 100000 in
set_option maxHeartbeats 1000000 in
theorem law_pre (a0 : Option Addr) (n0 c0 : Nat) (v1 v2 v3 v4 : Value) (W : World) (hn : 1024 < n0) :
    Calls Ybad.prog 3 #[.slice a0 n0 c0, v1, v2, v3, v4] W (LawPost W) := by
  have h1 : (1024 : Int) < (n0 : Int) := by omega
  go_enter Ybad.func3, Ybad.ntmps3
  go_wp2
  go_ret
  exact ⟨by simp, Below.refl _ _⟩

set_option maxRecDepth 100000 in
set_option maxHeartbeats 1000000 in
theorem law_body (a0 : Option Addr) (n0 c0 : Nat) (a1 : Option Addr) (n1 c1 : Nat) (v2 v3 v4 : Value) (W : World) (hn0 : n0 ≤ 1024) (hn : 1024 < n1) :
    Calls Ybad.prog 3 #[.slice a0 n0 c0, .slice a1 n1 c1, v2, v3, v4] W (LawPost W) := by
  have h0 : ¬ (1024 : Int) < (n0 : Int) := by omega
  have h1 : (1024 : Int) < (n1 : Int) := by omega
  go_enter Ybad.func3, Ybad.ntmps3
  go_wp2
  go_ret
  exact ⟨by simp, Below.refl _ _⟩

/-- The scanner, as the law makes it. -/
theorem SC.make {W w1 : World} {C n pos : Nat} {l : List Nat} {np : Bool} (hR : RW W C n l w1) (hT : Tab W) (hW : 0 < W.heap.size) :
    SC w1 w1.heap.size W.heap.size n C (fun j => l.getD j 0) pos np (w1.alloc (.cells #[.slice (some ⟨W.heap.size, 0, none⟩) n C, .int .i64 (pos : Nat), .bool np] 26)) := by
  have hb : Below w1.heap.size w1 (w1.alloc (.cells #[.slice (some ⟨W.heap.size, 0, none⟩) n C, .int .i64 (pos : Nat), .bool np] 26)) := (Below.refl _ _).alloc (Nat.le_refl _) _
  have tx : ∀ j, j < n → w1.cell? ⟨W.heap.size, j, none⟩ = some (.int .u8 (l.getD j 0 : Nat)) := fun j hj => by
    have hl := hR.len
    rw [hR.own.cellAt j (by omega)]
    simp [bytes, show j < l.length by omega]
  refine ⟨hb, heap_alloc_new _ _, hR.size, fun j hj => ?_, fun j hj => ?_, Nat.lt_trans hW hR.size⟩
  · rw [hb.cell hR.size]; exact tx j hj
  · have h0 := hT j hj
    rw [hb.cell (Nat.lt_trans hW hR.size), hR.below.cell hW]; exact h0

set_option maxRecDepth 100000 in
set_option maxHeartbeats 4000000 in
theorem law_any (a0 : Option Addr) (n0 c0 : Nat) (z0 : List Nat) (a1 : Option Addr) (b1 o1 n1 c1 : Nat) (z1 : List Nat) (np lead raw : Bool) (W : World)
    (hn0 : n0 ≤ 1024) (hn1 : n1 ≤ 1024) (l0 : z0.length = n0) (l1 : z1.length = n1) (hnone0 : a0 = none → n0 = 0 ∧ c0 = 0)
    (hc0 : ∀ ad, a0 = some ad → ∀ j, j < n0 → W.cell? (ad.add j) = some (.int .u8 (z0.getD j 0 : Nat))) (s0 : ∀ x ∈ z0, x < 256)
    (hr1 : 0 < n1 → a1 = some ⟨b1, o1, none⟩ ∧ b1 < W.heap.size) (hc1 : ∀ j, j < n1 → W.cell? ⟨b1, o1 + j, none⟩ = some (.int .u8 (z1.getD j 0 : Nat))) (s1 : ∀ x ∈ z1, x < 256)
    (hT : Tab W) :
    Calls Ybad.prog 3 #[.slice a0 n0 c0, .slice a1 n1 c1, .bool np, .bool lead, .bool raw] W (LawPost W) := by
  have hW : 0 < W.heap.size := World.block_lt_of_cell? W _ (hT 0 (by decide))
  have HB := hid (build_any a0 n0 c0 z0 a1 b1 o1 n1 c1 z1 lead raw W hn0 hn1 l0 l1 hnone0 hc0 s0 hr1 hc1 s1)
  have HT := hid hT
  have h0 : ¬ (1024 : Int) < (n0 : Int) := by omega
  have h1 : ¬ (1024 : Int) < (n1 : Int) := by omega
  clear hnone0 hc0 s0 hr1 hc1 s1 hT
  go_enter Ybad.func3, Ybad.ntmps3
  go_wp2_with fail
  refine HB.out.mono ?_
  rintro e w1 ⟨N, l, rfl, hN0, hNC, hR⟩
  have hb : ∀ j, l.getD j 0 < 256 := fun j => by
    by_cases hj : j < l.length
    · have e : l.getD j 0 = l[j] := by simp [List.getD, hj]
      rw [e]; exact hR.small _ (List.getElem_mem _)
    · simp [List.getD, hj]
  have hsc := fun (pos : Nat) => SC.make (pos := pos) (np := np) hR HT.out hW
  have HS := hid (string_any w1 w1.heap.size W.heap.size N (n0 + 1 + n1) (fun j => l.getD j 0) n0 np _ (by omega) hNC (by omega) hb (hsc n0) hN0)
  have HM := hid (fun w (h : ∀ j, j < N → w.cell? ⟨W.heap.size, j, none⟩ = some (.int .u8 (l.getD j 0 : Nat))) => model_any W.heap.size N (n0 + 1 + n1) (fun j => l.getD j 0) n0 w (by omega) hNC hb h hN0)
  have HBL := hid (show Below W.heap.size W w1 ∧ W.heap.size < w1.heap.size from ⟨hR.below, hR.size⟩)
  clear hsc hR hb HB HT
  obtain ⟨C, hC⟩ : ∃ C, n0 + 1 + n1 = C := ⟨_, rfl⟩
  rw [hC] at HS HM hNC ⊢
  generalize strRes (fun j => l.getD j 0) N n0 = R at HS HM
  go_wp2_with fail
  refine HS.out.mono ?_
  rintro e w2 (⟨hR, rfl, q, hs⟩ | ⟨p, en, hR, rfl, hs⟩)
  · subst hR
    have o2 : w2.cell? ⟨w1.heap.size, 2, none⟩ = some (.bool np) := (cellB hs.obj).trans rfl
    have HM2 := hid (HM.out w2 hs.text)
    have HBF := hid (show Below W.heap.size W w2 from HBL.out.1.trans (hs.below.mono (Nat.le_of_lt HBL.out.2)))
    clear hs HM HS
    go_wp2_with fail
    refine HM2.out.mono ?_
    rintro e w3 ⟨rfl, ⟨_, rfl⟩ | ⟨p, en, hh, _⟩⟩
    · cases np
      all_goals
        go_wp2
        go_ret
        exact ⟨by simp, HBF.out⟩
    · cases hh
  · subst hR
    have o1 : w2.cell? ⟨w1.heap.size, 1, none⟩ = some (.int .i64 (en : Nat)) := (cellB hs.obj).trans rfl
    have o2 : w2.cell? ⟨w1.heap.size, 2, none⟩ = some (.bool (np || !p)) := (cellB hs.obj).trans rfl
    have HM2 := hid (HM.out w2 hs.text)
    have HBF := hid (show Below W.heap.size W w2 from HBL.out.1.trans (hs.below.mono (Nat.le_of_lt HBL.out.2)))
    clear hs HM HS
    go_wp2_with fail
    refine HM2.out.mono ?_
    rintro e w3 ⟨rfl, ⟨hh, _⟩ | ⟨p', en', hh, rfl⟩⟩
    · cases hh
    · cases hh
      cases np <;> cases p
      all_goals
        go_wp2
        go_ret
        exact ⟨by simp, HBF.out⟩
end Go.Proofs.YbulkrewDoor
