import Derived.Test.YbulkrbqFmtSort
namespace Go.Proofs.YbulkrbqFmt
open Go.RowKit

set_option maxRecDepth 100000 in
set_option maxHeartbeats 1000000 in
theorem stable_any (g k cap : Nat) (ln : Int) (ts : List ByteArray) (w : World) (hk : k < 20) (hl : ts.length = k)
    (hg : g < w.heap.size)
    (hc0 : ∀ j, j < k → w.cell? ⟨g, j * 2, none⟩ = some (.int .i64 ln)) (hc1 : ∀ j, j < k → w.cell? ⟨g, j * 2 + 1, none⟩ = some (.string (ts.getD j ⟨#[]⟩))) :
    Calls Ybaf.prog 11 #[.slice (some ⟨g, 0, none⟩) k cap, .int .i64 k, .func (.func 9) #[] #[]] w fun e w' => e = .returned (.tuple #[]) ∧ Below w.heap.size w w' := by
  have hI := insertion_any g k cap ln ts w (by omega) hl hg hc0 hc1
  have HI : Hid (Calls Ybaf.prog 12 #[.slice (some ⟨g, 0, none⟩) k cap, .int .i64 0, .int .i64 k, .func (.func 9) #[] #[]] w fun e w' => e = .returned (.tuple #[]) ∧ Below w.heap.size w w') := hI
  clear hI hc0 hc1 hl
  have h1 : ¬ (20 : Int) ≤ (k : Int) := by omega
  have h2 : ¬ (20 : Int) < (k : Int) := by omega
  go_enter Ybaf.func11, Ybaf.ntmps11
  go_wp2
  refine wp_loop_rounds 1 ?_
  rw [rounds_succ]
  go_wp2_with fail
  refine HI.out.mono ?_
  rintro e w' ⟨rfl, hb⟩
  go_wp2_with fail
  refine wp_loop_rounds 1 ?_
  rw [rounds_succ]
  go_wp2
  go_end0
  exact ⟨rfl, hb⟩

set_option maxRecDepth 100000 in
set_option maxHeartbeats 1000000 in
theorem sort_any (g k cap : Nat) (ln : Int) (ts : List ByteArray) (w : World) (hk : k < 20) (hl : ts.length = k)
    (hg : g < w.heap.size)
    (hc0 : ∀ j, j < k → w.cell? ⟨g, j * 2, none⟩ = some (.int .i64 ln)) (hc1 : ∀ j, j < k → w.cell? ⟨g, j * 2 + 1, none⟩ = some (.string (ts.getD j ⟨#[]⟩))) :
    Calls Ybaf.prog 8 #[.slice (some ⟨g, 0, none⟩) k cap, .func (.func 9) #[] #[]] w fun e w' => e = .returned (.tuple #[]) ∧ Below w.heap.size w w' := by
  have hI := stable_any g k cap ln ts w hk hl hg hc0 hc1
  have HI : Hid (Calls Ybaf.prog 11 #[.slice (some ⟨g, 0, none⟩) k cap, .int .i64 k, .func (.func 9) #[] #[]] w fun e w' => e = .returned (.tuple #[]) ∧ Below w.heap.size w w') := hI
  clear hI hc0 hc1 hl
  go_enter Ybaf.func8, Ybaf.ntmps8
  go_wp2_with fail
  refine HI.out.mono ?_
  rintro e w' ⟨rfl, hb⟩
  go_wp2
  go_end0
  exact ⟨rfl, hb⟩

theorem errCells_length (ln : Int) (ts : List ByteArray) : (errCells ln ts).length = ts.length * 2 := by
  induction ts with
  | nil => rfl
  | cons t r ih =>
    have e : errCells ln (t :: r) = .int .i64 ln :: .string t :: errCells ln r := rfl
    rw [e]; simp only [List.length_cons, ih]; omega

theorem errCells_get (ln : Int) : ∀ (ts : List ByteArray) (j : Nat), j < ts.length →
    (errCells ln ts)[j * 2]? = some (.int .i64 ln) ∧ (errCells ln ts)[j * 2 + 1]? = some (.string (ts.getD j ⟨#[]⟩))
  | [], j, h => by simp at h
  | t :: r, j, h => by
    have e : errCells ln (t :: r) = .int .i64 ln :: .string t :: errCells ln r := rfl
    rw [e]
    cases j with
    | zero => exact ⟨rfl, rfl⟩
    | succ j =>
      obtain ⟨h0, h1⟩ := errCells_get ln r j (by simp at h; omega)
      rw [show (j + 1) * 2 = j * 2 + 1 + 1 from by omega]
      simp only [List.getElem?_cons_succ]
      exact ⟨h0, by rw [h1]; simp⟩

/-- What the owned errors' cells read as. -/
theorem own_cells {w : World} {base g k cap : Nat} {ln : Int} {ts : List ByteArray} (h : w.ownsRow base 43 2 (.slice (some ⟨g, 0, none⟩) k cap) k (errCells ln ts)) (_hk : 0 < k) :
    ts.length = k ∧ g < w.heap.size ∧ (∀ j, j < k → w.cell? ⟨g, j * 2, none⟩ = some (.int .i64 ln)) ∧ (∀ j, j < k → w.cell? ⟨g, j * 2 + 1, none⟩ = some (.string (ts.getD j ⟨#[]⟩))) := by
  obtain ⟨hl, h⟩ := h
  rw [errCells_length] at hl
  have hl' : ts.length = k := by omega
  rcases h with ⟨h, _⟩ | ⟨g', cap', cur, hv, _, hh, _, _, _, ht⟩
  · cases h
  · cases hv
    have hgs : g < w.heap.size := by
      rcases Nat.lt_or_ge g w.heap.size with hlt | hge
      · exact hlt
      · rw [Array.getElem?_eq_none hge] at hh; cases hh
    have hcell : ∀ i, i < k * 2 → w.cell? ⟨g, i, none⟩ = (errCells ln ts)[i]? := fun i hi => by
      rw [cell_of_row w g i cur 43 (0, 0) hh, ← ht, List.getElem?_take]
      simp [hi]
    refine ⟨hl', hgs, fun j hj => ?_, fun j hj => ?_⟩
    · rw [hcell _ (by omega)]; exact (errCells_get ln ts j (by omega)).1
    · rw [hcell _ (by omega)]; exact (errCells_get ln ts j (by omega)).2

/-- Finish: nil exactly where no error was recorded. -/
theorem finish_none (W : World) (nl dl ln : Int) (ov : Value) (ts : List ByteArray) (w : World) (hst : St W nl dl ln 0 ov ts w) :
    Calls Ybaf.prog 6 #[.pointer (some ⟨W.heap.size, 0, none⟩)] w fun e w' => e = .returned .nilIface ∧ Below W.heap.size W w' := by
  obtain ⟨ov', cap', rfl⟩ : ∃ a cap, ov = .slice a 0 cap := by
    rcases hst.owns.2 with ⟨e, _⟩ | ⟨g, cap, cur, e, _⟩
    · exact ⟨_, _, e⟩
    · exact ⟨_, _, e⟩
  have hE : w.cell? ⟨W.heap.size, 2, none⟩ = some (.slice ov' 0 cap') := (hst.cell 2).trans rfl
  have hL : w.cell? ⟨W.heap.size, 1, none⟩ = some (.slice none 0 0) := (hst.cell 1).trans rfl
  have hfz : w.frozen? ⟨W.heap.size, 1, none⟩ = false := hst.free 1
  have hb := hst.below
  clear hst
  go_enter Ybaf.func6, Ybaf.ntmps6
  go_wp2
  refine wp_loop_rounds 1 ?_
  rw [rounds_succ]
  go_wp2
  go_ret
  exact ⟨rfl, hb.setCell (Nat.le_refl _) _⟩

set_option maxHeartbeats 1000000 in
theorem finish_some (W : World) (nl dl ln : Int) (k : Nat) (ov : Value) (ts : List ByteArray) (w : World) (hst : St W nl dl ln k ov ts w) (h0 : 0 < k) (hk : k < 20) :
    Calls Ybaf.prog 6 #[.pointer (some ⟨W.heap.size, 0, none⟩)] w fun e w' => ∃ a, e = .returned (.iface 45 (.pointer (some a))) ∧ Below W.heap.size W w' := by
  obtain ⟨g, cap, rfl, hbg, hgw⟩ := hst.owns.form h0
  have hE : w.cell? ⟨W.heap.size, 2, none⟩ = some (.slice (some ⟨g, 0, none⟩) k cap) := (hst.cell 2).trans rfl
  have hL : w.cell? ⟨W.heap.size, 1, none⟩ = some (.slice none 0 0) := (hst.cell 1).trans rfl
  have hfz : w.frozen? ⟨W.heap.size, 1, none⟩ = false := hst.free 1
  have hb := hst.below
  obtain ⟨hl, hgs, hc0, hc1⟩ := own_cells hst.owns h0
  have hne : (k : Int) ≠ 0 := by omega
  have hwf : (w.setCell ⟨W.heap.size, 1, none⟩ (.slice none 0 0)).cell? ⟨W.heap.size, 2, none⟩ = some (.slice (some ⟨g, 0, none⟩) k cap) := by
    rw [World.cell?_setCell_other _ _ _ _ (by simp)]; exact hE
  have hs := sort_any g k cap ln ts (w.setCell ⟨W.heap.size, 1, none⟩ (.slice none 0 0)) hk hl (by simpa using hgs)
    (fun j hj => by rw [World.cell?_setCell_other _ _ _ _ (by simp)]; exact hc0 j hj) (fun j hj => by rw [World.cell?_setCell_other _ _ _ _ (by simp)]; exact hc1 j hj)
  have HS := (show Hid (Calls Ybaf.prog 8 #[.slice (some ⟨g, 0, none⟩) k cap, .func (.func 9) #[] #[]] (w.setCell ⟨W.heap.size, 1, none⟩ (.slice none 0 0)) fun e w' => e = .returned (.tuple #[]) ∧ Below (w.setCell ⟨W.heap.size, 1, none⟩ (.slice none 0 0)).heap.size (w.setCell ⟨W.heap.size, 1, none⟩ (.slice none 0 0)) w') from hs)
  have HB : Hid (Below W.heap.size W w) := hb
  have hlt := hst.lt
  clear hst hs hc0 hc1 hb
  have hk0 : ((k : Int) == 0) = false := by simpa using hne
  go_enter Ybaf.func6, Ybaf.ntmps6
  go_wp2
  refine wp_loop_rounds 1 ?_
  rw [rounds_succ]
  go_wp2_with fail
  refine HS.out.mono ?_
  rintro e w' ⟨rfl, hb⟩
  have hE' : w'.cell? ⟨W.heap.size, 2, none⟩ = some (.slice (some ⟨g, 0, none⟩) k cap) := by rw [hb.cell (p := ⟨W.heap.size, 2, none⟩) (by simpa using hlt)]; exact hwf
  go_wp2
  go_ret
  have hbb : Below W.heap.size W w' := (HB.out.setCell (Nat.le_refl _) _).trans (hb.mono (by simp; omega))
  exact ⟨_, rfl, hbb.alloc hbb.size _⟩
end Go.Proofs.YbulkrbqFmt
