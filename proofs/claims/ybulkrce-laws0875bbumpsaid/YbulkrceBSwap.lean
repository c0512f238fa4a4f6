import Derived.Test.YbulkrceBMem
namespace Go.Proofs.Ybulkrce
open Go.RowKit
set_option linter.unusedVariables false

set_option maxRecDepth 100000 in
set_option maxHeartbeats 2000000 in
theorem less_any (W : World) (n : Nat) (a : Nat → Int) (p t : Nat → Nat) (x y : Nat) (w : World) (hx : x < n) (hy : y < n) (hn : n ≤ 2000) (hb : ∀ j, (a j).natAbs < 1048576) (hs : HS W n a p t w) :
    Calls Yba.prog 18 #[.pointer (some ⟨W.heap.size + 1, 0, none⟩), .int .i32 x, .int .i32 y] w fun e w' => e = .returned (.bool (ltB a x y)) ∧ ∃ m, w' = w.drewN m := by
  have cx := hs.ca x hx
  have cy := hs.ca y hy
  have kx := hs.ck x hx
  have ky := hs.ck y hy
  have o5 : w.cell? ⟨W.heap.size + 1, 5, none⟩ = some (.slice (some ⟨W.heap.size + 4, 0, none⟩) n n) := (cellB hs.obj).trans rfl
  have o6 : w.cell? ⟨W.heap.size + 1, 6, none⟩ = some (.slice (some ⟨W.heap.size, 0, none⟩) n n) := (cellB hs.obj).trans rfl
  have x0 : (0 : Int) ≤ (x : Int) := by omega
  have x1 : (x : Int) < (n : Int) := by omega
  have y0 : (0 : Int) ≤ (y : Int) := by omega
  have y1 : (y : Int) < (n : Int) := by omega
  have HL := hidB (show ltB a x y = (decide (a y < a x) || (a x == a y && decide (x < y))) from rfl)
  generalize W.heap.size = N at *
  clear hs
  rcases Int.lt_trichotomy (a x) (a y) with h | h | h
  · have ho := order_lt (hb x) (hb y) h
    have HF := hidB (show ltB a x y = false by rw [HL.out]; simp; omega)
    generalize fb (a x) = fx at *
    generalize fb (a y) = fy at *
    clear h HL hb
    go_enter Yba.func18, Yba.ntmps18
    go_wp2_with fail
    go_quiet (fail)
    go_wp2
    go_ret
    exact ⟨by rw [HF.out]; simp, _, rfl⟩
  · have ho := order_eq (hb x) (hb y) h
    have HF := hidB (show ltB a x y = decide (x < y) by rw [HL.out]; simp [h])
    generalize fb (a x) = fx at *
    generalize fb (a y) = fy at *
    clear h HL hb
    by_cases hlt : x < y
    · have HD := hidB (decide_eq_true hlt)
      have hlt' : (x : Int) < (y : Int) := by omega
      go_enter Yba.func18, Yba.ntmps18
      go_wp2_with fail
      go_quiet (fail)
      go_wp2
      go_ret
      exact ⟨by rw [HF.out, HD.out]; simp, _, rfl⟩
    · have HD := hidB (decide_eq_false hlt)
      have hlt' : ¬ (x : Int) < (y : Int) := by omega
      go_enter Yba.func18, Yba.ntmps18
      go_wp2_with fail
      go_quiet (fail)
      go_wp2
      go_ret
      exact ⟨by rw [HF.out, HD.out]; simp, _, rfl⟩
  · have ho := order_gt (hb x) (hb y) h
    have HF := hidB (show ltB a x y = true by rw [HL.out]; simp [h])
    generalize fb (a x) = fx at *
    generalize fb (a y) = fy at *
    clear h HL hb
    go_enter Yba.func18, Yba.ntmps18
    go_wp2_with fail
    go_quiet (fail)
    go_wp2
    go_ret
    exact ⟨by rw [HF.out]; simp, _, rfl⟩

set_option maxRecDepth 100000 in
set_option maxHeartbeats 4000000 in
theorem swap_any (W : World) (n : Nat) (a : Nat → Int) (p t : Nat → Nat) (i j : Nat) (w : World) (hi : i < n) (hj : j < n) (hij : i ≠ j) (hn : n ≤ 2000) (hpi : p i < n) (hpj : p j < n) (hpp : p i ≠ p j) (hs : HS W n a p t w) :
    Calls Yba.prog 19 #[.pointer (some ⟨W.heap.size + 1, 0, none⟩), .int .i64 i, .int .i64 j] w fun e w' => e = .returned (.tuple #[]) ∧ HS W n a (upd (upd p i (p j)) j (p i)) (upd (upd t (p j) i) (p i) j) w' ∧ ∀ b, W.heap.size + 5 ≤ b → w'.heap[b]? = w.heap[b]? := by
  have h2 := ((hs.setP i (p j)).setP j (p i)).drew
  have hsm : ∀ b, W.heap.size + 5 ≤ b → (((w.setCell ⟨W.heap.size + 2, i, none⟩ (.int .i32 (p j))).setCell ⟨W.heap.size + 2, j, none⟩ (.int .i32 (p i))).drew).heap[b]? = w.heap[b]? := fun b hb => by
    show ((w.setCell ⟨W.heap.size + 2, i, none⟩ (.int .i32 (p j))).setCell ⟨W.heap.size + 2, j, none⟩ (.int .i32 (p i))).heap[b]? = w.heap[b]?
    rw [Below.heap_setCell _ _ _ _ (by simp; omega), Below.heap_setCell _ _ _ _ (by simp; omega)]
  have pi := hs.cp i hi
  have pj := hs.cp j hj
  have fpi : w.frozen? ⟨W.heap.size + 2, i, none⟩ = false := freeB hs.pr
  have fpj : w.frozen? ⟨W.heap.size + 2, j, none⟩ = false := freeB hs.pr
  have o3 : w.cell? ⟨W.heap.size + 1, 3, none⟩ = some (.slice (some ⟨W.heap.size + 2, 0, none⟩) n n) := (cellB hs.obj).trans rfl
  have i0 : (0 : Int) ≤ (i : Int) := by omega
  have i1 : (i : Int) < (n : Int) := by omega
  have j0 : (0 : Int) ≤ (j : Int) := by omega
  have j1 : (j : Int) < (n : Int) := by omega
  have pi0 : (0 : Int) ≤ (p i : Int) := by omega
  have pi1 : (p i : Int) < (n : Int) := by omega
  have pj0 : (0 : Int) ≤ (p j : Int) := by omega
  have pj1 : (p j : Int) < (n : Int) := by omega
  have qi := h2.cp i hi
  have qj := h2.cp j hj
  rw [upd_other _ _ _ _ hij, upd_same] at qi
  rw [upd_same] at qj
  have ti := h2.ct (p i) hpi
  have tj := h2.ct (p j) hpj
  have fti : (((w.setCell ⟨W.heap.size + 2, i, none⟩ (.int .i32 (p j))).setCell ⟨W.heap.size + 2, j, none⟩ (.int .i32 (p i))).drew).frozen? ⟨W.heap.size + 3, p i, none⟩ = false := freeB h2.tr
  have ftj : (((w.setCell ⟨W.heap.size + 2, i, none⟩ (.int .i32 (p j))).setCell ⟨W.heap.size + 2, j, none⟩ (.int .i32 (p i))).drew).frozen? ⟨W.heap.size + 3, p j, none⟩ = false := freeB h2.tr
  have q3 : (((w.setCell ⟨W.heap.size + 2, i, none⟩ (.int .i32 (p j))).setCell ⟨W.heap.size + 2, j, none⟩ (.int .i32 (p i))).drew).cell? ⟨W.heap.size + 1, 3, none⟩ = some (.slice (some ⟨W.heap.size + 2, 0, none⟩) n n) := (cellB h2.obj).trans rfl
  have q4 : (((w.setCell ⟨W.heap.size + 2, i, none⟩ (.int .i32 (p j))).setCell ⟨W.heap.size + 2, j, none⟩ (.int .i32 (p i))).drew).cell? ⟨W.heap.size + 1, 4, none⟩ = some (.slice (some ⟨W.heap.size + 3, 0, none⟩) n n) := (cellB h2.obj).trans rfl
  have H2 := hidB (show _ ∧ _ from ⟨h2, hsm⟩)
  have Q := hidB (show _ ∧ _ ∧ _ ∧ _ ∧ _ ∧ _ ∧ _ ∧ _ from ⟨qi, qj, ti, tj, fti, ftj, q3, q4⟩)
  clear hs h2 hsm qi qj ti tj fti ftj q3 q4
  generalize t (p i) = ox at *
  generalize t (p j) = oy at *
  generalize hx : p i = x at *
  generalize hy : p j = y at *
  generalize hN : W.heap.size = N at *
  have HN := hidB (show _ ∧ _ ∧ _ from ⟨hN, hx, hy⟩)
  clear hN hx hy
  have hji : j ≠ i := fun e => hij e.symm
  have hyx : y ≠ x := fun e => hpp e.symm
  go_enter Yba.func19, Yba.ntmps19
  go_wp2_with fail
  go_region
  go_wp2_with fail
  generalize ((w.setCell ⟨N + 2, i, none⟩ (.int .i32 y)).setCell ⟨N + 2, j, none⟩ (.int .i32 x)).drew = wq at *
  obtain ⟨qi, qj, ti, tj, fti, ftj, q3, q4⟩ := Q.out
  clear pi pj fpi fpj o3 Q
  go_region
  go_wp2
  go_end0
  refine ⟨rfl, ?_⟩
  obtain ⟨hN, hx, hy⟩ := HN.out
  obtain ⟨h3, h4⟩ := H2.out
  subst hN hx hy
  refine ⟨((h3.setT (p j) i).setT (p i) j).drew, fun b hb => ?_⟩
  rw [← h4 b hb]
  show ((wq.setCell ⟨W.heap.size + 3, p j, none⟩ (.int .i32 i)).setCell ⟨W.heap.size + 3, p i, none⟩ (.int .i32 j)).heap[b]? = wq.heap[b]?
  rw [Below.heap_setCell _ _ _ _ (by simp; omega), Below.heap_setCell _ _ _ _ (by simp; omega)]
end Go.Proofs.Ybulkrce
