import Derived.Test.YbulkrceRows
import Derived.Test.YbulkrceFloat
import Derived.WalkKit
import Derived.WalkSpells
import Derived.WalkLawsBesides
import Derived.Deep.QuietTactic
import Derived.BigQuiet
import Derived.BigRegion
import Derived.OneCell
namespace Go.Proofs.Ybulkrce
open Go.RowKit

theorem hidB {p : Prop} (h : p) : Hid p := h

/-- f, turned at i. -/
def upd (f : Nat → Nat) (i v : Nat) : Nat → Nat := fun k => if k = i then v else f k
theorem upd_same (f : Nat → Nat) (i v : Nat) : upd f i v i = v := by simp [upd]
theorem upd_other (f : Nat → Nat) (i v k : Nat) (h : k ≠ i) : upd f i v k = f k := by simp [upd, h]

/-- n cells of int32. -/
def fRow (n : Nat) (f : Nat → Nat) : Array Value := ((List.range n).map fun j => Value.int .i32 (f j)).toArray
/-- n cells of float64, each a small whole number's word. -/
def flRow (n : Nat) (a : Nat → Int) : Array Value := ((List.range n).map fun j => Value.float .f64 (fb (a j))).toArray

theorem fRow_get (n : Nat) (f : Nat → Nat) (j : Nat) (h : j < n) : (fRow n f)[j]? = some (.int .i32 (f j)) := by simp [fRow, h]
theorem flRow_get (n : Nat) (a : Nat → Int) (j : Nat) (h : j < n) : (flRow n a)[j]? = some (.float .f64 (fb (a j))) := by simp [flRow, h]
theorem fRow_set (n : Nat) (f : Nat → Nat) (i v : Nat) : (fRow n f).setIfInBounds i (.int .i32 v) = fRow n (upd f i v) := by
  apply Array.ext'
  apply List.ext_getElem?
  intro j
  by_cases h1 : j = i
  · subst h1
    by_cases h2 : j < n <;> simp [fRow, upd, h2]
  · by_cases h2 : j < n <;> simp [fRow, upd, h1, h2, Ne.symm h1]
theorem fRow_congr (n : Nat) (f g : Nat → Nat) (h : ∀ j, j < n → f j = g j) : fRow n f = fRow n g := by
  unfold fRow
  congr 1
  apply List.map_congr_left
  intro j hj
  rw [h j (by simpa using hj)]
theorem flRow_set (n : Nat) (a : Nat → Int) (i : Nat) (v : Int) : (flRow n a).setIfInBounds i (.float .f64 (fb v)) = flRow n (fun k => if k = i then v else a k) := by
  apply Array.ext'
  apply List.ext_getElem?
  intro j
  by_cases h1 : j = i
  · subst h1
    by_cases h2 : j < n <;> simp [flRow, h2]
  · by_cases h2 : j < n <;> simp [flRow, h1, h2, Ne.symm h1]

/-- The pairHeap's cells; N: the block of its activities. -/
def heapCells (N n : Nat) : Array Value :=
  #[.slice none 0 0, .int .i64 0, .bool true, .slice (some ⟨N + 2, 0, none⟩) n n, .slice (some ⟨N + 3, 0, none⟩) n n, .slice (some ⟨N + 4, 0, none⟩) n n, .slice (some ⟨N, 0, none⟩) n n, .float .f64 4607182418800017408]

/-- What the law holds in memory: activities a, pairs p, places t, ranks. -/
structure HS (W : World) (n : Nat) (a : Nat → Int) (p t : Nat → Nat) (w : World) : Prop where
  below : Below W.heap.size W w
  ar : w.heap[W.heap.size]? = some (.cells (flRow n a) 51 (0, 0))
  obj : w.heap[W.heap.size + 1]? = some (.cells (heapCells W.heap.size n) 55 (0, 0))
  pr : w.heap[W.heap.size + 2]? = some (.cells (fRow n p) 21 (0, 0))
  tr : w.heap[W.heap.size + 3]? = some (.cells (fRow n t) 21 (0, 0))
  kr : w.heap[W.heap.size + 4]? = some (.cells (fRow n fun j => j) 21 (0, 0))

/-- The order: greater activity first, then the smaller number. -/
def ltB (a : Nat → Int) (x y : Nat) : Bool := decide (a y < a x) || (a x == a y && decide (x < y))

section
variable {W w : World} {n : Nat} {a : Nat → Int} {p t : Nat → Nat}

theorem setB_same (w : World) (b o : Nat) (cur : Array Value) (e : TypeId) (v : Value) (h : w.heap[b]? = some (.cells cur e (0, 0))) :
    (w.setCell ⟨b, o, none⟩ v).heap[b]? = some (.cells (cur.setIfInBounds o v) e (0, 0)) := by
  simp [World.setCell, Array.getElem?_modify, h]

theorem cellB {b o : Nat} {cur : Array Value} {e : TypeId} (h : w.heap[b]? = some (.cells cur e (0, 0))) : w.cell? ⟨b, o, none⟩ = cur[o]? := cell_of_row w b o cur e (0, 0) h
theorem freeB {b o : Nat} {cur : Array Value} {e : TypeId} (h : w.heap[b]? = some (.cells cur e (0, 0))) : w.frozen? ⟨b, o, none⟩ = false := by simp [World.frozen?, h]

theorem HS.size (h : HS W n a p t w) : W.heap.size + 4 < w.heap.size := lt_of_block h.kr

theorem HS.keep (h : HS W n a p t w) {w' : World} (hb : Below (W.heap.size + 5) w w') : HS W n a p t w' := by
  refine ⟨h.below.trans (hb.mono (by omega)), ?_, ?_, ?_, ?_, ?_⟩
  · rw [hb.block _ (by omega)]; exact h.ar
  · rw [hb.block _ (by omega)]; exact h.obj
  · rw [hb.block _ (by omega)]; exact h.pr
  · rw [hb.block _ (by omega)]; exact h.tr
  · rw [hb.block _ (by omega)]; exact h.kr

theorem HS.drewN (h : HS W n a p t w) (m : Nat) : HS W n a p t (w.drewN m) := h.keep (below_drewN (Below.refl _ _) m)
theorem HS.drew (h : HS W n a p t w) : HS W n a p t w.drew := h.keep (Below.refl _ _).drew

theorem HS.setP (h : HS W n a p t w) (i v : Nat) : HS W n a (upd p i v) t (w.setCell ⟨W.heap.size + 2, i, none⟩ (.int .i32 v)) := by
  refine ⟨h.below.setCell (by simp) _, ?_, ?_, ?_, ?_, ?_⟩
  · rw [Below.heap_setCell _ _ _ _ (by simp)]; exact h.ar
  · rw [Below.heap_setCell _ _ _ _ (by simp)]; exact h.obj
  · rw [setB_same _ _ _ _ _ _ h.pr, fRow_set]
  · rw [Below.heap_setCell _ _ _ _ (by simp)]; exact h.tr
  · rw [Below.heap_setCell _ _ _ _ (by simp)]; exact h.kr

theorem HS.setT (h : HS W n a p t w) (i v : Nat) : HS W n a p (upd t i v) (w.setCell ⟨W.heap.size + 3, i, none⟩ (.int .i32 v)) := by
  refine ⟨h.below.setCell (by simp) _, ?_, ?_, ?_, ?_, ?_⟩
  · rw [Below.heap_setCell _ _ _ _ (by simp)]; exact h.ar
  · rw [Below.heap_setCell _ _ _ _ (by simp)]; exact h.obj
  · rw [Below.heap_setCell _ _ _ _ (by simp)]; exact h.pr
  · rw [setB_same _ _ _ _ _ _ h.tr, fRow_set]
  · rw [Below.heap_setCell _ _ _ _ (by simp)]; exact h.kr

theorem HS.setA (h : HS W n a p t w) (i : Nat) (v : Int) : HS W n (fun k => if k = i then v else a k) p t (w.setCell ⟨W.heap.size, i, none⟩ (.float .f64 (fb v))) := by
  refine ⟨h.below.setCell (by simp) _, ?_, ?_, ?_, ?_, ?_⟩
  · rw [setB_same _ _ _ _ _ _ h.ar, flRow_set]
  · rw [Below.heap_setCell _ _ _ _ (by simp)]; exact h.obj
  · rw [Below.heap_setCell _ _ _ _ (by simp)]; exact h.pr
  · rw [Below.heap_setCell _ _ _ _ (by simp)]; exact h.tr
  · rw [Below.heap_setCell _ _ _ _ (by simp)]; exact h.kr

theorem HS.congr (h : HS W n a p t w) {p' t' : Nat → Nat} (hp : ∀ j, j < n → p j = p' j) (ht : ∀ j, j < n → t j = t' j) : HS W n a p' t' w :=
  ⟨h.below, h.ar, h.obj, by rw [← fRow_congr n p p' hp]; exact h.pr, by rw [← fRow_congr n t t' ht]; exact h.tr, h.kr⟩

theorem HS.cp (h : HS W n a p t w) (j : Nat) (hj : j < n) : w.cell? ⟨W.heap.size + 2, j, none⟩ = some (.int .i32 (p j)) := (cellB h.pr).trans (fRow_get n p j hj)
theorem HS.ct (h : HS W n a p t w) (j : Nat) (hj : j < n) : w.cell? ⟨W.heap.size + 3, j, none⟩ = some (.int .i32 (t j)) := (cellB h.tr).trans (fRow_get n t j hj)
theorem HS.ck (h : HS W n a p t w) (j : Nat) (hj : j < n) : w.cell? ⟨W.heap.size + 4, j, none⟩ = some (.int .i32 j) := (cellB h.kr).trans (fRow_get n _ j hj)
theorem HS.ca (h : HS W n a p t w) (j : Nat) (hj : j < n) : w.cell? ⟨W.heap.size, j, none⟩ = some (.float .f64 (fb (a j))) := (cellB h.ar).trans (flRow_get n a j hj)
end

theorem order_lt {x y : Int} (hx : x.natAbs < 1048576) (hy : y.natAbs < 1048576) (h : x < y) : FloatKind.f64.format.order (fb x) (fb y) = some .lt := by
  rw [order_fb x y hx hy, Int.compare_eq_lt.2 h]
theorem order_eq {x y : Int} (hx : x.natAbs < 1048576) (hy : y.natAbs < 1048576) (h : x = y) : FloatKind.f64.format.order (fb x) (fb y) = some .eq := by
  rw [order_fb x y hx hy, Int.compare_eq_eq.2 h]
theorem order_gt {x y : Int} (hx : x.natAbs < 1048576) (hy : y.natAbs < 1048576) (h : y < x) : FloatKind.f64.format.order (fb x) (fb y) = some .gt := by
  rw [order_fb x y hx hy, Int.compare_eq_gt.2 h]

set_option maxRecDepth 100000 in
set_option maxHeartbeats 1000000 in
theorem before_any (A n c : Nat) (a : Nat → Int) (x y : Nat) (w : World) (hx : x < n) (hy : y < n) (_hn : n ≤ 2000) (hb : ∀ j, (a j).natAbs < 1048576)
    (har : w.heap[A]? = some (.cells (flRow n a) 51 (0, 0))) :
    Calls Yba.prog 17 #[.slice (some ⟨A, 0, none⟩) n c, .int .i32 x, .int .i32 y] w fun e w' => e = .returned (.bool (ltB a x y)) ∧ ∃ m, w' = w.drewN m := by
  have cx : w.cell? ⟨A, x, none⟩ = some (.float .f64 (fb (a x))) := (cellB har).trans (flRow_get n a x hx)
  have cy : w.cell? ⟨A, y, none⟩ = some (.float .f64 (fb (a y))) := (cellB har).trans (flRow_get n a y hy)
  have x0 : (0 : Int) ≤ (x : Int) := by omega
  have x1 : (x : Int) < (n : Int) := by omega
  have y0 : (0 : Int) ≤ (y : Int) := by omega
  have y1 : (y : Int) < (n : Int) := by omega
  have HL := hidB (show ltB a x y = (decide (a y < a x) || (a x == a y && decide (x < y))) from rfl)
  rcases Int.lt_trichotomy (a x) (a y) with h | h | h
  · have ho := order_lt (hb x) (hb y) h
    have HF := hidB (show ltB a x y = false by rw [HL.out]; simp; omega)
    generalize fb (a x) = fx at *
    generalize fb (a y) = fy at *
    clear h har HL hb
    go_enter Yba.func17, Yba.ntmps17
    go_wp2_with fail
    go_quiet (fail)
    go_wp2
    go_ret
    exact ⟨by rw [HF.out]; simp, _, rfl⟩
  · have ho := order_eq (hb x) (hb y) h
    have HF := hidB (show ltB a x y = decide (x < y) by rw [HL.out]; simp [h])
    generalize fb (a x) = fx at *
    generalize fb (a y) = fy at *
    clear h har HL hb
    by_cases hlt : x < y
    · have HD := hidB (decide_eq_true hlt)
      have hlt' : (x : Int) < (y : Int) := by omega
      go_enter Yba.func17, Yba.ntmps17
      go_wp2_with fail
      go_quiet (fail)
      go_wp2
      go_ret
      exact ⟨by rw [HF.out, HD.out]; simp, _, rfl⟩
    · have HD := hidB (decide_eq_false hlt)
      have hlt' : ¬ (x : Int) < (y : Int) := by omega
      go_enter Yba.func17, Yba.ntmps17
      go_wp2_with fail
      go_quiet (fail)
      go_wp2
      go_ret
      exact ⟨by rw [HF.out, HD.out]; simp, _, rfl⟩
  · have ho := order_gt (hb x) (hb y) h
    have HF := hidB (show ltB a x y = true by rw [HL.out]; simp [h])
    generalize fb (a x) = fx at *
    generalize fb (a y) = fy at *
    clear h har HL hb
    go_enter Yba.func17, Yba.ntmps17
    go_wp2_with fail
    go_quiet (fail)
    go_wp2
    go_ret
    exact ⟨by rw [HF.out]; simp, _, rfl⟩
end Go.Proofs.Ybulkrce
