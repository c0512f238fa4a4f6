import Derived.Test.YbulkrceBCheck
namespace Go.Proofs.Ybulkrce
open Go.RowKit
set_option linter.unusedVariables false

/-- The first k places hold their own number. -/
def filled (k : Nat) : Nat → Nat := fun j => if j < k then j else 0
theorem filled_zero : filled 0 = fun _ => 0 := by funext j; simp [filled]
theorem filled_succ (k : Nat) : upd (filled k) k k = filled (k + 1) := by
  funext j
  by_cases h : j = k
  · subst h; simp [upd, filled]
  · by_cases h2 : j < k
    · simp [upd, filled, h, h2]; omega
    · simp [upd, filled, h, h2]; omega

structure HS1 (W : World) (n : Nat) (a : Nat → Int) (k : Nat) (w : World) : Prop where
  below : Below W.heap.size W w
  ar : w.heap[W.heap.size]? = some (.cells (flRow n a) 51 (0, 0))
  obj : w.heap[W.heap.size + 1]? = some (.cells (heapCells W.heap.size n) 55 (0, 0))
  pr : w.heap[W.heap.size + 2]? = some (.cells (fRow n (filled k)) 21 (0, 0))
  tr : w.heap[W.heap.size + 3]? = some (.cells (fRow n fun _ => 0) 21 (0, 0))
  kr : w.heap[W.heap.size + 4]? = some (.cells (fRow n (filled k)) 21 (0, 0))

theorem HS1.step {W w : World} {n : Nat} {a : Nat → Int} {k : Nat} (h : HS1 W n a k w) :
    HS1 W n a (k + 1) ((w.setCell ⟨W.heap.size + 2, k, none⟩ (.int .i32 k)).setCell ⟨W.heap.size + 4, k, none⟩ (.int .i32 k)) := by
  refine ⟨(h.below.setCell (by simp) _).setCell (by simp) _, ?_, ?_, ?_, ?_, ?_⟩
  · rw [Below.heap_setCell _ _ _ _ (by simp), Below.heap_setCell _ _ _ _ (by simp)]; exact h.ar
  · rw [Below.heap_setCell _ _ _ _ (by simp), Below.heap_setCell _ _ _ _ (by simp)]; exact h.obj
  · rw [Below.heap_setCell _ _ _ _ (by simp), setB_same _ _ _ _ _ _ h.pr, fRow_set, filled_succ]
  · rw [Below.heap_setCell _ _ _ _ (by simp), Below.heap_setCell _ _ _ _ (by simp)]; exact h.tr
  · rw [setB_same _ _ _ (fRow n (filled k)) 21 _ (by rw [Below.heap_setCell _ _ _ _ (by simp)]; exact h.kr), fRow_set, filled_succ]

theorem HS1.done {W w : World} {n : Nat} {a : Nat → Int} (h : HS1 W n a n w) : HS W n a (fun j => j) (fun _ => 0) w := by
  have e : fRow n (filled n) = fRow n fun j => j := fRow_congr _ _ _ (fun j hj => by simp [filled, hj])
  exact ⟨h.below, h.ar, h.obj, by rw [← e]; exact h.pr, h.tr, by rw [← e]; exact h.kr⟩

/-- A permutation of the first n numbers. -/
def PermOk (n : Nat) (p : Nat → Nat) : Prop := (∀ j, j < n → p j < n) ∧ ∀ i j, i < n → j < n → p i = p j → i = j
theorem PermOk.swap {n : Nat} {p : Nat → Nat} (h : PermOk n p) {c d : Nat} (hc : c < n) (hd : d < n) : PermOk n (upd (upd p c (p d)) d (p c)) := by
  have val : ∀ k, upd (upd p c (p d)) d (p c) k = p (if k = d then c else if k = c then d else k) := fun k => by
    unfold upd
    by_cases h1 : k = d
    · simp [h1]
    · by_cases h2 : k = c
      · subst h2; simp [h1]
      · simp [h1, h2]
  refine ⟨fun k hk => ?_, fun i j hi hj e => ?_⟩
  · rw [val]; apply h.1; split
    · exact hc
    · split
      · exact hd
      · exact hk
  · rw [val, val] at e
    have := h.2 _ _ (by split; exact hc; split; exact hd; exact hi) (by split; exact hc; split; exact hd; exact hj) e
    split at this <;> split at this <;> (try split at this) <;> (try split at this) <;> omega
theorem PermOk.congr {n : Nat} {p q : Nat → Nat} (h : PermOk n p) (e : ∀ k, k < n → p k = q k) : PermOk n q :=
  ⟨fun k hk => by rw [← e k hk]; exact h.1 k hk, fun i j hi hj he => h.2 i j hi hj (by rw [e i hi, e j hj]; exact he)⟩

/-- The first m places are sorted. -/
def SortedTo (a : Nat → Int) (m : Nat) (p : Nat → Nat) : Prop := ∀ x y, x < y → y < m → ltB a (p y) (p x) = false
/-- .. up to k, but that place j may hold what goes before. -/
def SortBut (a : Nat → Int) (k : Nat) (p : Nat → Nat) (j : Nat) : Prop := ∀ x y, x < y → y ≤ k → y ≠ j → ltB a (p y) (p x) = false

theorem SortBut.start {a : Nat → Int} {k : Nat} {p : Nat → Nat} (h : SortedTo a k p) : SortBut a k p k := fun x y hxy hy hne => h x y hxy (by omega)
theorem SortBut.step {a : Nat → Int} {k j : Nat} {p : Nat → Nat} (h : SortBut a k p j) (hj : 0 < j) (hjk : j ≤ k) (hl : ltB a (p j) (p (j - 1)) = true) :
    SortBut a k (upd (upd p j (p (j - 1))) (j - 1) (p j)) (j - 1) := by
  intro x y hxy hy hne
  rw [upd_other _ _ _ _ hne]
  by_cases hyj : y = j
  · subst hyj
    rw [upd_same]
    by_cases hx : x = y - 1
    · rw [hx, upd_same]; exact ltB_asym hl
    · rw [upd_other _ _ _ _ hx, upd_other _ _ _ _ (by omega)]
      exact h x (y - 1) (by omega) (by omega) (by omega)
  · rw [upd_other _ _ _ _ hyj]
    by_cases hx : x = j - 1
    · rw [hx, upd_same]; exact h j y (by omega) hy hyj
    · rw [upd_other _ _ _ _ hx]
      by_cases hx2 : x = j
      · rw [hx2, upd_same]; exact h (j - 1) y (by omega) hy hyj
      · rw [upd_other _ _ _ _ hx2]; exact h x y hxy hy hyj
theorem SortBut.stop {a : Nat → Int} {k j : Nat} {p : Nat → Nat} (h : SortBut a k p j) (hjk : j ≤ k) (hs : j = 0 ∨ ltB a (p j) (p (j - 1)) = false) : SortedTo a (k + 1) p := by
  intro x y hxy hy
  by_cases hyj : y = j
  · subst hyj
    rcases hs with hs | hs
    · omega
    · by_cases hx : x = y - 1
      · rw [hx]; exact hs
      · exact ltB_neg hs (h x (y - 1) (by omega) (by omega) (by omega))
  · exact h x y hxy (by omega) hyj
theorem SortedTo.congr {a : Nat → Int} {m n : Nat} {p q : Nat → Nat} (h : SortedTo a m p) (hm : m ≤ n) (e : ∀ k, k < n → p k = q k) : SortedTo a m q := fun x y hxy hy => by
  rw [← e x (by omega), ← e y (by omega)]; exact h x y hxy hy

theorem upd_upd (f : Nat → Nat) (i u v : Nat) : upd (upd f i u) i v = upd f i v := by
  funext k
  by_cases h : k = i <;> simp [upd, h]
theorem upd_self (f : Nat → Nat) (i : Nat) : upd f i (f i) = f := by
  funext k
  by_cases h : k = i <;> simp [upd, h]
/-- One shift of the insertion is one exchange of what is meant. -/
theorem shift_swap (q : Nat → Nat) (j v : Nat) (hj : 0 < j) :
    upd (upd q j (q (j - 1))) (j - 1) v = upd (upd (upd q j v) j (upd q j v (j - 1))) (j - 1) (upd q j v j) := by
  rw [upd_same, upd_other _ _ _ _ (show j - 1 ≠ j by omega), upd_upd]
end Go.Proofs.Ybulkrce
