import Derived.Test.YbulkrceABefore
import Derived.Laws.CopyOwn
import Derived.Deep.AppendLies
namespace Go.Proofs.Ybulkrce
open Go.RowKit
set_option linter.unusedVariables false

/-- n cells of int32, of any sign. -/
def iRow (n : Nat) (f : Nat → Int) : Array Value := ((List.range n).map fun j => Value.int .i32 (f j)).toArray
theorem iRow_get (n : Nat) (f : Nat → Int) (j : Nat) (h : j < n) : (iRow n f)[j]? = some (.int .i32 (f j)) := by simp [iRow, h]
theorem iRow_set (n : Nat) (f : Nat → Int) (i : Nat) (v : Int) : (iRow n f).setIfInBounds i (.int .i32 v) = iRow n (fun k => if k = i then v else f k) := by
  apply Array.ext'
  apply List.ext_getElem?
  intro j
  by_cases h1 : j = i
  · subst h1
    by_cases h2 : j < n <;> simp [iRow, h2]
  · by_cases h2 : j < n <;> simp [iRow, h1, h2, Ne.symm h1]

theorem Yba.info21A : (Yba.prog.info? 21).map (fun i => (i.zero, i.size, i.bytes)) = some (some (.int .i32 0), 1, 4) := by kernel_rfl
theorem Yba.make23A (n : Nat) (hn : n ≤ 5000) (w : World) : (Instr.makeSlice 23 (.int .i64 n) (.int .i64 n)).run Yba.prog w = .ok (.slice (some ⟨w.heap.size, 0, none⟩) n n) (w.alloc (.cells (iRow n fun _ => 0) 21)) := by
  obtain ⟨i0, hi0, hz0, hz1, hz2⟩ := info_parts Yba.info21A
  have h := run_make (P := Yba.prog) w 23 21 i0 _ Yba.underlying23 hi0 hz0 .i64 .i64 (n : Int) (n : Int) (by omega) (by omega) (by rw [hz2]; omega) (by omega)
  rw [h, hz1]
  have e : madeCells (Value.cells (.int .i32 0)) ((n : Int).toNat * 1) = iRow n fun _ => 0 := by
    apply Array.ext'
    have := toList_madeCells_one (.int .i32 0) n
    simp only [Int.toNat_natCast, Nat.mul_one, Value.cells]
    rw [this]
    apply List.ext_getElem?
    intro j
    by_cases hj : j < n <;> simp [iRow, hj]
  rw [e]
  simp

/-- The first k numbers of a list. -/
def firstF (d : List Int) (k : Nat) : Nat → Int := fun j => if j < k then d.getD j 0 else 0
theorem firstF_zero (d : List Int) : firstF d 0 = fun _ => 0 := by funext j; simp [firstF]
theorem firstF_succ (d : List Int) (k : Nat) : (fun j => if j = k then d.getD k 0 else firstF d k j) = firstF d (k + 1) := by
  funext j
  by_cases h : j = k
  · subst h; simp [firstF]
  · by_cases h2 : j < k
    · simp [firstF, h, h2, show j < k + 1 by omega]
    · simp [firstF, h, h2, show ¬ j < k + 1 by omega]
theorem firstF_past (d : List Int) (k : Nat) (h : d.length ≤ k) : firstF d (k + 1) = firstF d k := by
  rw [← firstF_succ]
  funext j
  by_cases e : j = k
  · subst e; simp [firstF, h]
  · simp [e]

theorem Yba.info35 : (Yba.prog.info? 35).map (fun i => (i.zero, i.size, i.bytes)) = some (some (.agg #[.int .i32 0, .int .i32 0, .int .i32 0, .int .i32 0, .int .i32 0, .bool false, .int .i64 0]), 7, 32) := by kernel_rfl
theorem Yba.size35 : (Yba.prog.info? 35).map (·.size) = some 7 := by kernel_rfl

/-- The places' block as it is made. -/
def placesNew (n : Nat) : Array Value := madeCells #[.int .i32 0, .int .i32 0, .int .i32 0, .int .i32 0, .int .i32 0, .bool false, .int .i64 0] (n * 7)

theorem Yba.make33 (n : Nat) (hn : n ≤ 1024) (w : World) : (Instr.makeSlice 33 (.int .i64 n) (.int .i64 n)).run Yba.prog w = .ok (.slice (some ⟨w.heap.size, 0, none⟩) n n) (w.alloc (.cells (placesNew n) 35)) := by
  obtain ⟨i0, hi0, hz0, hz1, hz2⟩ := info_parts Yba.info35
  have h := run_make (P := Yba.prog) w 33 35 i0 _ Yba.underlying33 hi0 hz0 .i64 .i64 (n : Int) (n : Int) (by omega) (by omega) (by rw [hz2]; omega) (by omega)
  rw [h, hz1]
  simp [placesNew, Value.cells]

theorem there_new (w : World) (c : Array Value) (t : TypeId) (n : Nat) (hc : c.size = n) : (w.alloc (.cells c t)).there w.heap.size 0 n := fun j hj => by
  have hb : (w.alloc (.cells c t)).heap[w.heap.size]? = some (.cells c t (0, 0)) := heap_alloc_new _ _
  refine ⟨?_, freeB hb⟩
  rw [cellB hb, Nat.zero_add, Array.getElem?_eq_getElem (by omega)]
  rfl

theorem there_mid {w : World} {b m : Nat} (h : w.there b 0 m) (o n : Nat) (hn : o + n ≤ m) : w.there b o n := fun j hj => by
  have := h (o + j) (by omega)
  rwa [Nat.zero_add] at this

/-- One place's cells. -/
def placeCells (ps g sl wd va : Int) (lo : Bool) (off : Int) : Array Value := #[.int .i32 ps, .int .i32 g, .int .i32 sl, .int .i32 wd, .int .i32 va, .bool lo, .int .i64 off]

/-- The first k places are laid. -/
structure AT (W : World) (n : Nat) (f : Nat → Array Value) (k : Nat) (w : World) : Prop where
  below : Below W.heap.size W w
  room : w.there W.heap.size 0 (n * 7)
  laid : ∀ j, j < k → w.rangeAt W.heap.size (j * 7) (f j).toList

theorem below_setCells {n : Nat} {w0 : World} (b : Nat) (hb : n ≤ b) : ∀ (vs : List Value) (o : Nat) (w : World), Below n w0 w → Below n w0 (w.setCells b o vs)
  | [], _, _, h => h
  | v :: r, o, w, h => by
    rw [World.setCells]
    exact below_setCells b hb r (o + 1) _ (h.setCell hb _)

theorem size_setCells (b : Nat) : ∀ (vs : List Value) (o : Nat) (w : World), (w.setCells b o vs).heap.size = w.heap.size
  | [], _, _ => rfl
  | v :: r, o, w => by
    rw [World.setCells, size_setCells b r (o + 1)]
    simp

theorem AT.keep {W w w' : World} {n : Nat} {f : Nat → Array Value} {k : Nat} (h : AT W n f k w) (hb : Below (W.heap.size + 1) w w') (hs : W.heap.size < w.heap.size) : AT W n f k w' := by
  refine ⟨h.below.trans (hb.mono (by omega)), fun j hj => ?_, fun j hj i v hv => ?_⟩
  · have := h.room j hj
    refine ⟨by rw [hb.cell (p := ⟨W.heap.size, 0 + j, none⟩) (by simp)]; exact this.1, ?_⟩
    have e : w'.heap[W.heap.size]? = w.heap[W.heap.size]? := hb.block _ (by omega)
    have h2 := this.2
    simp only [World.frozen?, e] at h2 ⊢
    exact h2
  · rw [hb.cell (p := ⟨W.heap.size, j * 7 + i, none⟩) (by simp)]; exact h.laid j hj i v hv

theorem AT.step {W w : World} {n : Nat} {f : Nat → Array Value} {k : Nat} (h : AT W n f k w) (hk : k < n) (hf : ∀ j, (f j).size = 7) : AT W n f (k + 1) (w.setCells W.heap.size (k * 7) (f k).toList) := by
  have hl : ∀ j, (f j).toList.length = 7 := fun j => by simp [hf]
  refine ⟨below_setCells _ (Nat.le_refl _) _ _ _ h.below, World.there_setCells h.room _ _ _, fun j hj => ?_⟩
  by_cases e : j = k
  · subst e
    exact World.rangeAt_setCells_same _ _ _ _ (by rw [hl]; exact there_mid h.room _ _ (by omega))
  · exact World.rangeAt_setCells_apart (h.laid j (by omega)) _ _ _ (Or.inr (Or.inl (by rw [hl]; omega)))

theorem AT.start (W : World) (n : Nat) (f : Nat → Array Value) : AT W n f 0 (W.alloc (.cells (placesNew n) 35)) :=
  ⟨(Below.refl _ _).alloc (Nat.le_refl _) _, there_new _ _ _ _ (by simp [placesNew, madeCells]), fun j hj => by omega⟩
end Go.Proofs.Ybulkrce
