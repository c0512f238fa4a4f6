import Derived.Test.YbulkrceWaits
import Derived.Deep.AppendLies
import Derived.OneCell
namespace Go.Proofs.Ybulkrce
open Go.RowKit

/-- Integers as cells. -/
def ints (l : List Int) : List Value := l.map (Value.int .i64)
def intRow (l : List Int) : Array Value := (ints l).toArray

theorem ints_snoc (l : List Int) (v : Int) : ints l ++ [.int .i64 v] = ints (l ++ [v]) := by simp [ints]
theorem ints_set (l : List Int) (i : Nat) (v : Int) : (ints l).set i (.int .i64 v) = ints (l.set i v) := by simp [ints, List.map_set]
theorem ints_get (l : List Int) (i : Nat) (h : i < l.length) : (ints l)[i]? = some (.int .i64 (l.getD i 0)) := by simp [ints, h]
theorem ints_length (l : List Int) : (ints l).length = l.length := by simp [ints]
theorem intRow_set (l : List Int) (i : Nat) (v : Int) : (intRow l).setIfInBounds i (.int .i64 v) = intRow (l.set i v) := by
  simp [intRow, ← ints_set]
theorem intRow_get (l : List Int) (i : Nat) (h : i < l.length) : (intRow l)[i]? = some (.int .i64 (l.getD i 0)) := by
  simp [intRow, ints, h]

/-- The History's cells: thread at 3, source at 9. -/
def histCells (os ot : Value) : Array Value :=
  #[.slice none 0 0, .slice none 0 0, .slice none 0 0, ot, .slice none 0 0, .slice none 0 0, .slice none 0 0, .slice none 0 0, .slice none 0 0, os, .pointer none]

/-- What the law's first loop holds in memory. -/
structure LM (w : World) (A0 A1 A2 A3 : Array Value) (s t : List Int) (os : Value) (ns : Nat) (xs : List Int) (ot : Value) (nt : Nat) (ys : List Int) (wr : World) : Prop where
  below : Below w.heap.size w wr
  k0 : wr.heap[w.heap.size]? = some (.cells A0 61 (0, 0))
  k1 : wr.heap[w.heap.size + 1]? = some (.cells A1 63 (0, 0))
  k2 : wr.heap[w.heap.size + 2]? = some (.cells A2 64 (0, 0))
  k3 : wr.heap[w.heap.size + 3]? = some (.cells A3 64 (0, 0))
  k4 : wr.heap[w.heap.size + 4]? = some (.cells (intRow s) 3 (0, 0))
  k5 : wr.heap[w.heap.size + 5]? = some (.cells (intRow t) 3 (0, 0))
  k6 : wr.heap[w.heap.size + 6]? = some (.cells (histCells os ot) 70 (0, 0))
  po : wr.ownsRow (w.heap.size + 7) 3 1 os ns (ints xs)
  pt : wr.ownsRow (w.heap.size + 7) 3 1 ot nt (ints ys)
  ne : os.ownBlock = none ∨ os.ownBlock ≠ ot.ownBlock

section
variable {w : World} {A0 A1 A2 A3 : Array Value} {s t : List Int} {os : Value} {ns : Nat} {xs : List Int} {ot : Value} {nt : Nat} {ys : List Int} {wr : World}

theorem LM.size (h : LM w A0 A1 A2 A3 s t os ns xs ot nt ys wr) : w.heap.size + 6 < wr.heap.size := lt_of_block h.k6

theorem LM.keep (h : LM w A0 A1 A2 A3 s t os ns xs ot nt ys wr) {w' : World} (hb : Below wr.heap.size wr w') : LM w A0 A1 A2 A3 s t os ns xs ot nt ys w' := by
  have hz := h.size
  have hg : wr.grownBy w' none := ⟨hb.os, hb.tape, hb.output, hb.size, fun k hk _ => hb.block k hk⟩
  refine ⟨h.below.trans (hb.mono (by omega)), ?_, ?_, ?_, ?_, ?_, ?_, ?_, h.po.kept hg ?_, h.pt.kept hg ?_, h.ne⟩
  · rw [hb.block _ (by omega)]; exact h.k0
  · rw [hb.block _ (by omega)]; exact h.k1
  · rw [hb.block _ (by omega)]; exact h.k2
  · rw [hb.block _ (by omega)]; exact h.k3
  · rw [hb.block _ (by omega)]; exact h.k4
  · rw [hb.block _ (by omega)]; exact h.k5
  · rw [hb.block _ (by omega)]; exact h.k6
  · cases os.ownBlock <;> simp
  · cases ot.ownBlock <;> simp

theorem LM.alloc (h : LM w A0 A1 A2 A3 s t os ns xs ot nt ys wr) (o : Obj) : LM w A0 A1 A2 A3 s t os ns xs ot nt ys (wr.alloc o) :=
  h.keep ((Below.refl _ _).alloc (Nat.le_refl _) o)
theorem LM.drewN (h : LM w A0 A1 A2 A3 s t os ns xs ot nt ys wr) (n : Nat) : LM w A0 A1 A2 A3 s t os ns xs ot nt ys (wr.drewN n) :=
  h.keep (below_drewN (Below.refl _ _) n)
theorem LM.drew (h : LM w A0 A1 A2 A3 s t os ns xs ot nt ys wr) : LM w A0 A1 A2 A3 s t os ns xs ot nt ys wr.drew :=
  h.keep (Below.refl _ _).drew

theorem heap_set_same (w : World) (b o : Nat) (cur : Array Value) (e : TypeId) (v : Value) (h : w.heap[b]? = some (.cells cur e (0, 0))) :
    (w.setCell ⟨b, o, none⟩ v).heap[b]? = some (.cells (cur.setIfInBounds o v) e (0, 0)) := by
  simp [World.setCell, Array.getElem?_modify, h]

theorem own_apart {base b : Nat} {e : TypeId} {v : Value} {n : Nat} {l : List Value} (h : wr.ownsRow base e 1 v n l) (hb : b < base) : v.ownBlock ≠ some b := fun e' => by
  have := (h.lt b e').1
  omega

/-- A store into one of the blocks 4, 5: the others are as they were. -/
theorem LM.setS (h : LM w A0 A1 A2 A3 s t os ns xs ot nt ys wr) (i : Nat) (v : Int) : LM w A0 A1 A2 A3 (s.set i v) t os ns xs ot nt ys (wr.setCell ⟨w.heap.size + 4, i, none⟩ (.int .i64 v)) := by
  refine ⟨h.below.setCell (by simp) _, ?_, ?_, ?_, ?_, ?_, ?_, ?_, ownsRow_setCell_other h.po (own_apart h.po (by simp)) _, ownsRow_setCell_other h.pt (own_apart h.pt (by simp)) _, h.ne⟩
  · rw [Below.heap_setCell _ _ _ _ (by simp)]; exact h.k0
  · rw [Below.heap_setCell _ _ _ _ (by simp)]; exact h.k1
  · rw [Below.heap_setCell _ _ _ _ (by simp)]; exact h.k2
  · rw [Below.heap_setCell _ _ _ _ (by simp)]; exact h.k3
  · rw [heap_set_same _ _ _ _ _ _ h.k4, intRow_set]
  · rw [Below.heap_setCell _ _ _ _ (by simp)]; exact h.k5
  · rw [Below.heap_setCell _ _ _ _ (by simp)]; exact h.k6

theorem LM.setT (h : LM w A0 A1 A2 A3 s t os ns xs ot nt ys wr) (i : Nat) (v : Int) : LM w A0 A1 A2 A3 s (t.set i v) os ns xs ot nt ys (wr.setCell ⟨w.heap.size + 5, i, none⟩ (.int .i64 v)) := by
  refine ⟨h.below.setCell (by simp) _, ?_, ?_, ?_, ?_, ?_, ?_, ?_, ownsRow_setCell_other h.po (own_apart h.po (by simp)) _, ownsRow_setCell_other h.pt (own_apart h.pt (by simp)) _, h.ne⟩
  · rw [Below.heap_setCell _ _ _ _ (by simp)]; exact h.k0
  · rw [Below.heap_setCell _ _ _ _ (by simp)]; exact h.k1
  · rw [Below.heap_setCell _ _ _ _ (by simp)]; exact h.k2
  · rw [Below.heap_setCell _ _ _ _ (by simp)]; exact h.k3
  · rw [Below.heap_setCell _ _ _ _ (by simp)]; exact h.k4
  · rw [heap_set_same _ _ _ _ _ _ h.k5, intRow_set]
  · rw [Below.heap_setCell _ _ _ _ (by simp)]; exact h.k6

/-- h.source = append(h.source, v). -/
theorem LM.appS (h : LM w A0 A1 A2 A3 s t os ns xs ot nt ys wr) (v : Int) (g cap : Nat) (w1 : World)
    (hown : w1.ownsRow (w.heap.size + 7) 3 1 (.slice (some ⟨g, 0, none⟩) (ns + 1) cap) (ns + 1) (ints xs ++ [.int .i64 v])) (hgrow : wr.grownBy w1 os.ownBlock) (hat : os.ownBlock = some g ∨ g = wr.heap.size) :
    LM w A0 A1 A2 A3 s t (.slice (some ⟨g, 0, none⟩) (ns + 1) cap) (ns + 1) (xs ++ [v]) ot nt ys (w1.setCell ⟨w.heap.size + 6, 9, none⟩ (.slice (some ⟨g, 0, none⟩) (ns + 1) cap)) := by
  have hz := h.size
  have far : ∀ b, b < w.heap.size + 7 → w1.heap[b]? = wr.heap[b]? := fun b hb => hgrow.block b (by omega) (Ne.symm (own_apart h.po hb))
  have hb1 := h.below.grown hgrow (by omega) (fun k hk => by have := (h.po.lt k hk).1; omega)
  rw [ints_snoc] at hown
  have hpt1 : w1.ownsRow (w.heap.size + 7) 3 1 ot nt (ints ys) := h.pt.kept hgrow (by
    rcases h.ne with e | e
    · cases ho : ot.ownBlock <;> simp [e]
    · exact Or.inr (Ne.symm e))
  refine ⟨hb1.setCell (by simp) _, ?_, ?_, ?_, ?_, ?_, ?_, ?_, ownsRow_setCell_other hown (own_apart hown (by simp)) _, ownsRow_setCell_other hpt1 (own_apart hpt1 (by simp)) _, ?_⟩
  · rw [Below.heap_setCell _ _ _ _ (by simp), far _ (by omega)]; exact h.k0
  · rw [Below.heap_setCell _ _ _ _ (by simp), far _ (by omega)]; exact h.k1
  · rw [Below.heap_setCell _ _ _ _ (by simp), far _ (by omega)]; exact h.k2
  · rw [Below.heap_setCell _ _ _ _ (by simp), far _ (by omega)]; exact h.k3
  · rw [Below.heap_setCell _ _ _ _ (by simp), far _ (by omega)]; exact h.k4
  · rw [Below.heap_setCell _ _ _ _ (by simp), far _ (by omega)]; exact h.k5
  · rw [heap_set_same _ _ _ _ _ _ ((far _ (by omega)).trans h.k6)]; rfl
  · right
    show some g ≠ ot.ownBlock
    rcases hat with e | e
    · rcases h.ne with e2 | e2
      · rw [e2] at e; cases e
      · rw [← e]; exact e2
    · intro e3
      have := (h.pt.lt g e3.symm).2
      omega

/-- h.thread = append(h.thread, v). -/
theorem LM.appT (h : LM w A0 A1 A2 A3 s t os ns xs ot nt ys wr) (v : Int) (g cap : Nat) (w1 : World)
    (hown : w1.ownsRow (w.heap.size + 7) 3 1 (.slice (some ⟨g, 0, none⟩) (nt + 1) cap) (nt + 1) (ints ys ++ [.int .i64 v])) (hgrow : wr.grownBy w1 ot.ownBlock) (hat : ot.ownBlock = some g ∨ g = wr.heap.size) :
    LM w A0 A1 A2 A3 s t os ns xs (.slice (some ⟨g, 0, none⟩) (nt + 1) cap) (nt + 1) (ys ++ [v]) (w1.setCell ⟨w.heap.size + 6, 3, none⟩ (.slice (some ⟨g, 0, none⟩) (nt + 1) cap)) := by
  have hz := h.size
  have far : ∀ b, b < w.heap.size + 7 → w1.heap[b]? = wr.heap[b]? := fun b hb => hgrow.block b (by omega) (Ne.symm (own_apart h.pt hb))
  have hb1 := h.below.grown hgrow (by omega) (fun k hk => by have := (h.pt.lt k hk).1; omega)
  rw [ints_snoc] at hown
  have hpo1 : w1.ownsRow (w.heap.size + 7) 3 1 os ns (ints xs) := h.po.kept hgrow h.ne
  refine ⟨hb1.setCell (by simp) _, ?_, ?_, ?_, ?_, ?_, ?_, ?_, ownsRow_setCell_other hpo1 (own_apart hpo1 (by simp)) _, ownsRow_setCell_other hown (own_apart hown (by simp)) _, ?_⟩
  · rw [Below.heap_setCell _ _ _ _ (by simp), far _ (by omega)]; exact h.k0
  · rw [Below.heap_setCell _ _ _ _ (by simp), far _ (by omega)]; exact h.k1
  · rw [Below.heap_setCell _ _ _ _ (by simp), far _ (by omega)]; exact h.k2
  · rw [Below.heap_setCell _ _ _ _ (by simp), far _ (by omega)]; exact h.k3
  · rw [Below.heap_setCell _ _ _ _ (by simp), far _ (by omega)]; exact h.k4
  · rw [Below.heap_setCell _ _ _ _ (by simp), far _ (by omega)]; exact h.k5
  · rw [heap_set_same _ _ _ _ _ _ ((far _ (by omega)).trans h.k6)]; rfl
  · rcases h.ne with e | e
    · exact Or.inl e
    · right
      show os.ownBlock ≠ some g
      rcases hat with e2 | e2
      · rw [← e2]; exact e
      · intro e3
        have := (h.po.lt g e3).2
        omega

/-- h.source[i] = v. -/
theorem LM.setX {g cap : Nat} (h : LM w A0 A1 A2 A3 s t (.slice (some ⟨g, 0, none⟩) ns cap) ns xs ot nt ys wr) (i : Nat) (v : Int) :
    LM w A0 A1 A2 A3 s t (.slice (some ⟨g, 0, none⟩) ns cap) ns (xs.set i v) ot nt ys (wr.setCell ⟨g, i, none⟩ (.int .i64 v)) := by
  have hz := h.size
  have hgl := h.po.lt g rfl
  obtain ⟨h1, h2⟩ := h.po.stored i (.int .i64 v)
  rw [ints_set] at h1
  have hne : ot.ownBlock ≠ some g := by
    rcases h.ne with e | e
    · simp [Value.ownBlock] at e
    · exact Ne.symm e
  refine ⟨h.below.setCell (by simp; omega) _, ?_, ?_, ?_, ?_, ?_, ?_, ?_, h1, ownsRow_setCell_other h.pt hne _, h.ne⟩
  · rw [Below.heap_setCell _ _ _ _ (by simp; omega)]; exact h.k0
  · rw [Below.heap_setCell _ _ _ _ (by simp; omega)]; exact h.k1
  · rw [Below.heap_setCell _ _ _ _ (by simp; omega)]; exact h.k2
  · rw [Below.heap_setCell _ _ _ _ (by simp; omega)]; exact h.k3
  · rw [Below.heap_setCell _ _ _ _ (by simp; omega)]; exact h.k4
  · rw [Below.heap_setCell _ _ _ _ (by simp; omega)]; exact h.k5
  · rw [Below.heap_setCell _ _ _ _ (by simp; omega)]; exact h.k6
end

/-- The first i of l, then noughts. -/
def row8 (l : List Int) (i : Nat) : List Int := l.take i ++ List.replicate (8 - i) 0

theorem row8_length (l : List Int) (i : Nat) (hl : l.length = 8) (hi : i ≤ 8) : (row8 l i).length = 8 := by simp [row8, hl]; omega
theorem row8_all (l : List Int) (hl : l.length = 8) : row8 l 8 = l := by simp [row8, List.take_of_length_le (by omega : l.length ≤ 8)]
theorem row8_set (l : List Int) (i : Nat) (hl : l.length = 8) (hi : i < 8) : (row8 l i).set i (l.getD i 0) = row8 l (i + 1) := by
  unfold row8
  apply List.ext_getElem?
  intro j
  simp only [List.getElem?_set, List.getElem?_append, List.length_take, hl, List.getElem?_take, List.getElem?_replicate, List.length_append, List.length_replicate]
  by_cases h1 : i = j
  · subst h1
    simp [hi, hl, show i < min (i + 1) 8 by omega, show i < i + 1 by omega]
    omega
  · by_cases h2 : j < i
    · simp [h1, h2, show j < min i 8 by omega, show j < min (i + 1) 8 by omega, show j < i + 1 by omega]
    · simp [h1, show ¬ j < min i 8 by omega, show ¬ j < min (i + 1) 8 by omega]
      by_cases h3 : j < 8
      · rw [if_pos (by omega), if_pos (by omega)]
      · rw [if_neg (by omega), if_neg (by omega)]
theorem take_snoc (l : List Int) (i : Nat) (hi : i < l.length) : l.take i ++ [l.getD i 0] = l.take (i + 1) := by
  rw [List.take_succ_eq_append_getElem hi]; simp [hi]
theorem set_last (l : List Int) (i : Nat) (a v : Int) (hi : (l.take i).length = i) : (l.take i ++ [a]).set i v = l.take i ++ [v] := by
  rw [List.set_append, if_neg (by omega), hi]; simp

/-- The first i of l, then z up to n in all. -/
def rowPad {α : Type} (z : α) (n : Nat) (l : List α) (i : Nat) : List α := l.take i ++ List.replicate (n - i) z

theorem rowPad_length {α : Type} (z : α) (n : Nat) (l : List α) (i : Nat) (hl : l.length = n) (hi : i ≤ n) : (rowPad z n l i).length = n := by simp [rowPad, hl]; omega
theorem rowPad_all {α : Type} (z : α) (n : Nat) (l : List α) (hl : l.length = n) : rowPad z n l n = l := by
  have h : l.take n = l := List.take_of_length_le (by omega)
  simp [rowPad, h]
theorem rowPad_zero {α : Type} (z : α) (n : Nat) (l : List α) : rowPad z n l 0 = List.replicate n z := by simp [rowPad]
theorem rowPad_set {α : Type} (z : α) (n : Nat) (l : List α) (i : Nat) (hl : l.length = n) (hi : i < n) : (rowPad z n l i).set i (l.getD i z) = rowPad z n l (i + 1) := by
  unfold rowPad
  apply List.ext_getElem?
  intro j
  simp only [List.getElem?_set, List.getElem?_append, List.length_take, hl, List.getElem?_take, List.getElem?_replicate, List.length_append, List.length_replicate]
  by_cases h1 : i = j
  · subst h1
    simp [hi, hl, show i < min (i + 1) n by omega, show i < i + 1 by omega]
    omega
  · by_cases h2 : j < i
    · simp [h1, h2, show j < min i n by omega, show j < min (i + 1) n by omega, show j < i + 1 by omega]
    · simp [h1, show ¬ j < min i n by omega, show ¬ j < min (i + 1) n by omega]
      by_cases h3 : j < n
      · rw [if_pos (by omega), if_pos (by omega)]
      · rw [if_neg (by omega), if_neg (by omega)]

/-- Truth values as cells. -/
def boolRow (l : List Bool) : Array Value := (l.map Value.bool).toArray
theorem boolRow_set (l : List Bool) (i : Nat) (v : Bool) : (boolRow l).setIfInBounds i (.bool v) = boolRow (l.set i v) := by
  simp [boolRow, List.map_set]
theorem boolRow_get (l : List Bool) (i : Nat) (h : i < l.length) : (boolRow l)[i]? = some (.bool (l.getD i false)) := by
  simp [boolRow, h]

/-- The saturation's cells: readers at 1. -/
def satCells (rb : Nat) : Array Value :=
  #[.slice none 0 0, .slice (some ⟨rb, 0, none⟩) 8 8, .pointer none, .int .i64 0, .bool false, .bool false, .bool false, .bool false, .slice none 0 0, .slice none 0 0, .bool false, .int .i64 0, .bool false, .slice none 0 0, .int .i64 0, .int .i64 0, .int .i64 0, .bool false, .slice none 0 0, .slice none 0 0, .int .i64 0, .int .i64 0, .bool false, .int .i32 0, .slice none 0 0, .slice none 0 0, .slice none 0 0, .slice none 0 0, .slice none 0 0, .slice none 0 0, .slice none 0 0, .int .i32 0, .int .i64 0, .int .i64 0]
/-- The base's cells: h at 0, external at 17. -/
def baseCells (Hh : Nat) (ext : Bool) : Array Value :=
  #[.pointer (some ⟨Hh, 0, none⟩), .slice none 0 0, .slice none 0 0, .slice none 0 0, .slice none 0 0, .slice none 0 0, .slice none 0 0, .slice none 0 0, .slice none 0 0, .int .i64 0, .bool false, .slice none 0 0, .int .i64 0, .slice none 0 0, .slice none 0 0, .slice none 0 0, .slice none 0 0, .bool ext, .slice none 0 0, .slice none 0 0, .slice none 0 0, .bool false]
/-- The rulePlacing's cells. -/
def rpCells (Sb B db : Nat) : Array Value :=
  #[.pointer (some ⟨Sb, 0, none⟩), .pointer (some ⟨B, 0, none⟩), .pointer none, .slice (some ⟨db, 0, none⟩) 8 8, .slice none 0 0, .slice none 0 0, .slice none 0 0, .slice none 0 0]
/-- The placing's cells. -/
def plCells (wb : Nat) : Array Value := #[.pointer none, .slice none 0 0, .slice (some ⟨wb, 0, none⟩) 8 8]

theorem five_blocks (W : World) (o0 o1 o2 o3 o4 : Obj) :
    let w := ((((W.alloc o0).alloc o1).alloc o2).alloc o3).alloc o4
    Below W.heap.size W w ∧ w.heap[W.heap.size]? = some o0 ∧ w.heap[W.heap.size + 1]? = some o1 ∧ w.heap[W.heap.size + 2]? = some o2 ∧ w.heap[W.heap.size + 3]? = some o3 ∧ w.heap[W.heap.size + 4]? = some o4 := by
  have nw : ∀ (w : World) (o : Obj) (k : Nat), w.heap.size = k → (w.alloc o).heap[k]? = some o := fun w o k hk => by subst hk; exact heap_alloc_new w o
  refine ⟨(((((Below.refl _ _).alloc (Nat.le_refl _) _).alloc (by simp) _).alloc (by simp; omega) _).alloc (by simp; omega) _).alloc (by simp; omega) _, ?_, ?_, ?_, ?_, ?_⟩
  · iterate 4 rw [Below.heap_alloc _ _ _ (by simp <;> omega)]
    exact nw _ _ _ rfl
  · iterate 3 rw [Below.heap_alloc _ _ _ (by simp <;> omega)]
    exact nw _ _ _ (by simp)
  · iterate 2 rw [Below.heap_alloc _ _ _ (by simp <;> omega)]
    exact nw _ _ _ (by simp)
  · rw [Below.heap_alloc _ _ _ (by simp <;> omega)]
    exact nw _ _ _ (by simp)
  · exact nw _ _ _ (by simp)

/-- What waits reads, out of what the law has laid. -/
theorem cm_make {w : World} {A0 A1 A2 A3 : Array Value} {src thr : List Int} {sb sc tb tc : Nat} {W Wc : World} {ext : Bool} {dn : List Bool} {wt : List Int} {db wb rb B R P S : Nat}
    (hM : LM w A0 A1 A2 A3 src thr (.slice (some ⟨sb, 0, none⟩) 8 sc) 8 src (.slice (some ⟨tb, 0, none⟩) 8 tc) 8 thr W)
    (hd : W.heap[db]? = some (.cells (boolRow dn) 4 (0, 0))) (ht : W.heap[wb]? = some (.cells (intRow wt) 3 (0, 0))) (ls : src.length = 8) (lt : thr.length = 8) (ld : dn.length = 8) (lw : wt.length = 8) (hle : ∀ j, j < 8 → src.getD j 0 ≤ 7)
    (hb : Below W.heap.size W Wc) (_h1 : Wc.heap[S]? = some (.cells (satCells rb) 89 (0, 0))) (h2 : Wc.heap[B]? = some (.cells (baseCells (w.heap.size + 6) ext) 43 (0, 0))) (h3 : Wc.heap[R]? = some (.cells (rpCells S B db) 91 (0, 0))) (h4 : Wc.heap[P]? = some (.cells (plCells wb) 94 (0, 0))) :
    CM B (w.heap.size + 6) sb tb sc tc R db 8 P wb 8 ext src thr dn wt Wc := by
  have hMc := hM.keep hb
  have hdc : Wc.heap[db]? = some (.cells (boolRow dn) 4 (0, 0)) := by rw [hb.block _ (lt_of_block hd)]; exact hd
  have htc : Wc.heap[wb]? = some (.cells (intRow wt) 3 (0, 0)) := by rw [hb.block _ (lt_of_block ht)]; exact ht
  refine ⟨?_, ?_, ?_, ?_, fun j hj => ?_, fun j hj => ?_, hle, ?_, ?_, fun j hj => ?_, ?_, fun j hj => ?_⟩
  · simp [World.cell?, h2, baseCells]
  · simp [World.cell?, h2, baseCells]
  · simp [World.cell?, hMc.k6, histCells]
  · simp [World.cell?, hMc.k6, histCells]
  · rw [hMc.po.cellAt j (by omega)]; exact ints_get _ _ (by omega)
  · rw [hMc.pt.cellAt j (by omega)]; exact ints_get _ _ (by omega)
  · simp [World.cell?, h3, rpCells]
  · simp [World.cell?, h3, rpCells]
  · simp only [World.cell?, hdc, boolRow_get dn j (by omega)]; rfl
  · simp [World.cell?, h4, plCells]
  · simp only [World.cell?, htc, intRow_get wt j (by omega)]; rfl
end Go.Proofs.Ybulkrce
