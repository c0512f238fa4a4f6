import Derived.Test.YbulkrceBMem
import Derived.Deep.MidRow
namespace Go.Proofs.Ybulkrce
open Go.RowKit
set_option linter.unusedVariables false

set_option maxRecDepth 100000 in
set_option maxHeartbeats 4000000 in
theorem before_wide (bb cb ab db n m a o wd sl : Nat) (ps v : Int) (w : World) (ha : a < n) (hn : n ≤ 1024) (hw0 : 0 < wd) (hw4 : wd ≤ 4) (ho : o < n) (hsl : sl < wd) (hm : m = n * wd)
    (c8 : w.cell? ⟨bb, 8, none⟩ = some (.slice (some ⟨ab, 0, none⟩) n n)) (c12 : w.cell? ⟨bb, 12, none⟩ = some (.int .i64 wd)) (cc : w.cell? ⟨cb, 0, none⟩ = some (.slice (some ⟨db, 0, none⟩) m m))
    (cp : w.cell? ⟨ab, a * 7, none⟩ = some (.int .i32 ps)) (cs : w.cell? ⟨ab, a * 7 + 2, none⟩ = some (.int .i32 sl)) (cv : w.cell? ⟨db, o * wd + sl, none⟩ = some (.int .i32 v)) :
    Calls Yba.prog 9 #[.agg #[.pointer (some ⟨bb, 0, none⟩), .pointer (some ⟨cb, 0, none⟩)], .int .i64 a, .int .i64 o] w fun e w' => e = .returned (.bool (decide (ps < v))) ∧ Below w.heap.size w w' := by
  have bm : o * wd + sl < m := by
    rw [hm]
    have := Nat.mul_le_mul_right wd (show o + 1 ≤ n by omega)
    rw [Nat.add_mul] at this
    omega
  have bb0 : m ≤ 4096 := by rw [hm]; exact Nat.mul_le_mul hn hw4
  have al : ∀ (p : Addr) (x : Value), w.cell? p = some x → (w.alloc (.cells #[.pointer (some ⟨bb, 0, none⟩), .pointer (some ⟨cb, 0, none⟩)] 27)).cell? p = some x := fun p x h => (World.cell?_alloc_lt w _ _ (World.block_lt_of_cell? w _ h)).trans h
  have HB := hidB ((Below.refl w.heap.size w).alloc (Nat.le_refl _) (.cells #[.pointer (some ⟨bb, 0, none⟩), .pointer (some ⟨cb, 0, none⟩)] 27))
  replace c8 := al _ _ c8
  replace c12 := al _ _ c12
  replace cc := al _ _ cc
  replace cp := al _ _ cp
  replace cs := al _ _ cs
  replace cv := al _ _ cv
  have a0 : (0 : Int) ≤ (a : Int) := by omega
  have a1 : (a : Int) < (n : Int) := by omega
  have w0 : (0 : Int) < (wd : Int) := by omega
  obtain ⟨j, hj⟩ : ∃ j : Nat, o * wd = j := ⟨_, rfl⟩
  obtain ⟨e, he⟩ : ∃ e : Nat, j + sl = e := ⟨_, rfl⟩
  rw [hj, he] at cv bm
  have j1 : (o : Int) * (wd : Int) = (j : Int) := by rw [← hj]; simp
  have j2 : (j : Int) + (sl : Int) = (e : Int) := by omega
  have wj : IntKind.i64.wrap (j : Int) = (j : Int) := by simp [IntKind.wrap, IntKind.signed, IntKind.bits]; omega
  have we : IntKind.i64.wrap (e : Int) = (e : Int) := by simp [IntKind.wrap, IntKind.signed, IntKind.bits]; omega
  have ws : IntKind.i64.wrap (sl : Int) = (sl : Int) := by simp [IntKind.wrap, IntKind.signed, IntKind.bits]; omega
  have e0 : (0 : Int) ≤ (e : Int) := by omega
  have e1 : (e : Int) < (m : Int) := by omega
  clear al hj he hm bb0 hn hw0 hw4 ho hsl bm
  go_enter Yba.func9, Yba.ntmps9
  go_wp2_with fail
  by_cases hlt : ps < v
  · have hd := decide_eq_true hlt
    go_quiet (fail)
    go_wp2
    go_ret
    exact ⟨by simp [hd], below_drewN HB.out _⟩
  · have hd := decide_eq_false hlt
    go_quiet (fail)
    go_wp2
    go_ret
    exact ⟨by simp, below_drewN HB.out _⟩
end Go.Proofs.Ybulkrce
