import Derived.Test.YbulkrbqFmtFacts
import Derived.WalkKit
import Derived.WalkSpells
import Derived.WalkLawsBesides
import Derived.Deep.RegionHeld3
import Derived.Deep.RegionLaw
import Derived.Deep.AppendLies
import Derived.Deep.DrawnRows
namespace Go.Proofs.YbulkrbqFmt
open Go.RowKit Go.Extern.Stop Go.Stop Go.Extern

attribute [local go_sem] Ybaf.call10 Ybaf.guard Ybaf.act9_115 Ybaf.op9_115
attribute [local go_sem ↓] Go.wp_at_zero Go.wp_at_succ

theorem Ybaf.info43 : (Ybaf.prog.info? 43).map (fun i => (i.zero, i.size, i.bytes)) = some (some (.agg #[.int .i64 0, .string ⟨#[]⟩]), 2, 24) := by kernel_rfl

theorem wp_sprintf {o : Oper} {a : Act} {w : World} {K : Act → World → Prop} {Q : Exit → Act → World → Prop} (x y : Operand) (f s : ByteArray) (vb : Nat)
    (ho : o.op = .call { callee := .value (.func 10), args := #[x, y], argTypes := #[9, 48] }) (hx : a.eval x = .string f) (hy : a.eval y = .slice (some ⟨vb, 0, none⟩) 1 1)
    (hV : w.cell? ⟨vb, 0, none⟩ = some (.iface 9 (.string s))) (hp : FmtStop.printed? f 1 = some [(0, 115, false)])
    (h : ∀ txt : ByteArray, K (a.put o.dst (.string txt)) w.drew) : o.wp Ybaf.prog a w K Q := by
  unfold Oper.wp execOp
  simp only [ho, resolve, invoke, Sem.run_bind, List.map_toArray, List.map_cons, List.map_nil, hx, hy]
  go_simp
  apply rows_value Ybaf.nextTurns
  case hr =>
    go_simp
    exact ⟨rfl, rfl⟩
  case h => exact h _

theorem step_sprintf {ops : Array Oper} {o : Oper} {a : Act} {w : World} {K : Act → World → Prop} {Q : Exit → Act → World → Prop} {E : Prop} (hgd : o.guard = none) (x y : Operand) (f s : ByteArray) (vb : Nat)
    (ho : o.op = .call { callee := .value (.func 10), args := #[x, y], argTypes := #[9, 48] }) (hx : a.eval x = .string f) (hy : a.eval y = .slice (some ⟨vb, 0, none⟩) 1 1)
    (hV : w.cell? ⟨vb, 0, none⟩ = some (.iface 9 (.string s))) (hp : FmtStop.printed? f 1 = some [(0, 115, false)])
    (h : ∀ txt : ByteArray, K (a.put o.dst (.string txt)) w.drew) : if Region.wanted o (yielded ops a.tmps) = true then Oper.wp Ybaf.prog o a w K Q else E := by
  have hw : Region.wanted o (yielded ops a.tmps) = true := by simp [Region.wanted, hgd]
  rw [if_pos hw]
  exact wp_sprintf x y f s vb ho hx hy hV hp h

/-- The errors' cells: each the line, then a text. -/
def errCells (ln : Int) (ts : List ByteArray) : List Value := ts.flatMap fun t => [.int .i64 ln, .string t]

theorem errCells_snoc (ln : Int) (ts : List ByteArray) (t : ByteArray) : errCells ln ts ++ [.int .i64 ln, .string t] = errCells ln (ts ++ [t]) := by
  simp [errCells]

/-- The assembler's cells, its field errs at ov. -/
def asmCells (nl dl : Int) (ov : Value) : Array Value :=
  #[.map none, .slice none 0 0, ov, .string ⟨#[]⟩, .string ⟨#[]⟩, .slice none 0 0, .int .i64 nl, .int .i64 dl, .int .i64 0, .int .i64 0]

/-- The assembler lies in the first block behind W's own, and has k errors on line ln; below nothing has turned. -/
structure St (W : World) (nl dl ln : Int) (k : Nat) (ov : Value) (ts : List ByteArray) (w : World) : Prop where
  below : Below W.heap.size W w
  cells : w.heap[W.heap.size]? = some (.cells (asmCells nl dl ov) 31 (0, 0))
  owns : w.ownsRow (W.heap.size + 1) 43 2 ov k (errCells ln ts)

theorem St.lt {W : World} {nl dl ln : Int} {k : Nat} {ov : Value} {ts : List ByteArray} {w : World} (h : St W nl dl ln k ov ts w) : W.heap.size < w.heap.size := by
  rcases Nat.lt_or_ge W.heap.size w.heap.size with hlt | hge
  · exact hlt
  · have := h.cells
    rw [Array.getElem?_eq_none hge] at this
    cases this

theorem St.cell {W : World} {nl dl ln : Int} {k : Nat} {ov : Value} {ts : List ByteArray} {w : World} (h : St W nl dl ln k ov ts w) (j : Nat) : w.cell? ⟨W.heap.size, j, none⟩ = (asmCells nl dl ov)[j]? := by
  simp [World.cell?, h.cells]

theorem St.free {W : World} {nl dl ln : Int} {k : Nat} {ov : Value} {ts : List ByteArray} {w : World} (h : St W nl dl ln k ov ts w) (j : Nat) : w.frozen? ⟨W.heap.size, j, none⟩ = false := by
  simp [World.frozen?, h.cells]

theorem St.own_ne {W : World} {nl dl ln : Int} {k : Nat} {ov : Value} {ts : List ByteArray} {w : World} (h : St W nl dl ln k ov ts w) : ov.ownBlock ≠ some W.heap.size := by
  rcases h.owns.2 with ⟨e, _⟩ | ⟨g, cap, cur, e, hg, _⟩
  · subst e; simp [Value.ownBlock]
  · subst e; simp [Value.ownBlock]; omega

theorem St.own_ge {W : World} {nl dl ln : Int} {k : Nat} {ov : Value} {ts : List ByteArray} {w : World} (h : St W nl dl ln k ov ts w) (b : Nat) (hb : ov.ownBlock = some b) : W.heap.size ≤ b := by
  rcases h.owns.2 with ⟨e, _⟩ | ⟨g, cap, cur, e, hg, _⟩
  · subst e; simp [Value.ownBlock] at hb
  · subst e; simp [Value.ownBlock] at hb; omega

theorem St.alloc {W : World} {nl dl ln : Int} {k : Nat} {ov : Value} {ts : List ByteArray} {w : World} (h : St W nl dl ln k ov ts w) (o : Obj) : St W nl dl ln k ov ts (w.alloc o) :=
  ⟨h.below.alloc h.below.size o, by rw [Below.heap_alloc _ _ _ h.lt]; exact h.cells, h.owns.alloc o⟩

theorem St.drew {W : World} {nl dl ln : Int} {k : Nat} {ov : Value} {ts : List ByteArray} {w : World} (h : St W nl dl ln k ov ts w) : St W nl dl ln k ov ts w.drew :=
  ⟨h.below.drew, h.cells, h.owns.drew⟩

theorem St.push {W : World} {nl dl ln : Int} {k : Nat} {ov : Value} {ts : List ByteArray} {w : World} (h : St W nl dl ln k ov ts w) (txt : ByteArray) (gg cap : Nat) (w1 : World)
    (hown1 : w1.ownsRow (W.heap.size + 1) 43 2 (.slice (some ⟨gg, 0, none⟩) (k + 1) cap) (k + 1) (errCells ln ts ++ [.int .i64 ln, .string txt]))
    (hgrow : w.grownBy w1 ov.ownBlock) :
    St W nl dl ln (k + 1) (.slice (some ⟨gg, 0, none⟩) (k + 1) cap) (ts ++ [txt]) (w1.setCell ⟨W.heap.size, 2, none⟩ (.slice (some ⟨gg, 0, none⟩) (k + 1) cap)) := by
  have hb1 := h.below.grown hgrow h.below.size (fun b hb => h.own_ge b hb)
  refine ⟨hb1.setCell (Nat.le_refl _) _, ?_, ?_⟩
  · have hc : w1.heap[W.heap.size]? = some (.cells (asmCells nl dl ov) 31 (0, 0)) := by
      rw [hgrow.block _ h.lt (Ne.symm h.own_ne)]; exact h.cells
    simp [World.setCell, Array.getElem?_modify, hc, asmCells]
  · rw [errCells_snoc] at hown1
    exact ownsRow_setCell_below hown1 (by simp) _

set_option maxRecDepth 100000 in
set_option maxHeartbeats 3200000 in
theorem errorf_any (W : World) (nl dl : Int) (vb : Nat) (ln : Int) (f s : ByteArray) (ov : Value) (k : Nat) (ts : List ByteArray) (w : World)
    (hp : FmtStop.printed? f 1 = some [(0, 115, false)]) (hst : St W nl dl ln k ov ts w) (hk : k ≤ 100)
    (hV : w.cell? ⟨vb, 0, none⟩ = some (.iface 9 (.string s))) :
    Calls Ybaf.prog 7 #[.pointer (some ⟨W.heap.size, 0, none⟩), .int .i64 ln, .string f, .slice (some ⟨vb, 0, none⟩) 1 1] w fun e w' => e = .returned (.tuple #[]) ∧ ∃ ov' ts', St W nl dl ln (k + 1) ov' ts' w' := by
  obtain ⟨i0, hi0, hz0, hz1, hz2⟩ := info_parts Ybaf.info43
  have HS : Hid (St W nl dl ln k ov ts w) := hst
  have hE : w.cell? ⟨W.heap.size, 2, none⟩ = some ov := (hst.cell 2).trans rfl
  have hfz : w.frozen? ⟨W.heap.size, 2, none⟩ = false := hst.free 2
  have ag := hst.own_ne
  have hown := hst.owns
  have lA := hst.lt
  clear hst
  generalize hA : W.heap.size = A at *
  have HA : Hid (W.heap.size = A) := hA
  clear hA
  have lv := World.block_lt_of_cell? w _ hV
  have hfa : ∀ o, (w.alloc o).frozen? ⟨A, 2, none⟩ = false := fun o => (World.frozen?_of_block (w := w) (Below.heap_alloc w o A lA)).trans hfz
  go_enter Ybaf.func7, Ybaf.ntmps7
  go_wp2_with fail
  go_region_law
    (first
      | (refine step_sprintf (by rfl) (.tmp 14) (.tmp 15) f s vb (by rfl) (by rfl) (by rfl) hV hp ?_; intro txt)
      | (refine step_append_lies _ (by rfl) _ _ _ (by rfl) (A + 1) 43 i0 _ 2 24 Ybaf.underlying24 hi0 hz0 hz1 hz2 rfl (by omega) ov k (errCells ln ts) (by rfl) (((hown.drew).drew).alloc _)
            ⟨w.heap.size, 0, none⟩ 1 1 [.int .i64 ln, .string txt] (by rfl) (by rfl) (World.news_of_block (cs := #[.int .i64 ln, .string txt]) (t := 43) (fr := (0, 0)) (heap_alloc_new w _)) (by simp [Value.oneCell'])
            (by omega) (by unfold maxLen; omega) (by omega) (by simp; omega) (w.heap.size + 1) (by simp) ?_
         intro gg cap w1 hown1 hgrow hat hlt
         have hfz1 : w1.frozen? ⟨A, 2, none⟩ = false := by rw [hgrow.frozen_far _ (by simp; omega) (Ne.symm ag)]; exact hfa _
         obtain ⟨c2, hc2⟩ : ∃ v, w1.cell? ⟨A, 2, none⟩ = some v := ⟨ov, by rw [hgrow.cell_far _ (by simp; omega) (Ne.symm ag)]; go_keep⟩))
  all_goals go_wp2
  all_goals go_end0
  all_goals
    have hA' := HA.out
    subst hA'
    exact ⟨rfl, _, _, ((HS.out.alloc _).drew.drew).push txt gg cap w1 hown1 hgrow⟩
end Go.Proofs.YbulkrbqFmt
