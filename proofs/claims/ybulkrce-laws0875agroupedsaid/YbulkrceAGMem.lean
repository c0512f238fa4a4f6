import Derived.Test.YbulkrceAExpect
namespace Go.Proofs.Ybulkrce
open Go.RowKit
set_option linter.unusedVariables false

theorem SparseAt.frame {w w' : World} {sb i : Nat} {r : OpRec} (h : SparseAt w sb i r) (h0 : w'.cell? ⟨sb, i * 2, none⟩ = w.cell? ⟨sb, i * 2, none⟩) (h1 : w'.cell? ⟨sb, i * 2 + 1, none⟩ = w.cell? ⟨sb, i * 2 + 1, none⟩)
    (hs : ∀ b o x, sb < b → w.cell? ⟨b, o, none⟩ = some x → w'.cell? ⟨b, o, none⟩ = some x) : SparseAt w' sb i r := fun hp => by
  obtain ⟨k1, k2⟩ := h hp
  refine ⟨fun hf => ?_, fun hf => ?_⟩
  · obtain ⟨x, lx, a, b⟩ := k1 hf
    exact ⟨x, lx, by rw [h1]; exact a, fun s h => hs _ _ _ lx (b s h)⟩
  · obtain ⟨a, ea, ec, g, lg, b, c, e⟩ := k2 hf
    exact ⟨by rw [h1]; exact a, ea, ec, g, lg, by rw [h0]; exact b, c, fun k hk => ⟨hs _ _ _ lg (e k hk).1, hs _ _ _ lg (e k hk).2⟩⟩

/-- What the law's order has in memory: i places are laid, z sparse clocks. -/
structure G (W : World) (n : Nat) (f : Nat → OpRec) (d : List Int) (i z : Nat) (w : World) : Prop where
  below : Below W.heap.size W w
  ord : w.heap[W.heap.size]? = some (.cells #[.pointer none, .pointer none] 27 (0, 0))
  room : w.there (W.heap.size + 1) 0 (n * 7)
  laid : ∀ j, j < i → w.rangeAt (W.heap.size + 1) (j * 7) ((f j).place j).toList
  dn : w.heap[W.heap.size + 2]? = some (.cells (iRow (n * 4) (firstF d (n * 4))) 21 (0, 0))
  sroom : w.there (W.heap.size + 3) 0 (n * 2)
  sp : ∀ j, j < z → SparseAt w (W.heap.size + 3) j (f j)
  spz : ∀ j, z ≤ j → j < n → w.cell? ⟨W.heap.size + 3, j * 2, none⟩ = some (.slice none 0 0) ∧ w.cell? ⟨W.heap.size + 3, j * 2 + 1, none⟩ = some (.slice none 0 0)
  size : W.heap.size + 3 < w.heap.size

section
variable {W w w' : World} {n : Nat} {f : Nat → OpRec} {d : List Int} {i z : Nat}

theorem there_below {b m N : Nat} (h : w.there b 0 m) (hb : Below N w w') (hN : b < N) : w'.there b 0 m := fun j hj => by
  have := h j hj
  exact ⟨by rw [hb.cell (p := ⟨b, 0 + j, none⟩) hN]; exact this.1, by rw [hb.frozen (p := ⟨b, 0 + j, none⟩) hN]; exact this.2⟩

theorem G.keep (h : G W n f d i z w) (hb : Below w.heap.size w w') : G W n f d i z w' := by
  have hz := h.size
  have hst := Stays.of_below hb
  exact ⟨h.below.trans (hb.mono (by omega)), by rw [hb.block _ (by omega)]; exact h.ord, there_below h.room hb (by omega), fun j hj k v hv => hst _ _ (h.laid j hj k v hv), by rw [hb.block _ (by omega)]; exact h.dn, there_below h.sroom hb (by omega),
    fun j hj => (h.sp j hj).stays hst, fun j h1 h2 => ⟨hst _ _ (h.spz j h1 h2).1, hst _ _ (h.spz j h1 h2).2⟩, Nat.lt_of_lt_of_le hz hb.size⟩

theorem G.skip (h : G W n f d i i w) (hp : (f i).spa = false) : G W n f d i (i + 1) w :=
  ⟨h.below, h.ord, h.room, h.laid, h.dn, h.sroom, fun j hj => (by
    by_cases e : j = i
    · subst e; exact fun hs => absurd hs (by rw [hp]; decide)
    · exact h.sp j (by omega)), fun j h1 h2 => h.spz j (by omega) h2, h.size⟩

theorem cell_set_other (w : World) (b o : Nat) (v : Value) (b' o' : Nat) (h : b' ≠ b ∨ o' ≠ o) : (w.setCell ⟨b, o, none⟩ v).cell? ⟨b', o', none⟩ = w.cell? ⟨b', o', none⟩ :=
  World.cell?_setCell_other _ _ _ _ (fun e => by injection e with e1 e2; omega)

theorem G.setS (h : G W n f d i i w) (hin : i < n) (o : Nat) (ho : o = i * 2 ∨ o = i * 2 + 1) (v : Value) (hs : SparseAt (w.setCell ⟨W.heap.size + 3, o, none⟩ v) (W.heap.size + 3) i (f i)) : G W n f d i (i + 1) (w.setCell ⟨W.heap.size + 3, o, none⟩ v) := by
  have hz := h.size
  refine ⟨h.below.setCell (by simp) _, by rw [Below.heap_setCell _ _ _ _ (by simp)]; exact h.ord, fun j hj => ?_, fun j hj k u hu => ?_, by rw [Below.heap_setCell _ _ _ _ (by simp)]; exact h.dn, fun j hj => ?_, fun j hj => ?_, fun j h1 h2 => ?_, by simpa using hz⟩
  · have := h.room j hj
    exact ⟨by rw [cell_set_other _ _ _ _ _ _ (Or.inl (by omega))]; exact this.1, by rw [World.frozen?_setCell]; exact this.2⟩
  · rw [cell_set_other _ _ _ _ _ _ (Or.inl (by omega))]; exact h.laid j hj k u hu
  · have := h.sroom j hj
    refine ⟨?_, by rw [World.frozen?_setCell]; exact this.2⟩
    exact World.isSome_setCells (W.heap.size + 3) [v] o w _ this.1
  · by_cases e : j = i
    · subst e; exact hs
    · exact (h.sp j (by omega)).frame (cell_set_other _ _ _ _ _ _ (Or.inr (by omega))) (cell_set_other _ _ _ _ _ _ (Or.inr (by omega))) (fun b o' x hb hx => by rw [cell_set_other _ _ _ _ _ _ (Or.inl (by omega))]; exact hx)
  · rw [cell_set_other _ _ _ _ _ _ (Or.inr (by omega)), cell_set_other _ _ _ _ _ _ (Or.inr (by omega))]
    exact h.spz j (by omega) h2

theorem G.flat (h : G W n f d i i w) (hin : i < n) (hp : (f i).spa = true) (hf : (f i).fla = true) (x : Nat) (hx : W.heap.size + 3 < x) (hc : ∀ s, s < 4 → w.cell? ⟨x, s, none⟩ = some (.int .i32 ((f i).val s))) :
    G W n f d i (i + 1) (w.setCell ⟨W.heap.size + 3, i * 2 + 1, none⟩ (.slice (some ⟨x, 0, none⟩) 4 4)) := by
  refine h.setS hin _ (Or.inr rfl) _ fun _ => ⟨fun _ => ⟨x, hx, ?_, fun s hs => ?_⟩, fun hf2 => by rw [hf] at hf2; cases hf2⟩
  · exact World.cell?_setCell_same _ _ _ (h.spz i (Nat.le_refl _) hin).2
  · rw [cell_set_other _ _ _ _ _ _ (Or.inl (by omega))]; exact hc s hs

theorem G.ent (h : G W n f d i i w) (hin : i < n) (hp : (f i).spa = true) (hf : (f i).fla = false) (ea : Option Addr) (ec g : Nat) (hg : W.heap.size + 3 < g) (hea : 0 < (f i).ks.length → ea = some ⟨g, 0, none⟩) (he : EntAt w g (f i).ks (f i).val) :
    G W n f d i (i + 1) (w.setCell ⟨W.heap.size + 3, i * 2, none⟩ (.slice ea (f i).ks.length ec)) := by
  refine h.setS hin _ (Or.inl rfl) _ fun _ => ⟨fun hf2 => (by rw [hf] at hf2; cases hf2), fun _ => ⟨?_, ea, ec, g, hg, ?_, hea, fun k hk => ⟨?_, ?_⟩⟩⟩
  · rw [cell_set_other _ _ _ _ _ _ (Or.inr (by omega))]; exact (h.spz i (Nat.le_refl _) hin).2
  · exact World.cell?_setCell_same _ _ _ (h.spz i (Nat.le_refl _) hin).1
  · rw [cell_set_other _ _ _ _ _ _ (Or.inl (by omega))]; exact (he k hk).1
  · rw [cell_set_other _ _ _ _ _ _ (Or.inl (by omega))]; exact (he k hk).2

theorem heap_setCells (b : Nat) : ∀ (vs : List Value) (o : Nat) (w : World) (k : Nat), k ≠ b → (w.setCells b o vs).heap[k]? = w.heap[k]?
  | [], _, _, _, _ => rfl
  | v :: r, o, w, k, h => by rw [World.setCells, heap_setCells b r (o + 1) _ k h, Below.heap_setCell _ _ _ _ (by simpa using h)]

theorem OpRec.place_len (r : OpRec) (i : Nat) : (r.place i).toList.length = 7 := rfl

theorem G.lay (h : G W n f d i (i + 1) w) (hin : i < n) : G W n f d (i + 1) (i + 1) (w.setCells (W.heap.size + 1) (i * 7) ((f i).place i).toList) := by
  have hz := h.size
  have out : ∀ b o, b ≠ W.heap.size + 1 → (w.setCells (W.heap.size + 1) (i * 7) ((f i).place i).toList).cell? ⟨b, o, none⟩ = w.cell? ⟨b, o, none⟩ := fun b o hb => World.cell?_setCells_out _ _ _ _ _ (fun e => absurd e hb)
  have blk : ∀ b, b < w.heap.size → b ≠ W.heap.size + 1 → (w.setCells (W.heap.size + 1) (i * 7) ((f i).place i).toList).heap[b]? = w.heap[b]? := fun b hb hne => heap_setCells _ _ _ _ _ hne
  refine ⟨below_setCells _ (by omega) _ _ _ h.below, by rw [blk _ (by omega) (by omega)]; exact h.ord, World.there_setCells h.room _ _ _, fun j hj => ?_, by rw [blk _ (by omega) (by omega)]; exact h.dn, World.there_setCells h.sroom _ _ _, fun j hj => ?_, fun j h1 h2 => ?_, by rw [size_setCells]; exact hz⟩
  · by_cases e : j = i
    · subst e
      exact World.rangeAt_setCells_same _ _ _ _ (by rw [OpRec.place_len]; exact there_mid h.room _ _ (by omega))
    · exact World.rangeAt_setCells_apart (h.laid j (by omega)) _ _ _ (Or.inr (Or.inl (by rw [OpRec.place_len]; omega)))
  · exact (h.sp j hj).frame (out _ _ (by omega)) (out _ _ (by omega)) (fun b o x hb hx => by rw [out _ _ (by omega)]; exact hx)
  · rw [out _ _ (by omega), out _ _ (by omega)]; exact h.spz j h1 h2
end

theorem Yba.info102 : (Yba.prog.info? 102).map (fun i => (i.zero, i.size, i.bytes)) = some (some (.agg #[.slice none 0 0, .slice none 0 0]), 2, 48) := by kernel_rfl
/-- The sparse clocks' block as it is made. -/
def sparseNew (n : Nat) : Array Value := madeCells #[.slice none 0 0, .slice none 0 0] (n * 2)
theorem Yba.make44 (n : Nat) (hn : n ≤ 1024) (w : World) : (Instr.makeSlice 44 (.int .i64 n) (.int .i64 n)).run Yba.prog w = .ok (.slice (some ⟨w.heap.size, 0, none⟩) n n) (w.alloc (.cells (sparseNew n) 102)) := by
  obtain ⟨i0, hi0, hz0, hz1, hz2⟩ := info_parts Yba.info102
  have h := run_make (P := Yba.prog) w 44 102 i0 _ Yba.underlying44 hi0 hz0 .i64 .i64 (n : Int) (n : Int) (by omega) (by omega) (by rw [hz2]; omega) (by omega)
  rw [h, hz1]
  simp [sparseNew, Value.cells]
theorem sparseNew_get (n j : Nat) (h : j < n * 2) : (sparseNew n)[j]? = some (.slice none 0 0) := by
  have e : ∀ k, k < 2 → (#[Value.slice none 0 0, .slice none 0 0] : Array Value)[k]? = some (.slice none 0 0) := fun k hk => by
    match k, hk with
    | 0, _ => rfl
    | 1, _ => rfl
  have := e (j % 2) (Nat.mod_lt _ (by omega))
  unfold sparseNew madeCells
  simp [h]
  have h2 : j % 2 < 2 := Nat.mod_lt _ (by omega)
  generalize j % 2 = k at *
  match k, h2 with
  | 0, _ => rfl
  | 1, _ => rfl

theorem SparseAt.frame2 {w w' : World} {sb i : Nat} {r : OpRec} (h : SparseAt w sb i r) (hs : ∀ b o x, sb ≤ b → w.cell? ⟨b, o, none⟩ = some x → w'.cell? ⟨b, o, none⟩ = some x) : SparseAt w' sb i r := fun hp => by
  obtain ⟨k1, k2⟩ := h hp
  refine ⟨fun hf => ?_, fun hf => ?_⟩
  · obtain ⟨x, lx, a, b⟩ := k1 hf
    exact ⟨x, lx, hs _ _ _ (Nat.le_refl _) a, fun s h => hs _ _ _ (by omega) (b s h)⟩
  · obtain ⟨a, ea, ec, g, lg, b, c, e⟩ := k2 hf
    exact ⟨hs _ _ _ (Nat.le_refl _) a, ea, ec, g, lg, hs _ _ _ (Nat.le_refl _) b, c, fun k hk => ⟨hs _ _ _ (by omega) (e k hk).1, hs _ _ _ (by omega) (e k hk).2⟩⟩

theorem G.done {W w : World} {n : Nat} {f : Nat → OpRec} {d : List Int} (h : G W n f d n n w) (A C : Array Value) (v0 v1 : Value) (h8 : A[8]? = some (.slice (some ⟨W.heap.size + 1, 0, none⟩) n n)) (h12 : A[12]? = some (.int .i64 0))
    (hc0 : C[0]? = some (.slice (some ⟨W.heap.size + 2, 0, none⟩) (n * 4) (n * 4))) (hc1 : C[1]? = some (.slice (some ⟨W.heap.size + 3, 0, none⟩) n n)) :
    Below W.heap.size W ((((w.setCell ⟨W.heap.size, 0, none⟩ v0).setCell ⟨W.heap.size, 1, none⟩ v1).alloc (.cells A 43)).alloc (.cells C 46)) ∧ Ord w.heap.size (w.heap.size + 1) (W.heap.size + 1) (W.heap.size + 2) (W.heap.size + 3) n f d ((((w.setCell ⟨W.heap.size, 0, none⟩ v0).setCell ⟨W.heap.size, 1, none⟩ v1).alloc (.cells A 43)).alloc (.cells C 46)) := by
  have hz := h.size
  have z2 : ((w.setCell ⟨W.heap.size, 0, none⟩ v0).setCell ⟨W.heap.size, 1, none⟩ v1).heap.size = w.heap.size := by simp
  have o1 : ∀ b o, b ≠ W.heap.size → ((w.setCell ⟨W.heap.size, 0, none⟩ v0).setCell ⟨W.heap.size, 1, none⟩ v1).cell? ⟨b, o, none⟩ = w.cell? ⟨b, o, none⟩ := fun b o hb => by
    rw [cell_set_other _ _ _ _ _ _ (Or.inl hb), cell_set_other _ _ _ _ _ _ (Or.inl hb)]
  have hbl : Below W.heap.size W ((w.setCell ⟨W.heap.size, 0, none⟩ v0).setCell ⟨W.heap.size, 1, none⟩ v1) := (h.below.setCell (by simp) _).setCell (by simp) _
  generalize (w.setCell ⟨W.heap.size, 0, none⟩ v0).setCell ⟨W.heap.size, 1, none⟩ v1 = w2 at *
  have hb : Below w2.heap.size w2 ((w2.alloc (.cells A 43)).alloc (.cells C 46)) := ((Below.refl _ _).alloc (Nat.le_refl _) _).alloc (by simp) _
  have bA : ((w2.alloc (.cells A 43)).alloc (.cells C 46)).heap[w.heap.size]? = some (.cells A 43 (0, 0)) := by rw [Below.heap_alloc _ _ _ (by simp; omega), ← z2]; exact heap_alloc_new _ _
  have bC : ((w2.alloc (.cells A 43)).alloc (.cells C 46)).heap[w.heap.size + 1]? = some (.cells C 46 (0, 0)) := by
    have := heap_alloc_new (w2.alloc (.cells A 43)) (.cells C 46)
    rw [← z2]
    simpa using this
  have out : ∀ b o x, b ≠ W.heap.size → w.cell? ⟨b, o, none⟩ = some x → ((w2.alloc (.cells A 43)).alloc (.cells C 46)).cell? ⟨b, o, none⟩ = some x := fun b o x hne hx => Stays.of_below hb _ _ (by rw [o1 _ _ hne]; exact hx)
  refine ⟨hbl.trans (hb.mono (by omega)), ?_, ?_, ?_, ?_, fun i hi j v hv => ?_, fun j hj => ?_, fun i hi => ?_⟩
  · rw [cellB bA]; exact h8
  · rw [cellB bA]; exact h12
  · rw [cellB bC]; exact hc0
  · rw [cellB bC]; exact hc1
  · exact out _ _ _ (by omega) (h.laid i hi j v hv)
  · refine out _ _ _ (by omega) ?_
    rw [cellB h.dn, iRow_get _ _ _ hj]; simp [firstF, hj]
  · exact (h.sp i hi).frame2 (fun b o x hb hx => out _ _ _ (by omega) hx)

/-- The entries as cells. -/
def entCells (r : OpRec) (l : List Nat) : List Value := l.flatMap fun s => [.int .i32 (s : Nat), .int .i32 (r.val s)]
theorem entCells_snoc (r : OpRec) (l : List Nat) (s : Nat) : entCells r l ++ [.int .i32 (s : Nat), .int .i32 (r.val s)] = entCells r (l ++ [s]) := by simp [entCells]
theorem entCells_get (r : OpRec) : ∀ (l : List Nat) (k : Nat), k < l.length → (entCells r l)[k * 2]? = some (.int .i32 (l.getD k 0 : Nat)) ∧ (entCells r l)[k * 2 + 1]? = some (.int .i32 (r.val (l.getD k 0)))
  | s :: l, 0, _ => by simp [entCells]
  | s :: l, k + 1, h => by
    have := entCells_get r l k (by simpa using h)
    have e : ∀ j, (entCells r (s :: l))[j + 2]? = (entCells r l)[j]? := fun j => by simp [entCells]
    rw [show (k + 1) * 2 = k * 2 + 2 by omega, show k * 2 + 2 + 1 = k * 2 + 1 + 2 by omega, e, e]
    simpa using this

theorem kss_succ (r : OpRec) (k : Nat) : r.kss (k + 1) = if r.mask / 2 ^ k % 2 = 1 then r.kss k ++ [k] else r.kss k := by
  unfold OpRec.kss
  rw [List.range_succ, List.filter_append]
  by_cases h : r.mask / 2 ^ k % 2 = 1 <;> simp [h]

/-- The row of entries, read. -/
theorem ent_of_owns {w : World} {lo : Nat} {v : Value} {r : OpRec} (h : w.ownsRow lo 105 2 v r.ks.length (entCells r r.ks)) : ∃ ea ec g, v = .slice ea r.ks.length ec ∧ lo ≤ g ∧ (0 < r.ks.length → ea = some ⟨g, 0, none⟩) ∧ EntAt w g r.ks r.val := by
  rcases h.2 with ⟨hv, h0⟩ | ⟨g, cap, cur, hv, hb, hg, hrest⟩
  · refine ⟨none, 0, lo, by rw [hv, h0], Nat.le_refl _, fun hl => by omega, fun k hk => by omega⟩
  · refine ⟨some ⟨g, 0, none⟩, cap, g, hv, hb, fun _ => rfl, fun k hk => ?_⟩
    subst hv
    have hc := entCells_get r r.ks k hk
    exact ⟨(h.cellAt (k * 2) (by omega)).trans hc.1, (h.cellAt (k * 2 + 1) (by omega)).trans hc.2⟩
theorem Yba.info105 : (Yba.prog.info? 105).map (fun i => (i.zero, i.size, i.bytes)) = some (some (.agg #[.int .i32 0, .int .i32 0]), 2, 8) := by kernel_rfl
end Go.Proofs.Ybulkrce
