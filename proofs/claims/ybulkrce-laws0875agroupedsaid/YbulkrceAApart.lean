import Derived.Test.YbulkrceASearch
namespace Go.Proofs.Ybulkrce
open Go.RowKit
set_option linter.unusedVariables false

/-- One operation as the law is handed it. -/
structure OpRec where
  pos : Int
  group : Nat
  slot : Nat
  mask : Nat
  loc : Bool
  spa : Bool
  fla : Bool
  vz : List Int

def OpRec.grp (r : OpRec) : Nat := r.group % 2
def OpRec.slt (r : OpRec) : Nat := r.slot % 4
def OpRec.val (r : OpRec) (s : Nat) : Int := r.vz.getD s 0
/-- The slots among the first k that the mask picks. -/
def OpRec.kss (r : OpRec) (k : Nat) : List Nat := (List.range k).filter fun s => r.mask / 2 ^ s % 2 == 1
def OpRec.ks (r : OpRec) : List Nat := r.kss 4
/-- The clock that the law lays where it is sparse. -/
def OpRec.get (r : OpRec) (s : Nat) : Int := if r.fla then r.val s else sparseGet r.ks r.val s
def OpRec.off (r : OpRec) (i : Nat) : Int := if r.spa then -1 else ((i * 4 : Nat) : Int)
def OpRec.place (r : OpRec) (i : Nat) : Array Value := placeCells r.pos (r.grp : Nat) (r.slt : Nat) 4 (r.grp : Nat) r.loc (r.off i)

theorem OpRec.kss_length (r : OpRec) (k : Nat) : (r.kss k).length ≤ k := by
  have := List.length_filter_le (fun s => r.mask / 2 ^ s % 2 == 1) (List.range k)
  simpa [OpRec.kss] using this
theorem sorted_filter (p : Nat → Bool) (k : Nat) : ((List.range k).filter p).Pairwise (· < ·) := List.Pairwise.filter _ List.pairwise_lt_range
theorem OpRec.ks_sorted (r : OpRec) : ∀ x y, x < y → y < r.ks.length → r.ks.getD x 0 < r.ks.getD y 0 := fun x y hxy hy => by
  have h := sorted_filter (fun s => r.mask / 2 ^ s % 2 == 1) 4
  have := List.pairwise_iff_getElem.1 h x y (by simpa [OpRec.ks, OpRec.kss] using (show x < r.ks.length by omega)) (by simpa [OpRec.ks, OpRec.kss] using hy) hxy
  simp only [List.getD_eq_getElem?_getD]
  rw [List.getElem?_eq_getElem (show x < r.ks.length by omega), List.getElem?_eq_getElem hy]
  exact this

/-- The sparse clock of operation i. -/
def SparseAt (w : World) (sb i : Nat) (r : OpRec) : Prop := r.spa = true →
  (r.fla = true → ∃ x, sb < x ∧ w.cell? ⟨sb, i * 2 + 1, none⟩ = some (.slice (some ⟨x, 0, none⟩) 4 4) ∧ ∀ s, s < 4 → w.cell? ⟨x, s, none⟩ = some (.int .i32 (r.val s))) ∧
  (r.fla = false → w.cell? ⟨sb, i * 2 + 1, none⟩ = some (.slice none 0 0) ∧ ∃ ea ec g, sb < g ∧ w.cell? ⟨sb, i * 2, none⟩ = some (.slice ea r.ks.length ec) ∧ (0 < r.ks.length → ea = some ⟨g, 0, none⟩) ∧ EntAt w g r.ks r.val)

/-- What was there stays: every cell that is there. -/
def Stays (w w' : World) : Prop := ∀ p x, w.cell? p = some x → w'.cell? p = some x
theorem Stays.of_below {w w' : World} (h : Below w.heap.size w w') : Stays w w' := fun p x hx => (h.cell (World.block_lt_of_cell? w _ hx)).trans hx
theorem SparseAt.stays {w w' : World} {sb i : Nat} {r : OpRec} (h : SparseAt w sb i r) (hs : Stays w w') : SparseAt w' sb i r := fun hp => by
  obtain ⟨h1, h2⟩ := h hp
  refine ⟨fun hf => ?_, fun hf => ?_⟩
  · obtain ⟨x, lx, a, b⟩ := h1 hf
    exact ⟨x, lx, hs _ _ a, fun s h => hs _ _ (b s h)⟩
  · obtain ⟨a, ea, ec, g, lg, b, c, e⟩ := h2 hf
    exact ⟨hs _ _ a, ea, ec, g, lg, hs _ _ b, c, fun k hk => ⟨hs _ _ (e k hk).1, hs _ _ (e k hk).2⟩⟩

/-- The order that the law lays. -/
structure Ord (bb cb ab db sb n : Nat) (f : Nat → OpRec) (d : List Int) (w : World) : Prop where
  c8 : w.cell? ⟨bb, 8, none⟩ = some (.slice (some ⟨ab, 0, none⟩) n n)
  c12 : w.cell? ⟨bb, 12, none⟩ = some (.int .i64 0)
  cc : w.cell? ⟨cb, 0, none⟩ = some (.slice (some ⟨db, 0, none⟩) (n * 4) (n * 4))
  cs : w.cell? ⟨cb, 1, none⟩ = some (.slice (some ⟨sb, 0, none⟩) n n)
  pl : ∀ i, i < n → w.rangeAt ab (i * 7) ((f i).place i).toList
  dn : ∀ j, j < n * 4 → w.cell? ⟨db, j, none⟩ = some (.int .i32 (d.getD j 0))
  sp : ∀ i, i < n → SparseAt w sb i (f i)

theorem Ord.stays {bb cb ab db sb n : Nat} {f : Nat → OpRec} {d : List Int} {w w' : World} (h : Ord bb cb ab db sb n f d w) (hs : Stays w w') : Ord bb cb ab db sb n f d w' :=
  ⟨hs _ _ h.c8, hs _ _ h.c12, hs _ _ h.cc, hs _ _ h.cs, fun i hi j v hv => hs _ _ (h.pl i hi j v hv), fun j hj => hs _ _ (h.dn j hj), fun i hi => (h.sp i hi).stays hs⟩

theorem get_any {sb i : Nat} {r : OpRec} {w : World} (h : SparseAt w sb i r) (hp : r.spa = true) (s : Nat) (hs : s < 4) :
    Calls Yba.prog 22 #[.pointer (some ⟨sb, i * 2, none⟩), .int .i64 s] w fun e w' => e = .returned (.int .i32 (r.get s)) ∧ Below w.heap.size w w' := by
  obtain ⟨h1, h2⟩ := h hp
  cases hf : r.fla
  · obtain ⟨a, ea, ec, g, lg, b, c, e⟩ := h2 hf
    have e2 : r.get s = sparseGet r.ks r.val s := by simp [OpRec.get, hf]
    rw [e2]
    exact get_sparse sb (i * 2) g ec ea r.ks r.val s w (r.kss_length 4) b a (fun hl => ⟨c hl, World.block_lt_of_cell? w _ (e 0 hl).1⟩) e hs r.ks_sorted
  · obtain ⟨x, lx, a, b⟩ := h1 hf
    have e2 : r.get s = r.val s := by simp [OpRec.get, hf]
    rw [e2]
    exact get_flat sb (i * 2) x r.val s w a hs (b s hs)

set_option maxRecDepth 100000 in
set_option maxHeartbeats 4000000 in
theorem apart_any (bb cb ab db sb n a o : Nat) (f : Nat → OpRec) (d : List Int) (w : World) (ho : Ord bb cb ab db sb n f d w) (han : a < n) (hon : o < n) (hn : n ≤ 1024) (hsp : (f a).grp = (f o).grp → (f o).spa = true) :
    Calls Yba.prog 16 #[.agg #[.pointer (some ⟨bb, 0, none⟩), .pointer (some ⟨cb, 0, none⟩)], .int .i64 a, .int .i64 o] w fun e w' => e = .returned (.bool (if (f a).grp = (f o).grp then decide ((f a).pos < (f o).get (f a).slt) else false)) ∧ Below w.heap.size w w' := by
  have HO := hidB (ho.stays (Stays.of_below ((Below.refl w.heap.size w).alloc (Nat.le_refl _) (.cells #[.pointer (some ⟨bb, 0, none⟩), .pointer (some ⟨cb, 0, none⟩)] 27))))
  have HB := hidB ((Below.refl w.heap.size w).alloc (Nat.le_refl _) (.cells #[.pointer (some ⟨bb, 0, none⟩), .pointer (some ⟨cb, 0, none⟩)] 27))
  have HX := hidB (heap_alloc_new w (.cells #[.pointer (some ⟨bb, 0, none⟩), .pointer (some ⟨cb, 0, none⟩)] 27))
  have k8 := HO.out.c8
  have ga := HO.out.pl a han 1 _ rfl
  have go := HO.out.pl o hon 1 _ rfl
  have va := HO.out.pl a han 4 _ rfl
  have vo := HO.out.pl o hon 4 _ rfl
  have la := HO.out.pl a han 5 _ rfl
  have a0 : (0 : Int) ≤ (a : Int) := by omega
  have a1 : (a : Int) < (n : Int) := by omega
  have o0 : (0 : Int) ≤ (o : Int) := by omega
  have o1 : (o : Int) < (n : Int) := by omega
  clear ho
  obtain ⟨res, hres⟩ : ∃ r : Bool, (if (f a).grp = (f o).grp then decide ((f a).pos < (f o).get (f a).slt) else false) = r := ⟨_, rfl⟩
  rw [hres]
  by_cases hg : (f a).grp = (f o).grp
  · have hspo := hsp hg
    rw [hg] at ga va
    have HR := hidB (show res = decide ((f a).pos < (f o).get (f a).slt) by rw [← hres, if_pos hg])
    clear hg hsp hres
    generalize (f o).grp = gr at *
    go_enter Yba.func16, Yba.ntmps16
    go_wp2_with fail
    go_quiet (fail)
    go_wp2_with fail
    go_quiet (fail)
    go_wp2_with fail
    cases hla : (f a).loc <;> rw [hla] at la
    · go_quiet (fail)
      go_wp2_with fail
      generalize hw3 : World.drewN _ _ = w3
      have hB3 : Below (w.alloc (.cells #[.pointer (some ⟨bb, 0, none⟩), .pointer (some ⟨cb, 0, none⟩)] 27)).heap.size (w.alloc (.cells #[.pointer (some ⟨bb, 0, none⟩), .pointer (some ⟨cb, 0, none⟩)] 27)) w3 := by
        rw [← hw3]; exact below_drewN (below_drewN (below_drewN (Below.refl _ _) _) _) _
      have O3 := HO.out.stays (Stays.of_below hB3)
      have HALL := hidB (HB.out.trans (hB3.mono (by simp)))
      have X3 : w3.heap[w.heap.size]? = some (.cells #[.pointer (some ⟨bb, 0, none⟩), .pointer (some ⟨cb, 0, none⟩)] 27 (0, 0)) := by rw [hB3.block _ (by simp)]; exact HX.out
      have X1 := hidB (show w3.cell? ⟨w.heap.size, 1, none⟩ = some (.pointer (some ⟨cb, 0, none⟩)) from (cellB X3).trans rfl)
      have CS := hidB O3.cs
      have PS := hidB (show w3.cell? ⟨ab, a * 7, none⟩ = some (.int .i32 (f a).pos) from O3.pl a han 0 _ rfl)
      have SL := hidB (show w3.cell? ⟨ab, a * 7 + 2, none⟩ = some (.int .i32 ((f a).slt : Nat)) from O3.pl a han 2 _ rfl)
      have hsl : (f a).slt < 4 := Nat.mod_lt _ (by omega)
      have SP := hidB (O3.sp o hon)
      have HG := hidB (fun w' (hb : Below w3.heap.size w3 w') => get_any (SP.out.stays (Stays.of_below hb)) hspo (f a).slt hsl)
      have ST := hidB (fun w' (hb : Below w3.heap.size w3 w') => Stays.of_below hb)
      have wsl : IntKind.i64.wrap ((f a).slt : Int) = ((f a).slt : Int) := by simp [IntKind.wrap, IntKind.signed, IntKind.bits]; omega
      clear O3 X3 hB3 hw3 k8 ga go va vo la hsl hspo
      generalize (f a).slt = sl at *
      generalize (f a).pos = ps at *
      generalize (f o).get sl = v at *
      have HSA := hidB (show ∀ w', Below w3.heap.size w3 w' → Below w3.heap.size w3 w' ∧ w'.cell? ⟨w.heap.size, 1, none⟩ = some (.pointer (some ⟨cb, 0, none⟩)) ∧ w'.cell? ⟨cb, 1, none⟩ = some (.slice (some ⟨sb, 0, none⟩) n n) ∧ w'.cell? ⟨ab, a * 7, none⟩ = some (.int .i32 ps) ∧ w'.cell? ⟨ab, a * 7 + 2, none⟩ = some (.int .i32 sl) from fun w' hb => ⟨hb, ST.out _ hb _ _ X1.out, ST.out _ hb _ _ CS.out, ST.out _ hb _ _ PS.out, ST.out _ hb _ _ SL.out⟩)
      go_region_held3 (fun w' => Below w3.heap.size w3 w' ∧ w'.cell? ⟨w.heap.size, 1, none⟩ = some (.pointer (some ⟨cb, 0, none⟩)) ∧ w'.cell? ⟨cb, 1, none⟩ = some (.slice (some ⟨sb, 0, none⟩) n n) ∧ w'.cell? ⟨ab, a * 7, none⟩ = some (.int .i32 ps) ∧ w'.cell? ⟨ab, a * 7 + 2, none⟩ = some (.int .i32 sl))
        ((refine HSA.out _ ?_; first | exact Below.refl _ _ | exact (Below.refl _ _).drew | exact (Below.refl _ _).drew.trans (hb'.mono (by simp)) | (go_split_ands; exact Below.drew (by assumption)) | (go_split_ands; exact Below.trans (by assumption) (Below.mono hb' (Below.size (by assumption))))))
        ((go_at_call 22; refine (HG.out _ (by first | exact Below.refl _ _ | exact (Below.refl _ _).drew | (go_split_ands; assumption))).mono ?_; rintro e w' ⟨rfl, hb'⟩))
      go_wp2
      go_ret
      exact ⟨by rw [HR.out]; simp, HALL.out.trans ((((Below.refl w3.heap.size w3).drew).trans (hb'.mono (by simp))).mono HALL.out.size)⟩
    · go_quiet (fail)
      go_wp2_with fail
      generalize hw3 : World.drewN _ _ = w3
      have hB3 : Below (w.alloc (.cells #[.pointer (some ⟨bb, 0, none⟩), .pointer (some ⟨cb, 0, none⟩)] 27)).heap.size (w.alloc (.cells #[.pointer (some ⟨bb, 0, none⟩), .pointer (some ⟨cb, 0, none⟩)] 27)) w3 := by
        rw [← hw3]; exact below_drewN (below_drewN (below_drewN (Below.refl _ _) _) _) _
      have O3 := HO.out.stays (Stays.of_below hB3)
      have HALL := hidB (HB.out.trans (hB3.mono (by simp)))
      have X3 : w3.heap[w.heap.size]? = some (.cells #[.pointer (some ⟨bb, 0, none⟩), .pointer (some ⟨cb, 0, none⟩)] 27 (0, 0)) := by rw [hB3.block _ (by simp)]; exact HX.out
      have X1 := hidB (show w3.cell? ⟨w.heap.size, 1, none⟩ = some (.pointer (some ⟨cb, 0, none⟩)) from (cellB X3).trans rfl)
      have CS := hidB O3.cs
      have PS := hidB (show w3.cell? ⟨ab, a * 7, none⟩ = some (.int .i32 (f a).pos) from O3.pl a han 0 _ rfl)
      have SL := hidB (show w3.cell? ⟨ab, a * 7 + 2, none⟩ = some (.int .i32 ((f a).slt : Nat)) from O3.pl a han 2 _ rfl)
      have hsl : (f a).slt < 4 := Nat.mod_lt _ (by omega)
      have SP := hidB (O3.sp o hon)
      have HG := hidB (fun w' (hb : Below w3.heap.size w3 w') => get_any (SP.out.stays (Stays.of_below hb)) hspo (f a).slt hsl)
      have ST := hidB (fun w' (hb : Below w3.heap.size w3 w') => Stays.of_below hb)
      have wsl : IntKind.i64.wrap ((f a).slt : Int) = ((f a).slt : Int) := by simp [IntKind.wrap, IntKind.signed, IntKind.bits]; omega
      clear O3 X3 hB3 hw3 k8 ga go va vo la hsl hspo
      generalize (f a).slt = sl at *
      generalize (f a).pos = ps at *
      generalize (f o).get sl = v at *
      have HSA := hidB (show ∀ w', Below w3.heap.size w3 w' → Below w3.heap.size w3 w' ∧ w'.cell? ⟨w.heap.size, 1, none⟩ = some (.pointer (some ⟨cb, 0, none⟩)) ∧ w'.cell? ⟨cb, 1, none⟩ = some (.slice (some ⟨sb, 0, none⟩) n n) ∧ w'.cell? ⟨ab, a * 7, none⟩ = some (.int .i32 ps) ∧ w'.cell? ⟨ab, a * 7 + 2, none⟩ = some (.int .i32 sl) from fun w' hb => ⟨hb, ST.out _ hb _ _ X1.out, ST.out _ hb _ _ CS.out, ST.out _ hb _ _ PS.out, ST.out _ hb _ _ SL.out⟩)
      go_region_held3 (fun w' => Below w3.heap.size w3 w' ∧ w'.cell? ⟨w.heap.size, 1, none⟩ = some (.pointer (some ⟨cb, 0, none⟩)) ∧ w'.cell? ⟨cb, 1, none⟩ = some (.slice (some ⟨sb, 0, none⟩) n n) ∧ w'.cell? ⟨ab, a * 7, none⟩ = some (.int .i32 ps) ∧ w'.cell? ⟨ab, a * 7 + 2, none⟩ = some (.int .i32 sl))
        ((refine HSA.out _ ?_; first | exact Below.refl _ _ | exact (Below.refl _ _).drew | exact (Below.refl _ _).drew.trans (hb'.mono (by simp)) | (go_split_ands; exact Below.drew (by assumption)) | (go_split_ands; exact Below.trans (by assumption) (Below.mono hb' (Below.size (by assumption))))))
        ((go_at_call 22; refine (HG.out _ (by first | exact Below.refl _ _ | exact (Below.refl _ _).drew | (go_split_ands; assumption))).mono ?_; rintro e w' ⟨rfl, hb'⟩))
      go_wp2
      go_ret
      exact ⟨by rw [HR.out]; simp, HALL.out.trans ((((Below.refl w3.heap.size w3).drew).trans (hb'.mono (by simp))).mono HALL.out.size)⟩
  · have hgi : ¬ ((f a).grp : Int) = ((f o).grp : Int) := by omega
    have HR := hidB (show res = false by rw [← hres, if_neg hg])
    clear hg hsp hres
    generalize (f o).grp = gr at *
    generalize (f a).grp = gr2 at *
    go_enter Yba.func16, Yba.ntmps16
    go_wp2_with fail
    go_quiet (fail)
    go_wp2_with fail
    go_quiet (fail)
    go_wp2
    go_ret
    exact ⟨by rw [HR.out]; simp, below_drewN (below_drewN HB.out _) _⟩
end Go.Proofs.Ybulkrce
