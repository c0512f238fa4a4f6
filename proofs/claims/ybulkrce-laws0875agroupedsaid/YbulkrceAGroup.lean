import Derived.Test.YbulkrceAApart
namespace Go.Proofs.Ybulkrce
open Go.RowKit
set_option linter.unusedVariables false

/-- What before answers where no dense width is set. -/
def beforeG (f : Nat → OpRec) (d : List Int) (a o : Nat) : Bool :=
  if (f a).grp = (f o).grp then decide ((f a).pos < (if (f o).spa then (f o).get (f a).slt else d.getD (o * 4 + (f a).slt) 0)) else false

set_option maxRecDepth 100000 in
set_option maxHeartbeats 4000000 in
theorem before_group (bb cb ab db sb n a o : Nat) (f : Nat → OpRec) (d : List Int) (w : World) (ho : Ord bb cb ab db sb n f d w) (han : a < n) (hon : o < n) (hn : n ≤ 1024) :
    Calls Yba.prog 9 #[.agg #[.pointer (some ⟨bb, 0, none⟩), .pointer (some ⟨cb, 0, none⟩)], .int .i64 a, .int .i64 o] w fun e w' => e = .returned (.bool (beforeG f d a o)) ∧ Below w.heap.size w w' := by
  have HO := hidB (ho.stays (Stays.of_below ((Below.refl w.heap.size w).alloc (Nat.le_refl _) (.cells #[.pointer (some ⟨bb, 0, none⟩), .pointer (some ⟨cb, 0, none⟩)] 27))))
  have HB := hidB ((Below.refl w.heap.size w).alloc (Nat.le_refl _) (.cells #[.pointer (some ⟨bb, 0, none⟩), .pointer (some ⟨cb, 0, none⟩)] 27))
  have k8 := HO.out.c8
  have k12 := HO.out.c12
  have kc := HO.out.cc
  have pa := HO.out.pl a han 0 _ rfl
  rw [Nat.add_zero] at pa
  have ga := HO.out.pl a han 1 _ rfl
  have go := HO.out.pl o hon 1 _ rfl
  have sa := HO.out.pl a han 2 _ rfl
  have va := HO.out.pl a han 4 _ rfl
  have vo := HO.out.pl o hon 4 _ rfl
  have la := HO.out.pl a han 5 _ rfl
  have fo := HO.out.pl o hon 6 _ rfl
  have a0 : (0 : Int) ≤ (a : Int) := by omega
  have a1 : (a : Int) < (n : Int) := by omega
  have o0 : (0 : Int) ≤ (o : Int) := by omega
  have o1 : (o : Int) < (n : Int) := by omega
  have hsl : (f a).slt < 4 := Nat.mod_lt _ (by omega)
  have hdn := HO.out.dn (o * 4 + (f a).slt) (by omega)
  obtain ⟨res, hres⟩ : ∃ r : Bool, beforeG f d a o = r := ⟨_, rfl⟩
  rw [hres]
  unfold beforeG at hres
  clear ho
  by_cases hg : (f a).grp = (f o).grp
  · cases hp : (f o).spa
    · have HR := hidB (show res = decide ((f a).pos < d.getD (o * 4 + (f a).slt) 0) by rw [← hres, if_pos hg, hp]; rfl)
      have e1 : (f o).off o = ((o * 4 : Nat) : Int) := by simp [OpRec.off, hp]
      rw [e1] at fo
      rw [hg] at ga va
      clear hg hres HO
      obtain ⟨y, hy⟩ : ∃ y, o * 4 = y := ⟨_, rfl⟩
      obtain ⟨jj, hjj⟩ : ∃ jj, y + (f a).slt = jj := ⟨_, rfl⟩
      obtain ⟨m, hm⟩ : ∃ m, n * 4 = m := ⟨_, rfl⟩
      rw [hy] at fo hdn
      rw [hjj] at hdn
      rw [hy, hjj] at HR
      rw [hm] at kc
      have y0 : (0 : Int) ≤ (y : Int) := by omega
      have y2 : (y : Int) + ((f a).slt : Int) = (jj : Int) := by omega
      have wjj : IntKind.i64.wrap (jj : Int) = (jj : Int) := by simp [IntKind.wrap, IntKind.signed, IntKind.bits]; omega
      have wsl : IntKind.i64.wrap ((f a).slt : Int) = ((f a).slt : Int) := by simp [IntKind.wrap, IntKind.signed, IntKind.bits]; omega
      have jj0 : (0 : Int) ≤ (jj : Int) := by omega
      have jj1 : (jj : Int) < (m : Int) := by omega
      clear hy hjj hm hsl hp e1
      generalize (f o).grp = gr at *
      generalize (f a).slt = sl at *
      generalize (f a).pos = ps at *
      generalize d.getD jj 0 = v at *
      go_enter Yba.func9, Yba.ntmps9
      go_wp2_with fail
      cases hla : (f a).loc <;> rw [hla] at la
      · go_quiet (fail)
        go_wp2_with fail
        go_quiet (fail)
        go_wp2
        go_ret
        exact ⟨by rw [HR.out]; simp, below_drewN (below_drewN HB.out _) _⟩
      · go_quiet (fail)
        go_wp2_with fail
        go_quiet (fail)
        go_wp2
        go_ret
        exact ⟨by rw [HR.out]; simp, below_drewN (below_drewN HB.out _) _⟩
    · have e1 : (f o).off o = -1 := by simp [OpRec.off, hp]
      rw [e1] at fo
      have HR := hidB (show res = (if (f a).grp = (f o).grp then decide ((f a).pos < (f o).get (f a).slt) else false) by rw [← hres, hp]; rfl)
      have HAP := hidB (fun w' (hb : Below (w.alloc (.cells #[.pointer (some ⟨bb, 0, none⟩), .pointer (some ⟨cb, 0, none⟩)] 27)).heap.size (w.alloc (.cells #[.pointer (some ⟨bb, 0, none⟩), .pointer (some ⟨cb, 0, none⟩)] 27)) w') => apart_any bb cb ab db sb n a o f d w' (HO.out.stays (Stays.of_below hb)) han hon hn (fun _ => hp))
      rw [← HR.out] at HAP
      rw [hg] at ga va
      have hbx := cellB (o := 0) (heap_alloc_new w (.cells #[.pointer (some ⟨bb, 0, none⟩), .pointer (some ⟨cb, 0, none⟩)] 27))
      have hbx1 := cellB (o := 1) (heap_alloc_new w (.cells #[.pointer (some ⟨bb, 0, none⟩), .pointer (some ⟨cb, 0, none⟩)] 27))
      clear hg hres HR HO
      generalize (f o).grp = gr at ga go va vo
      go_enter Yba.func9, Yba.ntmps9
      go_wp2_with fail
      go_quiet (fail)
      go_wp2_with fail
      refine (HAP.out _ (below_drewN (Below.refl _ _) _)).mono ?_
      rintro e w1 ⟨rfl, hb1⟩
      go_wp2
      go_ret
      exact ⟨rfl, HB.out.trans (((below_drewN (Below.refl _ _) _).trans (hb1.mono (by simp))).mono HB.out.size)⟩
  · have HR := hidB (show res = (if (f a).grp = (f o).grp then decide ((f a).pos < (f o).get (f a).slt) else false) by rw [← hres, if_neg hg, if_neg hg])
    have HAP := hidB (fun w' (hb : Below (w.alloc (.cells #[.pointer (some ⟨bb, 0, none⟩), .pointer (some ⟨cb, 0, none⟩)] 27)).heap.size (w.alloc (.cells #[.pointer (some ⟨bb, 0, none⟩), .pointer (some ⟨cb, 0, none⟩)] 27)) w') => apart_any bb cb ab db sb n a o f d w' (HO.out.stays (Stays.of_below hb)) han hon hn (fun h => absurd h hg))
    rw [← HR.out] at HAP
    have hgi : ¬ ((f a).grp : Int) = ((f o).grp : Int) := by omega
    clear hg hres HR HO
    generalize (f o).grp = gr at ga go va vo hgi
    generalize (f a).grp = gr2 at ga go va vo hgi
    have hgd : decide ((gr2 : Int) = (gr : Int)) = false := by simpa using hgi
    have hgb : ((gr2 : Int) == (gr : Int)) = false := by simpa using hgi
    clear hgi
    go_enter Yba.func9, Yba.ntmps9
    go_wp2_with fail
    go_quiet (fail)
    go_wp2_with fail
    refine (HAP.out _ (below_drewN (Below.refl _ _) _)).mono ?_
    rintro e w1 ⟨rfl, hb1⟩
    go_wp2
    go_ret
    exact ⟨rfl, HB.out.trans (((below_drewN (Below.refl _ _) _).trans (hb1.mono (by simp))).mono HB.out.size)⟩
end Go.Proofs.Ybulkrce
