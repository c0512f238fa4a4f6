import Derived.Test.YbulkrceAGBuild
namespace Go.Proofs.Ybulkrce
open Go.RowKit
set_option linter.unusedVariables false

set_option maxRecDepth 100000 in
set_option maxHeartbeats 4000000 in
theorem grouped_any (ob oo n oc ld dc dbk dof ai oi : Nat) (da : Option Addr) (f : Nat → OpRec) (d : List Int) (w : World) (va : Nat → Option Addr) (vc vb vo : Nat → Nat) (hn0 : 0 < n) (hn : n ≤ 1024)
    (hops : ∀ i, i < n → OpIn w ob (oo + i * 8) (f i) (va i) (vc i) (vb i) (vo i))
    (hda : 0 < ld → da = some ⟨dbk, dof, none⟩) (hld : d.length = ld) (hcd : ∀ j, j < ld → w.cell? ⟨dbk, dof + j, none⟩ = some (.int .i32 (d.getD j 0))) (hai : ai ≤ 255) (hoi : oi ≤ 255) :
    Calls Yba.prog 3 #[.slice (some ⟨ob, oo, none⟩) n oc, .slice da ld dc, .int .u8 ai, .int .u8 oi] w fun e w' => e = .returned (.bool true) ∧ Below w.heap.size w w' := by
  obtain ⟨ia, hia⟩ : ∃ ia : Nat, ai % n = ia := ⟨_, rfl⟩
  obtain ⟨io, hio⟩ : ∃ io : Nat, oi % n = io := ⟨_, rfl⟩
  have a1 : (ai : Int).tmod (n : Int) = (ia : Int) := by rw [Int.tmod_eq_emod_of_nonneg (by omega), ← hia]; simp
  have o1 : (oi : Int).tmod (n : Int) = (io : Int) := by rw [Int.tmod_eq_emod_of_nonneg (by omega), ← hio]; simp
  have hia2 : ia < n := by rw [← hia]; exact Nat.mod_lt _ hn0
  have hio2 : io < n := by rw [← hio]; exact Nat.mod_lt _ hn0
  have wa := wrapI64 ai (by omega)
  have wo := wrapI64 oi (by omega)
  have wa2 := wrapI64 ia (by omega)
  have wo2 := wrapI64 io (by omega)
  have kz : ¬ (n : Int) = 0 := by omega
  have hl1 : ¬ (1024 : Int) < (n : Int) := by omega
  have hle : ((n : Int) == 0) = false := by simp; omega
  have HBU := hidB (fun w' (hb : Below w.heap.size w w') => build_any ob oo n oc ld dc dbk dof da f d w' va vc vb vo hn0 hn (fun i hi => (hops i hi).stays (Stays.of_below hb)) hda hld (fun j hj => Stays.of_below hb _ _ (hcd j hj)))
  have HEX := hidB (fun w' (hb : Below w.heap.size w w') => expect_any ob oo n oc ld dc dbk dof ia io da f d w' (va ia) (va io) (vc ia) (vb ia) (vo ia) (vc io) (vb io) (vo io) hia2 hio2 hn ((hops ia hia2).stays (Stays.of_below hb)) ((hops io hio2).stays (Stays.of_below hb)) hda hld (fun j hj => Stays.of_below hb _ _ (hcd j hj)))
  clear hops hda hcd hia hio
  go_enter Yba.func3, Yba.ntmps3
  go_wp2_with fail
  go_quiet (fail)
  go_wp2_with fail
  refine (HBU.out _ (below_drewN (Below.refl _ _) _)).mono ?_
  rintro e w1 ⟨bb, cb, ab, db, sb, rfl, hb1, hord⟩
  have hb1w : Below w.heap.size w w1 := (below_drewN (Below.refl w.heap.size w) _).trans (hb1.mono (by simp))
  have HB1 := hidB hb1w
  have HGR := hidB (fun w' (hb : Below w1.heap.size w1 w') => before_group bb cb ab db sb n ia io f d w' (hord.stays (Stays.of_below hb)) hia2 hio2 hn)
  clear hb1 hord hb1w
  go_wp2_with fail
  refine (HGR.out _ ((Below.refl _ _).alloc (Nat.le_refl _) _)).mono ?_
  rintro e w2 ⟨rfl, hb2⟩
  have hb2w : Below w.heap.size w w2 := HB1.out.trans ((((Below.refl _ _).alloc (Nat.le_refl _) _).trans (hb2.mono (by simp))).mono HB1.out.size)
  have HB2 := hidB hb2w
  clear hb2w hb2
  go_wp2_with fail
  refine (HEX.out _ HB2.out).mono ?_
  rintro e w3 ⟨rfl, hb3⟩
  have HB3 := hidB (HB2.out.trans (hb3.mono HB2.out.size))
  clear hb3 HEX HGR HBU
  generalize beforeG f d ia io = res at *
  go_wp2
  go_ret
  exact ⟨by simp, HB3.out⟩

set_option maxRecDepth 100000 in
set_option maxHeartbeats 1000000 in
theorem grouped_big (ra : Option Addr) (n rc : Nat) (v1 v2 v3 : Value) (w : World) (hn : 1024 < n) :
    Calls Yba.prog 3 #[.slice ra n rc, v1, v2, v3] w fun e w' => e = .returned (.bool true) ∧ Below w.heap.size w w' := by
  have hn1 : (1024 : Int) < (n : Int) := by omega
  have hn2 : ((n : Int) == 0) = false := by simp; omega
  go_enter Yba.func3, Yba.ntmps3
  go_wp2
  go_ret
  exact ⟨by simp, Below.refl _ _⟩

set_option maxRecDepth 100000 in
set_option maxHeartbeats 1000000 in
theorem grouped_none (ra : Option Addr) (rc : Nat) (v1 v2 v3 : Value) (w : World) :
    Calls Yba.prog 3 #[.slice ra 0 rc, v1, v2, v3] w fun e w' => e = .returned (.bool true) ∧ Below w.heap.size w w' := by
  go_enter Yba.func3, Yba.ntmps3
  go_wp2
  go_ret
  exact ⟨by simp, Below.refl _ _⟩
end Go.Proofs.Ybulkrce
