import Derived.Test.YbulkrceBBump
import Derived.Test.YbulkrceBPushProof
namespace Go.Proofs.Ybulkrce
open Go.ChangeShapes Go.WideShapes Go.ChangeAt Go.RowKit
set_option linter.unusedVariables false

set_option maxRecDepth 100000 in
set_option maxHeartbeats 1000000 in
theorem bump_big (ra : Option Addr) (n rc : Nat) (x y : Int) (w : World) (hn : 1024 < n) :
    Calls Yba.prog 6 #[.slice ra n rc, .int .u16 x, .int .u16 y] w fun e w' => e = .returned (.bool true) ∧ Below w.heap.size w w' := by
  have hn1 : (1024 : Int) < (n : Int) := by omega
  have hn2 : ((n : Int) == 0) = false := by simp; omega
  go_enter Yba.func6, Yba.ntmps6
  go_wp2
  go_ret
  exact ⟨by simp, Below.refl _ _⟩

set_option maxRecDepth 100000 in
set_option maxHeartbeats 1000000 in
theorem bump_none (ra : Option Addr) (rc : Nat) (x y : Int) (w : World) :
    Calls Yba.prog 6 #[.slice ra 0 rc, .int .u16 x, .int .u16 y] w fun e w' => e = .returned (.bool true) ∧ Below w.heap.size w w' := by
  go_enter Yba.func6, Yba.ntmps6
  go_wp2
  go_ret
  exact ⟨by simp, Below.refl _ _⟩

theorem wf_u16 {x : Int} (h : (Lit.int .u16 x).wf = true) : 0 ≤ x ∧ x ≤ 65535 := by
  simp [Lit.wf, IntKind.min, IntKind.max, IntKind.signed, IntKind.bits] at h
  omega

set_option maxRecDepth 100000 in
theorem lifted6 (os : Os) (started : os.Started) (H : Type) (enc : TypeId × Value → H) :
    ReturnsInHanded {} Yba.checked os 6 .any (Rows.lawS0875BBumpSpec.pre6 enc Yba.prog Yba.f6 Rows.lawS0875BBumpRow.domain false) (Rows.lawS0875BBumpSpec.post enc Yba.prog Yba.f6 false true false false) := by
  refine returnsInHanded_of_change (C := Yba.checked) own started (by kernel_rfl) Yba.func6
    (ChangeSpec.witness6 (enc := enc) (C := Yba.checked) false ⟨#[], #[.slice none 0 0, .int .u16 0, .int .u16 0], []⟩ 8 (by kernel_rfl) (by kernel_rfl) (by kernel_rfl) (by kernel_rfl)) ?_
  intro W base args ds gs before hval0 hW _ _
  have hval : ∀ (j : Nat) t v, Yba.f6.params[j]? = some t → args[j]? = some v → Value.okWide Yba.prog W .any base t v := hval0
  have hW' := hW
  obtain ⟨p, q, hA0, hV, rfl, hfz, hnd⟩ := hW
  have hA : DataW.TrodAll enc Yba.prog W 0 (fun _ => true) true Yba.f6.params.toList args.toList ds p := hA0
  rw [Yba.params6] at hA hval
  have hAk := hA
  obtain ⟨v0, vs0, d0, ds0, p0, q0, hargs, rfl, rfl, h0, r0⟩ := trodAll_cons hA
  obtain ⟨v1, vs1, d1, ds1, p1, q1, rfl, rfl, rfl, h1, r1⟩ := trodAll_cons r0
  obtain ⟨v2, vs2, d2, ds2, p2, q2, rfl, rfl, rfl, h2, r2⟩ := trodAll_cons r1
  obtain ⟨rfl, rfl, rfl⟩ := trodAll_nil r2
  obtain rfl : args = #[v0, v1, v2] := by cases args; simp_all
  obtain ⟨rfl, rfl⟩ := trodVars_none hV
  obtain ⟨ra, n, rc, rfl⟩ := okWide_slice Yba.underlying48 (hval 0 48 v0 rfl rfl)
  obtain ⟨rb, ro, zs, lz, hra, hz, hwz, _, _⟩ := open_row Yba.underlying48 Yba.underlying49 (by kernel_rfl) h0
  obtain ⟨x, rfl, rfl, rfl, w1⟩ := open_int Yba.underlying59 (hval 1 59 v1 rfl rfl) h1
  obtain ⟨y, rfl, rfl, rfl, w2⟩ := open_int Yba.underlying59 (hval 2 59 v2 rfl rfl) h2
  have fin : ∀ W' : World, Below W.heap.size W W' → ∃ v, Ending.returned (.bool true) = .returned v ∧ Rows.lawS0875BBumpSpec.post enc Yba.prog Yba.f6 false true false false W #[.slice ra n rc, .int .u16 x, .int .u16 y] v W' := fun W' bel =>
    ⟨_, rfl, _, _, _, [], _, [], hW', trodAll_mk1 (shut_bool Yba.underlying4 _), trodAll_below laidOut bel _ _ _ _ (by kernel_rfl) hAk, rfl, bel.frame _, fun h => by cases h⟩
  clear hA0 hval0
  by_cases h0n : n = 0
  · subst h0n
    refine (bump_none ra rc x y W).mono fun e W' ⟨he, bel⟩ => ?_
    subst he
    exact fin W' bel
  by_cases hn : n ≤ 1024
  · obtain ⟨rfl, hrb⟩ := hra (by omega)
    obtain ⟨sel, rfl⟩ := Int.eq_ofNat_of_zero_le (wf_u16 w1).1
    obtain ⟨dl, rfl⟩ := Int.eq_ofNat_of_zero_le (wf_u16 w2).1
    have b1 := (wf_u16 w1).2
    have b2 := (wf_u16 w2).2
    refine (bump_any rb ro n rc zs sel dl W (by omega) hn lz hrb hz (row_i16 hwz) (by omega) (by omega)).mono fun e W' ⟨he, bel⟩ => ?_
    subst he
    exact fin W' bel
  · refine (bump_big ra n rc x y W (by omega)).mono fun e W' ⟨he, bel⟩ => ?_
    subst he
    exact fin W' bel

theorem holds6 : Rows.LawS0875BBumpSaid :=
  OpenClaim.holds_of_wide 6 Yba.f6 rfl rfl rfl rfl rfl rfl rfl ⟨rfl, rfl, rfl, rfl, rfl⟩ rfl rfl rfl rfl rfl (by kernel_rfl) Yba.func6 (by kernel_rfl)
    (of_decide_eq_true (by kernel_rfl)) (by unfold Func.isWrapper; first | (rw [if_pos (by decide +kernel)]; kernel_rfl) | (rw [if_neg (by decide +kernel)]; exact ⟨rfl, rfl⟩))
    (fun os started H enc _ => lifted6 os started H enc)
end Go.Proofs.Ybulkrce
