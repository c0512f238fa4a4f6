import Derived.Test.YbulkrceBPush
import Derived.Test.YbulkrceLawKit
namespace Go.Proofs.Ybulkrce
open Go.ChangeShapes Go.WideShapes Go.ChangeAt Go.RowKit
set_option linter.unusedVariables false

set_option maxRecDepth 100000 in
set_option maxHeartbeats 1000000 in
theorem push_big (ra : Option Addr) (n rc : Nat) (x : Int) (w : World) (hn : 1024 < n) :
    Calls Yba.prog 5 #[.slice ra n rc, .int .i16 x] w fun e w' => e = .returned (.bool true) ∧ Below w.heap.size w w' := by
  have hn1 : (1024 : Int) < (n : Int) := by omega
  go_enter Yba.func5, Yba.ntmps5
  go_wp2
  go_ret
  exact ⟨by simp, Below.refl _ _⟩

theorem wf_i16 {x : Int} (h : (Lit.int .i16 x).wf = true) : -32768 ≤ x ∧ x ≤ 32767 := by
  simp [Lit.wf, IntKind.min, IntKind.max, IntKind.signed, IntKind.bits] at h
  omega

theorem row_i16 {zs : List Int} (h : ∀ n ∈ zs, (Lit.int .i16 n).wf = true) (j : Nat) : -32768 ≤ zs.getD j 0 ∧ zs.getD j 0 ≤ 32767 := by
  by_cases hj : j < zs.length
  · have := wf_i16 (h _ (List.getElem_mem hj))
    simpa [hj] using this
  · simp [show zs.length ≤ j by omega]

set_option maxRecDepth 100000 in
theorem lifted5 (os : Os) (started : os.Started) (H : Type) (enc : TypeId × Value → H) :
    ReturnsInHanded {} Yba.checked os 5 .any (Rows.lawS0875BPushSpec.pre6 enc Yba.prog Yba.f5 Rows.lawS0875BPushRow.domain false) (Rows.lawS0875BPushSpec.post enc Yba.prog Yba.f5 false true false false) := by
  refine returnsInHanded_of_change (C := Yba.checked) own started (by kernel_rfl) Yba.func5
    (ChangeSpec.witness6 (enc := enc) (C := Yba.checked) false ⟨#[], #[.slice none 0 0, .int .i16 0], []⟩ 8 (by kernel_rfl) (by kernel_rfl) (by kernel_rfl) (by kernel_rfl)) ?_
  intro W base args ds gs before hval0 hW _ _
  have hval : ∀ (j : Nat) t v, Yba.f5.params[j]? = some t → args[j]? = some v → Value.okWide Yba.prog W .any base t v := hval0
  have hW' := hW
  obtain ⟨p, q, hA0, hV, rfl, hfz, hnd⟩ := hW
  have hA : DataW.TrodAll enc Yba.prog W 0 (fun _ => true) true Yba.f5.params.toList args.toList ds p := hA0
  rw [Yba.params5] at hA hval
  have hAk := hA
  obtain ⟨v0, vs0, d0, ds0, p0, q0, hargs, rfl, rfl, h0, r0⟩ := trodAll_cons hA
  obtain ⟨v1, vs1, d1, ds1, p1, q1, rfl, rfl, rfl, h1, r1⟩ := trodAll_cons r0
  obtain ⟨rfl, rfl, rfl⟩ := trodAll_nil r1
  obtain rfl : args = #[v0, v1] := by cases args; simp_all
  obtain ⟨rfl, rfl⟩ := trodVars_none hV
  obtain ⟨ra, n, rc, rfl⟩ := okWide_slice Yba.underlying48 (hval 0 48 v0 rfl rfl)
  obtain ⟨rb, ro, zs, lz, hra, hz, hwz, _, _⟩ := open_row Yba.underlying48 Yba.underlying49 (by kernel_rfl) h0
  obtain ⟨x, rfl, rfl, rfl, w1⟩ := open_int Yba.underlying49 (hval 1 49 v1 rfl rfl) h1
  have fin : ∀ W' : World, Below W.heap.size W W' → ∃ v, Ending.returned (.bool true) = .returned v ∧ Rows.lawS0875BPushSpec.post enc Yba.prog Yba.f5 false true false false W #[.slice ra n rc, .int .i16 x] v W' := fun W' bel =>
    ⟨_, rfl, _, _, _, [], _, [], hW', trodAll_mk1 (shut_bool Yba.underlying4 _), trodAll_below laidOut bel _ _ _ _ (by kernel_rfl) hAk, rfl, bel.frame _, fun h => by cases h⟩
  clear hA0 hval0
  by_cases hn : n ≤ 1024
  · refine (push_any ra rb ro n rc zs x W hn lz (fun h => (hra h).1) (fun h => (hra h).2) hz (row_i16 hwz) (wf_i16 w1).1 (wf_i16 w1).2).mono fun e W' ⟨he, bel⟩ => ?_
    subst he
    exact fin W' bel
  · refine (push_big ra n rc x W (by omega)).mono fun e W' ⟨he, bel⟩ => ?_
    subst he
    exact fin W' bel

theorem holds5 : Rows.LawS0875BPushSaid :=
  OpenClaim.holds_of_wide 5 Yba.f5 rfl rfl rfl rfl rfl rfl rfl ⟨rfl, rfl, rfl, rfl, rfl⟩ rfl rfl rfl rfl rfl (by kernel_rfl) Yba.func5 (by kernel_rfl)
    (of_decide_eq_true (by kernel_rfl)) (by unfold Func.isWrapper; first | (rw [if_pos (by decide +kernel)]; kernel_rfl) | (rw [if_neg (by decide +kernel)]; exact ⟨rfl, rfl⟩))
    (fun os started H enc _ => lifted5 os started H enc)
end Go.Proofs.Ybulkrce
