import Derived.Test.YbulkrceAWide
import Derived.Test.YbulkrceLawKit
namespace Go.Proofs.Ybulkrce
open Go.ChangeShapes Go.WideShapes Go.ChangeAt Go.RowKit
set_option linter.unusedVariables false

set_option maxRecDepth 100000 in
set_option maxHeartbeats 1000000 in
theorem wide_big (ra : Option Addr) (n rc : Nat) (v1 v2 v3 v4 v5 : Value) (w : World) (hn : 1024 < n) :
    Calls Yba.prog 4 #[.slice ra n rc, v1, v2, v3, v4, v5] w fun e w' => e = .returned (.bool true) ∧ Below w.heap.size w w' := by
  have hn1 : (1024 : Int) < (n : Int) := by omega
  have hn2 : ((n : Int) == 0) = false := by simp; omega
  go_enter Yba.func4, Yba.ntmps4
  go_wp2
  go_ret
  exact ⟨by simp, Below.refl _ _⟩

set_option maxRecDepth 100000 in
set_option maxHeartbeats 1000000 in
theorem wide_none (ra : Option Addr) (rc : Nat) (v1 v2 v3 v4 v5 : Value) (w : World) :
    Calls Yba.prog 4 #[.slice ra 0 rc, v1, v2, v3, v4, v5] w fun e w' => e = .returned (.bool true) ∧ Below w.heap.size w w' := by
  go_enter Yba.func4, Yba.ntmps4
  go_wp2
  go_ret
  exact ⟨by simp, Below.refl _ _⟩

theorem wf_u8A {x : Int} (h : (Lit.int .u8 x).wf = true) : 0 ≤ x ∧ x ≤ 255 := by
  simp [Lit.wf, IntKind.min, IntKind.max, IntKind.signed, IntKind.bits] at h
  omega

/-- A list of bytes, as natural numbers. -/
theorem nats_ofA (l : List Int) (h : ∀ j, j < l.length → 0 ≤ l.getD j 0 ∧ l.getD j 0 ≤ 255) :
    ∃ x : List Nat, x.length = l.length ∧ (∀ j, x.getD j 0 ≤ 255) ∧ ∀ j, j < l.length → l.getD j 0 = (x.getD j 0 : Nat) := by
  refine ⟨l.map Int.toNat, by simp, fun j => ?_, fun j hj => ?_⟩
  · by_cases hj : j < l.length
    · have := h j hj
      simp [hj] at this ⊢
      omega
    · simp [hj]
  · have := h j hj
    simp [hj] at this ⊢
    omega

set_option maxRecDepth 100000 in
theorem lifted4 (os : Os) (started : os.Started) (H : Type) (enc : TypeId × Value → H) :
    ReturnsInHanded {} Yba.checked os 4 .any (Rows.lawS0875AWideSpec.pre6 enc Yba.prog Yba.f4 Rows.lawS0875AWideRow.domain false) (Rows.lawS0875AWideSpec.post enc Yba.prog Yba.f4 false true false false) := by
  refine returnsInHanded_of_change (C := Yba.checked) own started (by kernel_rfl) Yba.func4
    (ChangeSpec.witness6 (enc := enc) (C := Yba.checked) false ⟨#[], #[.slice none 0 0, .slice none 0 0, .slice none 0 0, .int .u8 0, .int .u8 0, .int .u8 0], []⟩ 8 (by kernel_rfl) (by kernel_rfl) (by kernel_rfl) (by kernel_rfl)) ?_
  intro W base args ds gs before hval0 hW _ _
  have hval : ∀ (j : Nat) t v, Yba.f4.params[j]? = some t → args[j]? = some v → Value.okWide Yba.prog W .any base t v := hval0
  have hW' := hW
  obtain ⟨p, q, hA0, hV, rfl, hfz, hnd⟩ := hW
  have hA : DataW.TrodAll enc Yba.prog W 0 (fun _ => true) true Yba.f4.params.toList args.toList ds p := hA0
  rw [Yba.params4] at hA hval
  have hAk := hA
  obtain ⟨v0, vs0, d0, ds0, p0, q0, hargs, rfl, rfl, h0, r0⟩ := trodAll_cons hA
  obtain ⟨v1, vs1, d1, ds1, p1, q1, rfl, rfl, rfl, h1, r1⟩ := trodAll_cons r0
  obtain ⟨v2, vs2, d2, ds2, p2, q2, rfl, rfl, rfl, h2, r2⟩ := trodAll_cons r1
  obtain ⟨v3, vs3, d3, ds3, p3, q3, rfl, rfl, rfl, h3, r3⟩ := trodAll_cons r2
  obtain ⟨v4, vs4, d4, ds4, p4, q4, rfl, rfl, rfl, h4, r4⟩ := trodAll_cons r3
  obtain ⟨v5, vs5, d5, ds5, p5, q5, rfl, rfl, rfl, h5, r5⟩ := trodAll_cons r4
  obtain ⟨rfl, rfl, rfl⟩ := trodAll_nil r5
  obtain rfl : args = #[v0, v1, v2, v3, v4, v5] := by cases args; simp_all
  obtain ⟨rfl, rfl⟩ := trodVars_none hV
  obtain ⟨a0, n0, c0, rfl⟩ := okWide_slice Yba.underlying23 (hval 0 23 v0 rfl rfl)
  obtain ⟨a1, n1, c1, rfl⟩ := okWide_slice Yba.underlying32 (hval 1 32 v1 rfl rfl)
  obtain ⟨a2, n2, c2, rfl⟩ := okWide_slice Yba.underlying23 (hval 2 23 v2 rfl rfl)
  obtain ⟨b0, o0, z0, l0, hr0, hc0, hw0, _, _⟩ := open_row Yba.underlying23 Yba.underlying21 (by kernel_rfl) h0
  obtain ⟨b1, o1, z1, l1, hr1, hc1, hw1, _, _⟩ := open_row Yba.underlying32 Yba.underlying5 (by kernel_rfl) h1
  obtain ⟨b2, o2, z2, l2, hr2, hc2, hw2, _, _⟩ := open_row Yba.underlying23 Yba.underlying21 (by kernel_rfl) h2
  obtain ⟨wi, rfl, rfl, rfl, w3⟩ := open_int Yba.underlying5 (hval 3 5 v3 rfl rfl) h3
  obtain ⟨ai, rfl, rfl, rfl, w4⟩ := open_int Yba.underlying5 (hval 4 5 v4 rfl rfl) h4
  obtain ⟨oi, rfl, rfl, rfl, w5⟩ := open_int Yba.underlying5 (hval 5 5 v5 rfl rfl) h5
  obtain ⟨sl, ls, bs, es⟩ := nats_ofA z1 (fun j hj => wf_u8A (hw1 _ (by simp [hj])))
  obtain ⟨wn, rfl⟩ := Int.eq_ofNat_of_zero_le (wf_u8A w3).1
  obtain ⟨an, rfl⟩ := Int.eq_ofNat_of_zero_le (wf_u8A w4).1
  obtain ⟨on, rfl⟩ := Int.eq_ofNat_of_zero_le (wf_u8A w5).1
  have g3 := (wf_u8A w3).2
  have g4 := (wf_u8A w4).2
  have g5 := (wf_u8A w5).2
  have fin : ∀ W' : World, Below W.heap.size W W' → ∃ v, Ending.returned (.bool true) = .returned v ∧ Rows.lawS0875AWideSpec.post enc Yba.prog Yba.f4 false true false false W #[.slice a0 n0 c0, .slice a1 n1 c1, .slice a2 n2 c2, .int .u8 wn, .int .u8 an, .int .u8 on] v W' := fun W' bel =>
    ⟨_, rfl, _, _, _, [], _, [], hW', trodAll_mk1 (shut_bool Yba.underlying4 _), trodAll_below laidOut bel _ _ _ _ (by kernel_rfl) hAk, rfl, bel.frame _, fun h => by cases h⟩
  clear hA0 hval0
  by_cases h0n : n0 = 0
  · subst h0n
    refine (wide_none a0 c0 _ _ _ _ _ W).mono fun e W' ⟨he, bel⟩ => ?_
    subst he
    exact fin W' bel
  by_cases hn : n0 ≤ 1024
  · obtain ⟨rfl, hb0⟩ := hr0 (by omega)
    refine (wide_any b0 o0 n0 c0 b1 o1 n1 c1 b2 o2 n2 c2 a1 a2 z0 sl z2 wn an on W (by omega) hn hb0 hc0 hr1 (by omega) (fun j hj => by rw [hc1 j hj, es j (by omega)]) bs hr2 l2 hc2 (by omega) (by omega) (by omega)).mono fun e W' ⟨he, bel⟩ => ?_
    subst he
    exact fin W' bel
  · refine (wide_big a0 n0 c0 _ _ _ _ _ W (by omega)).mono fun e W' ⟨he, bel⟩ => ?_
    subst he
    exact fin W' bel

theorem holds4 : Rows.LawS0875AWideSaid :=
  OpenClaim.holds_of_wide 4 Yba.f4 rfl rfl rfl rfl rfl rfl rfl ⟨rfl, rfl, rfl, rfl, rfl⟩ rfl rfl rfl rfl rfl (by kernel_rfl) Yba.func4 (by kernel_rfl)
    (of_decide_eq_true (by kernel_rfl)) (by unfold Func.isWrapper; first | (rw [if_pos (by decide +kernel)]; kernel_rfl) | (rw [if_neg (by decide +kernel)]; exact ⟨rfl, rfl⟩))
    (fun os started H enc _ => lifted4 os started H enc)
end Go.Proofs.Ybulkrce
