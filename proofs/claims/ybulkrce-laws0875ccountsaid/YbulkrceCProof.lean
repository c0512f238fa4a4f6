import Derived.Test.YbulkrceCWalk
import Derived.Test.YbulkrceLawKit
namespace Go.Proofs.Ybulkrce
open Go.ChangeShapes Go.WideShapes Go.ChangeAt Go.RowKit

set_option maxRecDepth 100000 in
set_option maxHeartbeats 1000000 in
theorem count_big (A0 A1 A2 A3 : Array Value) (ra : Option Addr) (n rc : Nat) (wi : Int) (ext : Bool) (bound : Int) (w : World) (hn : 1024 < n) :
    Calls Yba.prog 7 #[.agg A0, .agg A1, .agg A2, .agg A3, .slice ra n rc, .int .u8 wi, .bool ext, .int .i64 bound] w fun e w' => e = .returned (.bool true) ∧ Below w.heap.size w w' := by
  have hn1 : (1024 : Int) < (n : Int) := by omega
  go_enter Yba.func7, Yba.ntmps7
  go_wp2
  go_ret
  exact ⟨by simp, ((((Below.refl _ _).alloc (Nat.le_refl _) _).alloc (by simp) _).alloc (by simp; omega) _).alloc (by simp; omega) _⟩

theorem wf_u8 {x : Int} (h : (Lit.int .u8 x).wf = true) : 0 ≤ x ∧ x ≤ 255 := by
  simp [Lit.wf, IntKind.min, IntKind.max, IntKind.signed, IntKind.bits] at h
  omega
theorem wf_i8 {x : Int} (h : (Lit.int .i8 x).wf = true) : -128 ≤ x ∧ x ≤ 127 := by
  simp [Lit.wf, IntKind.min, IntKind.max, IntKind.signed, IntKind.bits] at h
  omega

/-- A list of bytes, as natural numbers. -/
theorem nats_of (l : List Int) (h : ∀ j, j < l.length → 0 ≤ l.getD j 0 ∧ l.getD j 0 ≤ 255) :
    ∃ x : List Nat, x.length = l.length ∧ (∀ j, x.getD j 0 ≤ 255) ∧ ∀ j, j < l.length → l.getD j 0 = (x.getD j 0 : Nat) := by
  refine ⟨l.map Int.toNat, by simp, fun j => ?_, fun j hj => ?_⟩
  · by_cases hj : j < l.length
    · have := h j hj
      simp [hj] at this ⊢
      omega
    · simp [hj]
  · have := h j hj
    simp [hj] at this ⊢
    omega

set_option maxRecDepth 100000 in
theorem lifted7 (os : Os) (started : os.Started) (H : Type) (enc : TypeId × Value → H) :
    ReturnsInHanded {} Yba.checked os 7 .any (Rows.lawS0875CCountSpec.pre6 enc Yba.prog Yba.f7 Rows.lawS0875CCountRow.domain false) (Rows.lawS0875CCountSpec.post enc Yba.prog Yba.f7 false true false false) := by
  refine returnsInHanded_of_change (C := Yba.checked) own started (by kernel_rfl) Yba.func7
    (ChangeSpec.witness6 (enc := enc) (C := Yba.checked) false ⟨#[], #[.agg #[.bool false, .bool false, .bool false, .bool false, .bool false, .bool false, .bool false, .bool false], .agg #[.int .i8 0, .int .i8 0, .int .i8 0, .int .i8 0, .int .i8 0, .int .i8 0, .int .i8 0, .int .i8 0], .agg #[.int .u8 0, .int .u8 0, .int .u8 0, .int .u8 0, .int .u8 0, .int .u8 0, .int .u8 0, .int .u8 0], .agg #[.int .u8 0, .int .u8 0, .int .u8 0, .int .u8 0, .int .u8 0, .int .u8 0, .int .u8 0, .int .u8 0], .slice none 0 0, .int .u8 0, .bool false, .int .i64 0], []⟩ 8 (by kernel_rfl) (by kernel_rfl) (by kernel_rfl) (by kernel_rfl)) ?_
  intro W base args ds gs before hval0 hW _ _
  have hval : ∀ (j : Nat) t v, Yba.f7.params[j]? = some t → args[j]? = some v → Value.okWide Yba.prog W .any base t v := hval0
  have hW' := hW
  obtain ⟨p, q, hA0, hV, rfl, hfz, hnd⟩ := hW
  have hA : DataW.TrodAll enc Yba.prog W 0 (fun _ => true) true Yba.f7.params.toList args.toList ds p := hA0
  rw [Yba.params7] at hA hval
  have hAk := hA
  obtain ⟨v0, vs0, d0, ds0, p0, q0, hargs, rfl, rfl, h0, r0⟩ := trodAll_cons hA
  obtain ⟨v1, vs1, d1, ds1, p1, q1, rfl, rfl, rfl, h1, r1⟩ := trodAll_cons r0
  obtain ⟨v2, vs2, d2, ds2, p2, q2, rfl, rfl, rfl, h2, r2⟩ := trodAll_cons r1
  obtain ⟨v3, vs3, d3, ds3, p3, q3, rfl, rfl, rfl, h3, r3⟩ := trodAll_cons r2
  obtain ⟨v4, vs4, d4, ds4, p4, q4, rfl, rfl, rfl, h4, r4⟩ := trodAll_cons r3
  obtain ⟨v5, vs5, d5, ds5, p5, q5, rfl, rfl, rfl, h5, r5⟩ := trodAll_cons r4
  obtain ⟨v6, vs6, d6, ds6, p6, q6, rfl, rfl, rfl, h6, r6⟩ := trodAll_cons r5
  obtain ⟨v7, vs7, d7, ds7, p7, q7, rfl, rfl, rfl, h7, r7⟩ := trodAll_cons r6
  obtain ⟨rfl, rfl, rfl⟩ := trodAll_nil r7
  obtain rfl : args = #[v0, v1, v2, v3, v4, v5, v6, v7] := by cases args; simp_all
  obtain ⟨rfl, rfl⟩ := trodVars_none hV
  obtain ⟨A0, rfl, s0⟩ := okWide_array Yba.underlying61 (hval 0 61 v0 rfl rfl)
  obtain ⟨A1, rfl, s1⟩ := okWide_array Yba.underlying63 (hval 1 63 v1 rfl rfl)
  obtain ⟨A2, rfl, s2⟩ := okWide_array Yba.underlying64 (hval 2 64 v2 rfl rfl)
  obtain ⟨A3, rfl, s3⟩ := okWide_array Yba.underlying64 (hval 3 64 v3 rfl rfl)
  obtain ⟨ra, n, rc, rfl⟩ := okWide_slice Yba.underlying32 (hval 4 32 v4 rfl rfl)
  obtain ⟨dn, ld, hd⟩ := open_bools Yba.underlying61 Yba.underlying4 (by kernel_rfl) (s0.trans (by kernel_rfl)) h0
  obtain ⟨wt, lw, hw, hww⟩ := open_intsA Yba.underlying63 Yba.underlying62 (by kernel_rfl) (s1.trans (by kernel_rfl)) h1
  obtain ⟨y2, l2, hy2, hw2⟩ := open_intsA Yba.underlying64 Yba.underlying5 (by kernel_rfl) (s2.trans (by kernel_rfl)) h2
  obtain ⟨y3, l3, hy3, hw3⟩ := open_intsA Yba.underlying64 Yba.underlying5 (by kernel_rfl) (s3.trans (by kernel_rfl)) h3
  obtain ⟨rb, ro, zs, lz, hra, hz, hwz, _, _⟩ := open_row Yba.underlying32 Yba.underlying5 (by kernel_rfl) h4
  obtain ⟨wi, rfl, rfl, rfl, w5⟩ := open_int Yba.underlying5 (hval 5 5 v5 rfl rfl) h5
  obtain ⟨ext, rfl, rfl, rfl⟩ := open_bool Yba.underlying4 (hval 6 4 v6 rfl rfl) h6
  obtain ⟨bound, rfl, rfl, rfl, w7⟩ := open_int Yba.underlying3 (hval 7 3 v7 rfl rfl) h7
  obtain ⟨x2, lx2, b2, e2⟩ := nats_of y2 (fun j hj => wf_u8 (hw2 j (by omega)))
  obtain ⟨x3, lx3, b3, e3⟩ := nats_of y3 (fun j hj => wf_u8 (hw3 j (by omega)))
  obtain ⟨rd, lrd, b4, e4⟩ := nats_of zs (fun j hj => wf_u8 (hwz _ (by simp [hj])))
  obtain ⟨wn, rfl⟩ := Int.eq_ofNat_of_zero_le (wf_u8 w5).1
  have fin : ∀ W' : World, Below W.heap.size W W' → ∃ v, Ending.returned (.bool true) = .returned v ∧ Rows.lawS0875CCountSpec.post enc Yba.prog Yba.f7 false true false false W #[.agg A0, .agg A1, .agg A2, .agg A3, .slice ra n rc, .int .u8 wn, .bool ext, .int .i64 bound] v W' := fun W' bel =>
    ⟨_, rfl, _, _, _, [], _, [], hW', trodAll_mk1 (shut_bool Yba.underlying4 _), trodAll_below laidOut bel _ _ _ _ (by kernel_rfl) hAk, rfl, bel.frame _, fun h => by cases h⟩
  clear hA0 hval0
  by_cases hn : n ≤ 1024
  · refine (count_any A0 A1 A2 A3 dn wt x2 x3 rd ra rb ro n rc wn ext bound W hn (by omega) (by omega) b2 b3 ld lw ?_ hd hw (fun h => (hra h).1) (fun h => (hra h).2) (by omega) b4 (fun j hj => by rw [hz j hj, e4 j (by omega)]) (fun j hj => by rw [hy2 j hj, e2 j (by omega)]) (fun j hj => by rw [hy3 j hj, e3 j (by omega)])).mono fun e W' ⟨he, bel⟩ => ?_
    · intro j
      by_cases hj : j < 8
      · exact wf_i8 (hww j hj)
      · simp [show wt.length ≤ j by omega]
    · subst he
      exact fin W' bel
  · refine (count_big A0 A1 A2 A3 ra n rc wn ext bound W (by omega)).mono fun e W' ⟨he, bel⟩ => ?_
    subst he
    exact fin W' bel

theorem holds7 : Rows.LawS0875CCountSaid :=
  OpenClaim.holds_of_wide 7 Yba.f7 rfl rfl rfl rfl rfl rfl rfl ⟨rfl, rfl, rfl, rfl, rfl⟩ rfl rfl rfl rfl rfl (by kernel_rfl) Yba.func7 (by kernel_rfl)
    (of_decide_eq_true (by kernel_rfl)) (by unfold Func.isWrapper; first | (rw [if_pos (by decide +kernel)]; kernel_rfl) | (rw [if_neg (by decide +kernel)]; exact ⟨rfl, rfl⟩))
    (fun os started H enc _ => lifted7 os started H enc)
end Go.Proofs.Ybulkrce
