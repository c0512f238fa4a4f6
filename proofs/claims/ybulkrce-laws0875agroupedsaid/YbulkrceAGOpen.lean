import Derived.Test.YbulkrceAGLaw
import Derived.Test.YbulkrceLawKit
import Derived.Deep.Slices
namespace Go.Proofs.Ybulkrce
open Go.ChangeShapes Go.WideShapes Go.ChangeAt Go.RowKit
set_option linter.unusedVariables false

section
variable {H : Type} {enc : TypeId × Value → H} {W : World}

theorem wf_u8G {x : Int} (h : (Lit.int .u8 x).wf = true) : 0 ≤ x ∧ x ≤ 255 := by
  simp [Lit.wf, IntKind.min, IntKind.max, IntKind.signed, IntKind.bits] at h
  omega

/-- A slice of integers among a struct's cells. -/
theorem open_rowC {t e : TypeId} {k : IntKind} {cs : List Value} {x : DataW H × List MemPlace} {m : Nat} (ht : Yba.prog.underlying t = some (.slice e)) (he : Yba.prog.underlying e = some (.int k)) (hc : Yba.prog.cellsOf e = 1)
    (h : DataW.trod enc Yba.prog W 0 (fun _ => true) true m t cs = some x) :
    ∃ (a : Option Addr) (cap rb ro : Nat) (zs : List Int), cs = [.slice a zs.length cap] ∧ (0 < zs.length → a = some ⟨rb, ro, none⟩) ∧ ∀ j, j < zs.length → W.cell? ⟨rb, ro + j, none⟩ = some (.int k (zs.getD j 0)) := by
  rcases open_ints ht he hc h with ⟨hcs, _⟩ | ⟨y, l, c, zs, hcs, _, hl, hm, hz, _, hcell, hwz⟩
  · exact ⟨none, 0, 0, 0, [], hcs, fun h => by simp at h, fun j h => by simp at h⟩
  · simp only [if_true] at hz
    by_cases h0 : l = 0
    · subst h0
      exact ⟨some y, c, 0, 0, [], hcs, fun h => by simp at h, fun j h => by simp at h⟩
    · obtain ⟨b, off, spot⟩ := y
      have hspot : spot = none := by simpa [Addr.add] using World.cell?_spot (hcell 0 (by omega))
      subst hspot
      have hlen : (zs.take l).length = l := by simp; omega
      refine ⟨some ⟨b, off, none⟩, c, b, off, zs.take l, by rw [hlen]; exact hcs, fun _ => rfl, fun j hj => ?_⟩
      rw [hlen] at hj
      have e1 := hcell j (by omega)
      rw [add_plain] at e1
      rw [e1]
      simp [hj]

theorem Yba.cells21 : Yba.prog.cellsOf 21 = 1 := by kernel_rfl
theorem Yba.cells5 : Yba.prog.cellsOf 5 = 1 := by kernel_rfl
theorem Yba.cells4 : Yba.prog.cellsOf 4 = 1 := by kernel_rfl
theorem Yba.cells23 : Yba.prog.cellsOf 23 = 1 := by kernel_rfl
theorem Yba.cells100 : Yba.prog.cellsOf 100 = 8 := by kernel_rfl

/-- One field's cells. -/
theorem field_of {cs : List Value} {xs : List (DataW H × List MemPlace)} {n t o k : Nat} (hc : Yba.prog.cellsOf t = 1) (hk : k < xs.length) (h : DataW.trod enc Yba.prog W 0 (fun _ => true) true n t ((cs.drop o).take (Yba.prog.cellsOf t)) = xs[k]?) :
    DataW.trod enc Yba.prog W 0 (fun _ => true) true n t ((cs.drop o).take 1) = some xs[k] := by
  rw [hc, List.getElem?_eq_getElem hk] at h
  exact h

theorem open_op {cs : List Value} {x : DataW H × List MemPlace} {m : Nat} (h : DataW.trod enc Yba.prog W 0 (fun _ => true) true m 100 cs = some x) :
    ∃ (r : OpRec) (va : Option Addr) (vc vb vo : Nat), cs[0]? = some (.int .i32 r.pos) ∧ cs[1]? = some (.int .u8 (r.group : Nat)) ∧ cs[2]? = some (.int .u8 (r.slot : Nat)) ∧ cs[3]? = some (.int .u8 (r.mask : Nat)) ∧ cs[4]? = some (.bool r.loc) ∧ cs[5]? = some (.bool r.spa) ∧ cs[6]? = some (.bool r.fla) ∧
      cs[7]? = some (.slice va r.vz.length vc) ∧ (0 < r.vz.length → va = some ⟨vb, vo, none⟩) ∧ (∀ k, k < r.vz.length → W.cell? ⟨vb, vo + k, none⟩ = some (.int .i32 (r.val k))) ∧ r.group ≤ 255 ∧ r.slot ≤ 255 ∧ r.mask ≤ 255 := by
  obtain ⟨xs, n, _, _, hl, hlen, hf⟩ := DataW.trod_struct Yba.underlying100 h
  have hx8 : xs.length = 8 := hlen
  have e0 := field_of (k := 0) Yba.cells21 (by omega) (hf 0 _ rfl)
  have e1 := field_of (k := 1) Yba.cells5 (by omega) (hf 1 _ rfl)
  have e2 := field_of (k := 2) Yba.cells5 (by omega) (hf 2 _ rfl)
  have e3 := field_of (k := 3) Yba.cells5 (by omega) (hf 3 _ rfl)
  have e4 := field_of (k := 4) Yba.cells4 (by omega) (hf 4 _ rfl)
  have e5 := field_of (k := 5) Yba.cells4 (by omega) (hf 5 _ rfl)
  have e6 := field_of (k := 6) Yba.cells4 (by omega) (hf 6 _ rfl)
  have e7 := field_of (k := 7) Yba.cells23 (by omega) (hf 7 _ rfl)
  obtain ⟨a0, h0, _, _⟩ := DataW.trod_int Yba.underlying21 e0
  obtain ⟨a1, h1, _, w1⟩ := DataW.trod_int Yba.underlying5 e1
  obtain ⟨a2, h2, _, w2⟩ := DataW.trod_int Yba.underlying5 e2
  obtain ⟨a3, h3, _, w3⟩ := DataW.trod_int Yba.underlying5 e3
  obtain ⟨a4, h4, _⟩ := DataW.trod_bool Yba.underlying4 e4
  obtain ⟨a5, h5, _⟩ := DataW.trod_bool Yba.underlying4 e5
  obtain ⟨a6, h6, _⟩ := DataW.trod_bool Yba.underlying4 e6
  obtain ⟨va, vc, vb, vo, zs, h7, hv, hvs⟩ := open_rowC Yba.underlying23 Yba.underlying21 (by kernel_rfl) e7
  obtain ⟨g, rfl⟩ := Int.eq_ofNat_of_zero_le (wf_u8G w1).1
  obtain ⟨s, rfl⟩ := Int.eq_ofNat_of_zero_le (wf_u8G w2).1
  obtain ⟨q, rfl⟩ := Int.eq_ofNat_of_zero_le (wf_u8G w3).1
  have b1 := (wf_u8G w1).2
  have b2 := (wf_u8G w2).2
  have b3 := (wf_u8G w3).2
  exact ⟨⟨a0, g, s, q, a4, a5, a6, zs⟩, va, vc, vb, vo, one_of _ _ _ h0, one_of _ _ _ h1, one_of _ _ _ h2, one_of _ _ _ h3, one_of _ _ _ h4, one_of _ _ _ h5, one_of _ _ _ h6, one_of _ _ _ h7, hv, hvs, by simp only; omega, by simp only; omega, by simp only; omega⟩

/-- The law's row of operations, as it came in. -/
theorem open_ops {a0 : Option Addr} {n cap : Nat} {d : DataW H} {ps : List MemPlace} (h : DataW.Trod enc Yba.prog W 0 (fun _ => true) true 22 (.slice a0 n cap) d ps) (hn : 0 < n) :
    ∃ (ob oo : Nat) (f : Nat → OpRec) (va : Nat → Option Addr) (vc vb vo : Nat → Nat), a0 = some ⟨ob, oo, none⟩ ∧ ∀ i, i < n → OpIn W ob (oo + i * 8) (f i) (va i) (vc i) (vb i) (vo i) := by
  obtain ⟨fuel, hf⟩ := h
  rcases Go.Deep.open_slice Yba.underlying22 hf with ⟨hcs, _⟩ | ⟨a, len, cp, m, k, D, Pl, hcs, hb, hl, hm, hmm, _, hx⟩
  · simp [Value.cells] at hcs
    omega
  · simp [Value.cells] at hcs
    obtain ⟨rfl, rfl, rfl⟩ := hcs
    simp only [if_true] at hmm
    subst hmm
    rw [Yba.cells100] at hx
    obtain ⟨ob, oo, spot⟩ := a
    have hspot : spot = none := by
      obtain ⟨cs, h1, h2⟩ := hx 0 (by omega)
      obtain ⟨-, hlen, hc⟩ := World.cells?_some h1
      have := hc 0 (by omega)
      rw [List.getElem?_eq_getElem (by omega)] at this
      simpa [Addr.add] using World.cell?_spot this
    subst hspot
    have each : ∀ i, ∃ q : OpRec × Option Addr × Nat × Nat × Nat, i < n → OpIn W ob (oo + i * 8) q.1 q.2.1 q.2.2.1 q.2.2.2.1 q.2.2.2.2 := fun i => by
      by_cases hi : i < n
      · obtain ⟨cs, h1, h2⟩ := hx i (by omega)
        obtain ⟨r, va, vc, vb, vo, c0, c1, c2, c3, c4, c5, c6, c7, hv, hvs, g1, g2, g3⟩ := open_op h2
        obtain ⟨-, hlen, hc⟩ := World.cells?_some h1
        have cell : ∀ j, j < 8 → W.cell? ⟨ob, oo + i * 8 + j, none⟩ = cs[j]? := fun j hj => by
          have := hc j hj
          rwa [add_plain, add_plain] at this
        exact ⟨(r, va, vc, vb, vo), fun _ => ⟨(cell 0 (by omega)).trans c0, (cell 1 (by omega)).trans c1, (cell 2 (by omega)).trans c2, (cell 3 (by omega)).trans c3, (cell 4 (by omega)).trans c4, (cell 5 (by omega)).trans c5, (cell 6 (by omega)).trans c6, (cell 7 (by omega)).trans c7, hv, hvs, g1, g2, g3⟩⟩
      · exact ⟨(⟨0, 0, 0, 0, false, false, false, []⟩, none, 0, 0, 0), fun h => absurd h hi⟩
    obtain ⟨F, hF⟩ := Classical.axiomOfChoice each
    exact ⟨ob, oo, fun i => (F i).1, fun i => (F i).2.1, fun i => (F i).2.2.1, fun i => (F i).2.2.2.1, fun i => (F i).2.2.2.2, rfl, hF⟩
end

set_option maxRecDepth 100000 in
theorem lifted3 (os : Os) (started : os.Started) (H : Type) (enc : TypeId × Value → H) :
    ReturnsInHanded {} Yba.checked os 3 .any (Rows.lawS0875AGroupedSpec.pre6 enc Yba.prog Yba.f3 Rows.lawS0875AGroupedRow.domain false) (Rows.lawS0875AGroupedSpec.post enc Yba.prog Yba.f3 false true false false) := by
  refine returnsInHanded_of_change (C := Yba.checked) own started (by kernel_rfl) Yba.func3
    (ChangeSpec.witness6 (enc := enc) (C := Yba.checked) false ⟨#[], #[.slice none 0 0, .slice none 0 0, .int .u8 0, .int .u8 0], []⟩ 8 (by kernel_rfl) (by kernel_rfl) (by kernel_rfl) (by kernel_rfl)) ?_
  intro W base args ds gs before hval0 hW _ _
  have hval : ∀ (j : Nat) t v, Yba.f3.params[j]? = some t → args[j]? = some v → Value.okWide Yba.prog W .any base t v := hval0
  have hW' := hW
  obtain ⟨p, q, hA0, hV, rfl, hfz, hnd⟩ := hW
  have hA : DataW.TrodAll enc Yba.prog W 0 (fun _ => true) true Yba.f3.params.toList args.toList ds p := hA0
  rw [Yba.params3] at hA hval
  have hAk := hA
  obtain ⟨v0, vs0, d0, ds0, p0, q0, hargs, rfl, rfl, h0, r0⟩ := trodAll_cons hA
  obtain ⟨v1, vs1, d1, ds1, p1, q1, rfl, rfl, rfl, h1, r1⟩ := trodAll_cons r0
  obtain ⟨v2, vs2, d2, ds2, p2, q2, rfl, rfl, rfl, h2, r2⟩ := trodAll_cons r1
  obtain ⟨v3, vs3, d3, ds3, p3, q3, rfl, rfl, rfl, h3, r3⟩ := trodAll_cons r2
  obtain ⟨rfl, rfl, rfl⟩ := trodAll_nil r3
  obtain rfl : args = #[v0, v1, v2, v3] := by cases args; simp_all
  obtain ⟨rfl, rfl⟩ := trodVars_none hV
  obtain ⟨a0, n0, c0, rfl⟩ := okWide_slice Yba.underlying22 (hval 0 22 v0 rfl rfl)
  obtain ⟨a1, n1, c1, rfl⟩ := okWide_slice Yba.underlying23 (hval 1 23 v1 rfl rfl)
  obtain ⟨b1, o1, z1, l1, hr1, hc1, hw1, _, _⟩ := open_row Yba.underlying23 Yba.underlying21 (by kernel_rfl) h1
  obtain ⟨ai, rfl, rfl, rfl, w2⟩ := open_int Yba.underlying5 (hval 2 5 v2 rfl rfl) h2
  obtain ⟨oi, rfl, rfl, rfl, w3⟩ := open_int Yba.underlying5 (hval 3 5 v3 rfl rfl) h3
  obtain ⟨an, rfl⟩ := Int.eq_ofNat_of_zero_le (wf_u8G w2).1
  obtain ⟨on, rfl⟩ := Int.eq_ofNat_of_zero_le (wf_u8G w3).1
  have g2 := (wf_u8G w2).2
  have g3 := (wf_u8G w3).2
  have fin : ∀ W' : World, Below W.heap.size W W' → ∃ v, Ending.returned (.bool true) = .returned v ∧ Rows.lawS0875AGroupedSpec.post enc Yba.prog Yba.f3 false true false false W #[.slice a0 n0 c0, .slice a1 n1 c1, .int .u8 an, .int .u8 on] v W' := fun W' bel =>
    ⟨_, rfl, _, _, _, [], _, [], hW', trodAll_mk1 (shut_bool Yba.underlying4 _), trodAll_below laidOut bel _ _ _ _ (by kernel_rfl) hAk, rfl, bel.frame _, fun h => by cases h⟩
  clear hA0 hval0
  by_cases h0n : n0 = 0
  · subst h0n
    refine (grouped_none a0 c0 _ _ _ W).mono fun e W' ⟨he, bel⟩ => ?_
    subst he
    exact fin W' bel
  by_cases hn : n0 ≤ 1024
  · obtain ⟨ob, oo, f, va, vc, vb, vo, rfl, hops⟩ := open_ops h0 (by omega)
    refine (grouped_any ob oo n0 c0 n1 c1 b1 o1 an on a1 f z1 W va vc vb vo (by omega) hn hops (fun h => (hr1 h).1) l1 hc1 (by omega) (by omega)).mono fun e W' ⟨he, bel⟩ => ?_
    subst he
    exact fin W' bel
  · refine (grouped_big a0 n0 c0 _ _ _ W (by omega)).mono fun e W' ⟨he, bel⟩ => ?_
    subst he
    exact fin W' bel

theorem holds3 : Rows.LawS0875AGroupedSaid :=
  OpenClaim.holds_of_wide 3 Yba.f3 rfl rfl rfl rfl rfl rfl rfl ⟨rfl, rfl, rfl, rfl, rfl⟩ rfl rfl rfl rfl rfl (by kernel_rfl) Yba.func3 (by kernel_rfl)
    (of_decide_eq_true (by kernel_rfl)) (by unfold Func.isWrapper; first | (rw [if_pos (by decide +kernel)]; kernel_rfl) | (rw [if_neg (by decide +kernel)]; exact ⟨rfl, rfl⟩))
    (fun os started H enc _ => lifted3 os started H enc)
end Go.Proofs.Ybulkrce
