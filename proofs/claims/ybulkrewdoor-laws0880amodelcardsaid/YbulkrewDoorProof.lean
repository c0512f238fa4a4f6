import Derived.Test.YbulkrewDoorLaw
import Derived.Test.YbulkrewDoorTie
import Derived.Test.YbulkrewDoorCards
import Derived.WalkKit
import Derived.ProofKit
import Derived.OpenShut
import Derived.ChangeOld
import Derived.Below
import Derived.Lib.LaidTab
import Derived.LaidMore
import Derived.Lay
import Derived.SevenTiedAt
import Derived.Stop.Joined
namespace Go.Proofs.YbulkrewDoor
open Go.ChangeShapes Go.WideShapes Go.ChangeAt Go.RowKit
set_option linter.unusedVariables false

theorem own : ownKnob Ybad.prog.godebug = none := by kernel_rfl
theorem laidOut : laidOutB Ybad.prog = true := by kernel_rfl
theorem Ybad.gTab : Ybad.prog.globalNamed "math/bits.deBruijn64tab" = some 0 := by kernel_rfl
theorem Ybad.gTabType : (Ybad.prog.globals[0]?).map (·.type) = some 41 := by kernel_rfl
theorem Ybad.cells5 : Ybad.prog.cellsOf 5 = 1 := by kernel_rfl
theorem Ybad.cells41 : Ybad.prog.cellsOf 41 = 64 := by kernel_rfl

/-- The listed table, as integers. -/
def tabZ : List Int := Lib.deBruijn64tab.map Int.ofNat
theorem tab_len : Lib.deBruijn64tab.length = 64 := by kernel_rfl
theorem tab_data : (Rows.laid_math_bits_deBruijn64tab : DataW Unit) = Lib.tabData .u8 tabZ := by kernel_rfl

/-- The row's condition gives the walks the table. -/
theorem tab_of_laid {W : World} (h : laidMetH Ybad.prog Rows.lawS0880AModelRow.laid W) : Tab W := by
  rw [MakeChecks.laidMetH_plain _ _ _ (by kernel_rfl)] at h
  have h2 : laidMet Ybad.prog [("math/bits.deBruijn64tab", Lib.tabData .u8 tabZ)] W := by
    rw [← tab_data]; exact h
  have hT := Lib.tabIs_of_head Ybad.gTab Ybad.gTabType Ybad.underlying41 Ybad.underlying5 Ybad.cells5 Ybad.cells41 h2
  intro j hj
  have := hT.cell Ybad.gTab j (by simpa [tabZ] using hj)
  rw [this]
  have hj' : j < Lib.deBruijn64tab.length := hj
  simp [tabZ, List.getD, hj']

section
variable {H : Type} {enc : TypeId × Value → H} {P : Program} {W W' : World}

/-- All arguments read behind the call as they did, where below the heap's old size nothing has turned. -/
theorem trodAll_below (hl : laidOutB P = true) (hb : Below W.heap.size W W') : ∀ (ts : List TypeId) (vs : List Value) (ds : List (DataW H)) (ps : List MemPlace),
    (ts.all fun t => P.readableRec t && decide (t < P.types.size)) = true → DataW.TrodAll enc P W 0 (fun _ => true) true ts vs ds ps → DataW.TrodAll enc P W' 0 (fun b => decide (b < W.heap.size)) true ts vs ds ps
  | [], vs, ds, ps, _, h => by
    obtain ⟨rfl, rfl, rfl⟩ := trodAll_nil h
    exact trodAll_mk0
  | t :: ts, vs, ds, ps, hr, h => by
    obtain ⟨v, vs', d, ds', p, q, rfl, rfl, rfl, h0, h1⟩ := trodAll_cons h
    simp only [List.all_cons, Bool.and_eq_true] at hr
    have lt : ∀ x ∈ p, x.block < W.heap.size := by obtain ⟨m, hm⟩ := h0; exact DataW.trod_lt m _ _ _ hm
    exact trodAll_cons_mk (Below.trod hl hr.1.1 (of_decide_eq_true hr.1.2) h0 hb lt) (trodAll_below hl hb ts vs' ds' q hr.2 h1)

/-- A slice of integers that came in. -/
theorem open_rowD {t e : TypeId} {k : IntKind} {a : Option Addr} {len cap : Nat} {d : DataW H} {ps : List MemPlace} (ht : P.underlying t = some (.slice e)) (he : P.underlying e = some (.int k)) (hc : P.cellsOf e = 1)
    (h : DataW.Trod enc P W 0 (fun _ => true) true t (.slice a len cap) d ps) :
    ∃ (rb ro : Nat) (zs : List Int), zs.length = len ∧ (0 < len → a = some ⟨rb, ro, none⟩ ∧ rb < W.heap.size) ∧ (∀ j, j < len → W.cell? ⟨rb, ro + j, none⟩ = some (.int k (zs.getD j 0))) ∧ (∀ n ∈ zs, (Lit.int k n).wf = true) ∧ (a = none → len = 0 ∧ cap = 0) := by
  obtain ⟨fuel, hf⟩ := h
  rcases open_ints ht he hc hf with ⟨hcs, _⟩ | ⟨x, l, c, zs, hcs, _, hl, hm, hz, _, hcell, hwz⟩
  · simp [Value.cells] at hcs
    obtain ⟨rfl, rfl, rfl⟩ := hcs
    exact ⟨0, 0, [], rfl, fun h => by omega, fun j h => by omega, fun n hn => (by cases hn), fun _ => ⟨rfl, rfl⟩⟩
  · simp [Value.cells] at hcs
    obtain ⟨rfl, rfl, rfl⟩ := hcs
    simp only [if_true] at hz
    by_cases h0 : len = 0
    · subst h0
      exact ⟨0, 0, [], rfl, fun h => by omega, fun j h => by omega, fun n hn => (by cases hn), fun h => by cases h⟩
    · obtain ⟨b, off, spot⟩ := x
      have hspot : spot = none := by simpa [Addr.add] using World.cell?_spot (hcell 0 (by omega))
      subst hspot
      have hbW : b < W.heap.size := by
        have := World.block_lt_of_cell? W _ (hcell 0 (by omega))
        simpa [Addr.add] using this
      refine ⟨b, off, zs.take len, by simp; omega, fun _ => ⟨rfl, hbW⟩, fun j hj => ?_, fun n hn => hwz n (List.mem_of_mem_take hn), fun h => by cases h⟩
      have e1 := hcell j (by omega)
      rw [add_plain] at e1
      rw [e1]
      simp [hj]
end

theorem wf_u8D {x : Int} (h : (Lit.int .u8 x).wf = true) : 0 ≤ x ∧ x ≤ 255 := by
  simp [Lit.wf, IntKind.min, IntKind.max, IntKind.signed, IntKind.bits] at h
  omega

/-- A list of bytes, as natural numbers. -/
theorem nats_of (l : List Int) (h : ∀ n ∈ l, (Lit.int .u8 n).wf = true) :
    ∃ x : List Nat, x.length = l.length ∧ (∀ y ∈ x, y < 256) ∧ ∀ j, j < l.length → l.getD j 0 = (x.getD j 0 : Nat) := by
  refine ⟨l.map Int.toNat, by simp, fun y hy => ?_, fun j hj => ?_⟩
  · obtain ⟨z, hz, rfl⟩ := List.mem_map.1 hy
    have := wf_u8D (h z hz)
    omega
  · have := wf_u8D (h (l[j]) (List.getElem_mem _))
    simp [List.getD, hj]
    omega

set_option maxRecDepth 100000 in
theorem lifted3 (os : Os) (started : os.Started) (H : Type) (enc : TypeId × Value → H) :
    ReturnsInHanded {} Ybad.checked os 3 .any (fun w args => (Rows.lawS0880AModelSpec.pre enc Ybad.prog Ybad.f3 Rows.lawS0880AModelRow.domain false w args ∧ laidMetH Ybad.prog Rows.lawS0880AModelRow.laid w) ∧ sizedMet enc Ybad.prog Ybad.f3 (OpenSpec.ofChange Rows.lawS0880AModelSpec) false w args)
      (Rows.lawS0880AModelSpec.post enc Ybad.prog Ybad.f3 false true false false) := by
  refine returnsInHanded_of_change_and (C := Ybad.checked) (X := fun w _ => laidMetH Ybad.prog Rows.lawS0880AModelRow.laid w) (fun _ _ _ hh h => h.of_heap hh) own started (by kernel_rfl) Ybad.func3
    (ChangeSpec.witness_shaped (enc := enc) (C := Ybad.checked) (os := os) (X := fun w _ => laidMetH Ybad.prog Rows.lawS0880AModelRow.laid w) false (World.laidAll Ybad.prog os Rows.lawS0880AModelRow.laid) #[.slice none 0 0, .slice none 0 0, .bool false, .bool false, .bool false] 8 (World.laidAll_os _ _ _)
      (World.shaped_of_ZipB (by kernel_rfl) (by kernel_rfl)) (by kernel_rfl) (by kernel_rfl) (by kernel_rfl)
      (by rw [MakeChecks.laidMetH_plain _ _ _ (by kernel_rfl)]; exact laidMet_laidAll _ (by kernel_rfl) (by kernel_rfl))) ?_
  intro W base args ds gs before hval0 hW _ _ hL _
  have hval : ∀ (j : Nat) t v, Ybad.f3.params[j]? = some t → args[j]? = some v → Value.okWide Ybad.prog W .any base t v := hval0
  have hW' := hW
  obtain ⟨p, q, hA0, hV, rfl, hfz, hnd⟩ := hW
  have hA : DataW.TrodAll enc Ybad.prog W 0 (fun _ => true) true Ybad.f3.params.toList args.toList ds p := hA0
  rw [Ybad.params3] at hA hval
  have hAk := hA
  obtain ⟨v0, vs0, d0, ds0, p0, q0, hargs, rfl, rfl, h0, r0⟩ := trodAll_cons hA
  obtain ⟨v1, vs1, d1, ds1, p1, q1, rfl, rfl, rfl, h1, r1⟩ := trodAll_cons r0
  obtain ⟨v2, vs2, d2, ds2, p2, q2, rfl, rfl, rfl, h2, r2⟩ := trodAll_cons r1
  obtain ⟨v3, vs3, d3, ds3, p3, q3, rfl, rfl, rfl, h3, r3⟩ := trodAll_cons r2
  obtain ⟨v4, vs4, d4, ds4, p4, q4, rfl, rfl, rfl, h4, r4⟩ := trodAll_cons r3
  obtain ⟨rfl, rfl, rfl⟩ := trodAll_nil r4
  obtain rfl : args = #[v0, v1, v2, v3, v4] := by cases args; simp_all
  obtain ⟨rfl, rfl⟩ := trodVars_none hV
  obtain ⟨a0, n0, c0, rfl⟩ := okWide_slice Ybad.underlying22 (hval 0 22 v0 rfl rfl)
  obtain ⟨a1, n1, c1, rfl⟩ := okWide_slice Ybad.underlying22 (hval 1 22 v1 rfl rfl)
  obtain ⟨np, rfl⟩ := okWide_bool Ybad.underlying4 (hval 2 4 v2 rfl rfl)
  obtain ⟨lead, rfl⟩ := okWide_bool Ybad.underlying4 (hval 3 4 v3 rfl rfl)
  obtain ⟨raw, rfl⟩ := okWide_bool Ybad.underlying4 (hval 4 4 v4 rfl rfl)
  obtain ⟨b0, o0, z0, l0, hr0, hc0, hw0, hn0⟩ := open_rowD Ybad.underlying22 Ybad.underlying5 Ybad.cells5 h0
  obtain ⟨b1, o1, z1, l1, hr1, hc1, hw1, hn1⟩ := open_rowD Ybad.underlying22 Ybad.underlying5 Ybad.cells5 h1
  have hT := tab_of_laid hL
  obtain ⟨x0, e0, s0, g0⟩ := nats_of z0 hw0
  obtain ⟨x1, e1, s1, g1⟩ := nats_of z1 hw1
  have fin : ∀ W' : World, Below W.heap.size W W' → ∃ v, Ending.returned (.bool true) = .returned v ∧ Rows.lawS0880AModelSpec.post enc Ybad.prog Ybad.f3 false true false false W #[.slice a0 n0 c0, .slice a1 n1 c1, .bool np, .bool lead, .bool raw] v W' := fun W' bel =>
    ⟨_, rfl, _, _, _, [], _, [], hW', trodAll_mk1 (shut_bool Ybad.underlying4 _), trodAll_below laidOut bel _ _ _ _ (by kernel_rfl) hAk, rfl, bel.frame _, fun h => by cases h⟩
  clear hA0 hval0
  by_cases k0 : n0 ≤ 1024
  · by_cases k1 : n1 ≤ 1024
    · refine (law_any a0 n0 c0 x0 a1 b1 o1 n1 c1 x1 np lead raw W k0 k1 (by omega) (by omega) hn0 (fun ad had j hj => ?_) s0 hr1 (fun j hj => by rw [hc1 j hj, g1 j (by omega)]) s1 hT).mono fun e W' ⟨he, bel⟩ => ?_
      · obtain ⟨ha, _⟩ := hr0 (by omega)
        rw [ha] at had
        cases had
        rw [add_plain, hc0 j hj, g0 j (by omega)]
      · subst he
        exact fin W' bel
    · refine (law_body a0 n0 c0 a1 n1 c1 _ _ _ W k0 (by omega)).mono fun e W' ⟨he, bel⟩ => ?_
      subst he
      exact fin W' bel
  · refine (law_pre a0 n0 c0 _ _ _ _ W (by omega)).mono fun e W' ⟨he, bel⟩ => ?_
    subst he
    exact fin W' bel

theorem row_holds : Rows.LawS0880AModelSaid :=
  OpenClaim.holds_of_wide 3 Ybad.f3 rfl rfl rfl rfl rfl rfl rfl ⟨rfl, rfl, rfl, rfl, rfl⟩ rfl rfl rfl rfl rfl (by kernel_rfl) Ybad.func3 (by kernel_rfl)
    (of_decide_eq_true (by kernel_rfl)) (by unfold Func.isWrapper; first | (rw [if_pos (by decide +kernel)]; kernel_rfl) | (rw [if_neg (by decide +kernel)]; exact ⟨rfl, rfl⟩))
    (fun os started H enc _ => lifted3 os started H enc)

theorem card_holds : Rows.LawS0880AModelCardSaid :=
  Claim7.holds_tied_plain_at .later [] [.data] true (true, "7512e08c7393106ad5ce5d67067fcc3344e5aae9035150ec15926da2df650bb8") false row_holds (fun _ h => by cases h) (by kernel_rfl) (fun _ h => by cases h) lawS0880AModel_row_tie rfl ⟨rfl, rfl⟩ (by kernel_rfl) rfl
    (fun f fn hf hfn => by
      obtain rfl : f = 3 := Option.some.inj ((show Ybad.prog.funcNamed "example.com/antecede/antecede/internal/jsonscan.LawS0880AModel" = some 3 by kernel_rfl).symm.trans hf) |>.symm
      obtain rfl : fn = Ybad.f3 := (Option.some.inj (Ybad.func3.symm.trans hfn)).symm
      exact ⟨by kernel_rfl, fun j t ht => by
        rw [Ybad.params3] at ht
        have hm : t ∈ [22, 22, 4, 4, 4] := by simpa using Array.mem_of_getElem? ht
        have hall : ([22, 22, 4, 4, 4].all fun u => !Ybad.prog.wantsStandIn u) = true := by kernel_rfl
        exact (show Ybad.prog.wantsStandIn t = false by simpa using List.all_eq_true.1 hall t hm)⟩)
    (by kernel_rfl)
end Go.Proofs.YbulkrewDoor
