import Derived.Test.YbulkrbqFmtCards
import Derived.Test.YbulkrbqFmtLaws
import Derived.ProofKit
import Derived.Stop.JoinedTold
import Derived.SevenToldRow
namespace Go.Proofs.YbulkrbqFmt
open Go.ChangeShapes Go.WideShapes Go.ChangeAt Go.RowKit
open Go.ChangeMaps (open_string shut_string)
open Go.Extern.Stop Go.Stop Go.Extern

theorem own3 : ownKnob Ybaf.prog.godebug = none := by kernel_rfl
theorem laidOut3 : laidOutB Ybaf.pinned.checked.prog = true := by kernel_rfl
theorem stops3 : Ybaf.pinned.checked.prog.stops = Rows.lawS0874BGateRow.stops := by kernel_rfl
theorem stopKnobs3 : Ybaf.pinned.checked.prog.stopKnobs = [] := by kernel_rfl
theorem quiet3 (os : Os) : Stop.quiet Ybaf.pinned.checked.prog os := by
  intro k hk
  rw [stopKnobs3] at hk
  cases hk

set_option maxRecDepth 100000 in
theorem lifted3 (os : Os) (started : os.Started) (H : Type) (enc : TypeId × Value → H) :
    ReturnsInTold Option.none {} Ybaf.checked os 3 .any Input.okWide ((OpenSpec.ofChange Rows.lawS0874BGateSpec).preRow enc Ybaf.prog Ybaf.f3 [] false []) (fun F => ((OpenSpec.ofChange Rows.lawS0874BGateSpec).at F).post enc Ybaf.prog Ybaf.f3 false true false false) (aloneAtReturn Ybaf.prog) nothingAlways := by
  refine returnsInTold_of_row (C := Ybaf.checked) (s := OpenSpec.ofChange Rows.lawS0874BGateSpec) (by kernel_rfl) own3 started (by kernel_rfl) Ybaf.func3
    (OpenSpec.witness_stopped (enc := enc) (C := Ybaf.checked) false ⟨#[], #[.int .i64 1, .int .i64 1, .int .i64 0, .string ⟨#[]⟩], []⟩ 8 (by kernel_rfl) (by kernel_rfl) (by kernel_rfl) (by kernel_rfl)) ?_
  intro F W base args ds gs before _ hF hval0 hW _ _ _ _ _
  have hval : ∀ (j : Nat) t v, Ybaf.f3.params[j]? = some t → args[j]? = some v → Value.okWide Ybaf.prog W .any base t v := hval0
  have hW' := hW
  obtain ⟨p, q, hA0, hV, rfl, hfz, hnd⟩ := hW
  have hA : DataW.TrodAll enc Ybaf.prog W 0 (fun _ => true) true Ybaf.f3.params.toList args.toList ds p := hA0
  rw [Ybaf.params3] at hA hval
  obtain ⟨v0, v1, v2, v3, d0, d1, d2, d3, p0, p1, p2, p3, rfl, rfl, rfl, h0, h1, h2, h3⟩ := trodAll_four hA
  obtain ⟨rfl, rfl⟩ := trodVars_none hV
  obtain ⟨nl, rfl, rfl, rfl, w0⟩ := open_int Ybaf.underlying3 (hval 0 3 v0 rfl rfl) h0
  obtain ⟨dl, rfl, rfl, rfl, w1⟩ := open_int Ybaf.underlying3 (hval 1 3 v1 rfl rfl) h1
  obtain ⟨n, rfl, rfl, rfl, w2⟩ := open_int Ybaf.underlying3 (hval 2 3 v2 rfl rfl) h2
  obtain ⟨s, rfl, rfl, rfl, w3⟩ := open_string Ybaf.underlying9 (hval 3 9 v3 rfl rfl) h3
  clear hA0 hval0
  refine (gate_any nl dl n s W).mono fun e W' ⟨he, hb⟩ => ?_
  subst he
  refine ⟨_, rfl, _, _, _, [], [], [], hW', ?_, ?_, rfl, hb.frame _, fun h => by cases h⟩
  · exact trodAll_mk1 (shut_bool Ybaf.underlying4 true)
  · exact trodAll_mk4 (shut_int Ybaf.underlying3 w0) (shut_int Ybaf.underlying3 w1) (shut_int Ybaf.underlying3 w2) (shut_string Ybaf.underlying9 w3)

theorem holds3 : Rows.LawS0874BGateToldSaid :=
  Claim7.holds_of_told_any (c := Rows.lawS0874BGateRow) 3 Ybaf.f3 _ [] [] _ _ _ (by kernel_rfl) rfl rfl rfl laidOut3 (by kernel_rfl) rfl ⟨rfl, rfl, rfl, rfl, rfl, rfl, rfl⟩ rfl rfl (by kernel_rfl) (by kernel_rfl) Ybaf.func3 (by kernel_rfl)
    (of_decide_eq_true (by kernel_rfl)) (of_decide_eq_true (by kernel_rfl)) stops3.symm rfl stopKnobs3.symm (by kernel_rfl)
    (by kernel_rfl) (by kernel_rfl) (by kernel_rfl) (by kernel_rfl) (by kernel_rfl) (by kernel_rfl) (by kernel_rfl) (by kernel_rfl) (by kernel_rfl) rfl (by kernel_rfl) rfl rfl
    rfl rfl
    rfl (by kernel_rfl) (by kernel_rfl) (by kernel_rfl) (by decide) (by kernel_rfl)
    (OpenClaim.moreEntering_of (by kernel_rfl) (by kernel_rfl) (by kernel_rfl) (by kernel_rfl) (by kernel_rfl) (by kernel_rfl) (by kernel_rfl) (by kernel_rfl) (by kernel_rfl) (by kernel_rfl))
    ⟨_, WideRow.started_initial, quiet3 _⟩
    (fun os started _ H enc _ => lifted3 os started H enc)

end Go.Proofs.YbulkrbqFmt
