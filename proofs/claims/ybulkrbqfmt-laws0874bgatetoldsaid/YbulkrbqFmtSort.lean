import Derived.Test.YbulkrbqFmtErrorf
import Derived.Deep.RegionHeld3
namespace Go.Proofs.YbulkrbqFmt
open Go.RowKit

set_option maxHeartbeats 400000 in
theorem cmp_any (a : Int) (s t : ByteArray) (w : World) :
    Calls Ybaf.prog 9 #[.agg #[.int .i64 a, .string s], .agg #[.int .i64 a, .string t]] w fun e w' => e = .returned (.int .i64 0) ∧ Below w.heap.size w w' := by
  go_enter Ybaf.func9, Ybaf.ntmps9
  go_wp2
  go_ret
  refine ⟨by simp, ?_⟩
  exact ((Below.refl _ _).alloc (Nat.le_refl _) _).alloc (by simp) _

set_option maxRecDepth 100000 in
set_option maxHeartbeats 1000000 in
theorem insertion_any (g k cap : Nat) (ln : Int) (ts : List ByteArray) (w : World) (hk : k ≤ 100) (hl : ts.length = k)
    (hg : g < w.heap.size)
    (hc0 : ∀ j, j < k → w.cell? ⟨g, j * 2, none⟩ = some (.int .i64 ln)) (hc1 : ∀ j, j < k → w.cell? ⟨g, j * 2 + 1, none⟩ = some (.string (ts.getD j ⟨#[]⟩))) :
    Calls Ybaf.prog 12 #[.slice (some ⟨g, 0, none⟩) k cap, .int .i64 0, .int .i64 k, .func (.func 9) #[] #[]] w fun e w' => e = .returned (.tuple #[]) ∧ Below w.heap.size w w' := by
  go_enter Ybaf.func12, Ybaf.ntmps12
  go_wp2
  go_loopw [8] (fun i wr => ∃ m : Nat, 1 ≤ m ∧ (m ≤ k ∨ m = 1) ∧ i = .int .i64 m ∧ Below w.heap.size w wr) (fun i _ => k - (intOf i).toNat)
  case atStart => exact ⟨1, by omega, by omega, rfl, Below.refl _ _⟩
  case round =>
    obtain ⟨m, hm1, hmk, rfl, hb⟩ := hrel
    have hgr : g < wr.heap.size := Nat.lt_of_lt_of_le hg hb.size
    by_cases hlt : m < k
    · obtain ⟨q, hq⟩ : ∃ q : Nat, (m : Int) - 1 = (q : Int) := ⟨m - 1, by omega⟩
      have hm0 : (0 : Int) < (m : Int) := by omega
      have hm0n : 0 < m := by omega
      have hwq : IntKind.i64.wrap (q : Int) = (q : Int) := by simp [IntKind.wrap, IntKind.signed, IntKind.bits]; omega
      have hmk' : (m : Int) < (k : Int) := by omega
      have hq1 : (q : Int) < (k : Int) := by omega
      have hq0 : (0 : Int) ≤ (q : Int) := by omega
      have d0 : wr.cell? ⟨g, m * 2, none⟩ = some (.int .i64 ln) := by rw [hb.cell (p := ⟨g, m * 2, none⟩) hg]; exact hc0 m hlt
      have d1 : wr.cell? ⟨g, m * 2 + 1, none⟩ = some (.string (ts.getD m ⟨#[]⟩)) := by
        rw [hb.cell (p := ⟨g, m * 2 + 1, none⟩) hg]; exact hc1 m hlt
      have e0 : wr.cell? ⟨g, q * 2, none⟩ = some (.int .i64 ln) := by rw [hb.cell (p := ⟨g, q * 2, none⟩) hg]; exact hc0 q (by omega)
      have e1 : wr.cell? ⟨g, q * 2 + 1, none⟩ = some (.string (ts.getD q ⟨#[]⟩)) := by
        rw [hb.cell (p := ⟨g, q * 2 + 1, none⟩) hg]; exact hc1 q (by omega)
      generalize ts.getD m ⟨#[]⟩ = s1 at *
      generalize ts.getD q ⟨#[]⟩ = s0 at *
      clear hc0 hc1
      go_wp2
      refine wp_loop_rounds 1 ?_
      rw [rounds_succ]
      go_wp2_with fail
      go_region_held3 (fun w' => g < w'.heap.size ∧ w'.cell? ⟨g, m * 2, none⟩ = some (.int .i64 ln) ∧ w'.cell? ⟨g, m * 2 + 1, none⟩ = some (.string s1) ∧ w'.cell? ⟨g, q * 2, none⟩ = some (.int .i64 ln) ∧ w'.cell? ⟨g, q * 2 + 1, none⟩ = some (.string s0))
        (first
          | go_keep
          | (go_split_ands
             refine ⟨by have := hb'.size; simp at this; omega, ?_, ?_, ?_, ?_⟩
             · (rw [hb'.cell (p := ⟨g, m * 2, none⟩) (by simp; omega)]; exact d0)
             · (rw [hb'.cell (p := ⟨g, m * 2 + 1, none⟩) (by simp; omega)]; exact d1)
             · (rw [hb'.cell (p := ⟨g, q * 2, none⟩) (by simp; omega)]; exact e0)
             · (rw [hb'.cell (p := ⟨g, q * 2 + 1, none⟩) (by simp; omega)]; exact e1)))
        ((go_at_call 9; refine (cmp_any ln s1 s0 _).mono ?_; rintro e w' ⟨rfl, hb'⟩))
      go_wp2
      go_roundw
      case rel => exact ⟨m + 1, by omega, by omega, by go_num, hb.trans (Below.drew (Below.refl _ _) |>.trans (hb'.mono (by simp; exact hb.size)))⟩
      case measure => simp [intOf]; omega
    · go_wp2
      go_end0
      exact ⟨rfl, hb⟩
end Go.Proofs.YbulkrbqFmt
