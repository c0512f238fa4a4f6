import Derived.Test.YbulkrceRows
import Derived.WalkKit
import Derived.WalkSpells
import Derived.WalkLawsBesides
import Derived.Deep.QuietTactic
import Derived.BigQuiet
namespace Go.Proofs.Ybulkrce
open Go.RowKit

/-- Whether the base keeps the reads-from edge into r. -/
def keepsB (ext : Bool) (src thr : List Int) (r : Nat) : Bool :=
  if ext then decide (0 ≤ src.getD r 0) && (thr.getD (src.getD r 0).toNat 0 != thr.getD r 0) else src.getD r 0 != -2

set_option maxRecDepth 100000 in
set_option maxHeartbeats 1000000 in
theorem keeps_any (B Hh sb tb sc tc : Nat) (ext : Bool) (src thr : List Int) (r : Nat) (w : World) (hr : r < 8)
    (hB0 : w.cell? ⟨B, 0, none⟩ = some (.pointer (some ⟨Hh, 0, none⟩))) (hB17 : w.cell? ⟨B, 17, none⟩ = some (.bool ext))
    (hS : w.cell? ⟨Hh, 9, none⟩ = some (.slice (some ⟨sb, 0, none⟩) 8 sc)) (hT : w.cell? ⟨Hh, 3, none⟩ = some (.slice (some ⟨tb, 0, none⟩) 8 tc))
    (hs : ∀ j, j < 8 → w.cell? ⟨sb, j, none⟩ = some (.int .i64 (src.getD j 0))) (ht : ∀ j, j < 8 → w.cell? ⟨tb, j, none⟩ = some (.int .i64 (thr.getD j 0)))
    (hb : src.getD r 0 ≤ 7) :
    Calls Yba.prog 23 #[.pointer (some ⟨B, 0, none⟩), .int .i64 r] w fun e w' => e = .returned (.bool (keepsB ext src thr r)) ∧ ∃ n, w' = w.drewN n := by
  have hsr := hs r hr
  have htr := ht r hr
  have r1 : (r : Int) < 8 := by omega
  have r0 : (0 : Int) ≤ (r : Int) := by omega
  cases ext with
  | false =>
    have HK : Hid (keepsB false src thr r = (src.getD r 0 != -2)) := by simp [keepsB, Hid]
    generalize src.getD r 0 = s at *
    generalize thr.getD r 0 = t at *
    clear hs ht
    go_enter Yba.func23, Yba.ntmps23
    go_wp2_with fail
    go_quiet (fail)
    go_wp2
    go_ret
    exact ⟨by rw [HK.out]; simp, _, rfl⟩
  | true =>
    by_cases h0 : 0 ≤ src.getD r 0
    · obtain ⟨q, hq⟩ := Int.eq_ofNat_of_zero_le h0
      have htq := ht q (by omega)
      have HK : Hid (keepsB true src thr r = (thr.getD q 0 != thr.getD r 0)) := by
        have e : src.getD r 0 = (q : Int) := hq
        simp only [keepsB, Hid, if_true, e, Int.toNat_natCast]; simp
      rw [hq] at hsr hb
      generalize thr.getD r 0 = t at *
      generalize thr.getD q 0 = t2 at *
      clear hs ht hq h0
      have q0 : (0 : Int) ≤ (q : Int) := by omega
      have q1 : (q : Int) < 8 := by omega
      go_enter Yba.func23, Yba.ntmps23
      go_wp2_with fail
      go_quiet (fail)
      go_wp2
      go_quiet (fail)
      go_wp2
      go_ret
      exact ⟨by rw [HK.out]; simp, _, World.drewN_drewN ..⟩
    · have HK : Hid (keepsB true src thr r = false) := by simp only [keepsB, Hid, if_true, decide_eq_false h0, Bool.false_and]
      have hd : decide (0 ≤ src.getD r 0) = false := by simpa using h0
      generalize src.getD r 0 = s at *
      generalize thr.getD r 0 = t at *
      clear hs ht
      go_enter Yba.func23, Yba.ntmps23
      go_wp2_with fail
      go_quiet (fail)
      go_wp2
      go_quiet (fail)
      go_wp2
      go_ret
      exact ⟨by rw [HK.out]; simp, _, World.drewN_drewN ..⟩

set_option maxRecDepth 100000 in
set_option maxHeartbeats 1000000 in
theorem ckeeps_any (sb tb sc tc : Nat) (ext : Bool) (src thr : List Int) (r : Nat) (w : World) (hr : r < 8)
    (hs : ∀ j, j < 8 → w.cell? ⟨sb, j, none⟩ = some (.int .i64 (src.getD j 0))) (ht : ∀ j, j < 8 → w.cell? ⟨tb, j, none⟩ = some (.int .i64 (thr.getD j 0)))
    (hb : src.getD r 0 ≤ 7) :
    Calls Yba.prog 15 #[.bool ext, .slice (some ⟨sb, 0, none⟩) 8 sc, .slice (some ⟨tb, 0, none⟩) 8 tc, .int .i64 r] w fun e w' => e = .returned (.bool (keepsB ext src thr r)) ∧ ∃ n, w' = w.drewN n := by
  have hsr := hs r hr
  have htr := ht r hr
  have r1 : (r : Int) < 8 := by omega
  have r0 : (0 : Int) ≤ (r : Int) := by omega
  cases ext with
  | false =>
    have HK : Hid (keepsB false src thr r = (src.getD r 0 != -2)) := by simp [keepsB, Hid]
    generalize src.getD r 0 = s at *
    generalize thr.getD r 0 = t at *
    clear hs ht
    go_enter Yba.func15, Yba.ntmps15
    go_wp2
    go_ret
    exact ⟨by rw [HK.out]; simp, 0, rfl⟩
  | true =>
    by_cases h0 : 0 ≤ src.getD r 0
    · obtain ⟨q, hq⟩ := Int.eq_ofNat_of_zero_le h0
      have htq := ht q (by omega)
      have HK : Hid (keepsB true src thr r = (thr.getD q 0 != thr.getD r 0)) := by
        have e : src.getD r 0 = (q : Int) := hq
        simp only [keepsB, Hid, if_true, e, Int.toNat_natCast]; simp
      rw [hq] at hsr hb
      generalize thr.getD r 0 = t at *
      generalize thr.getD q 0 = t2 at *
      clear hs ht hq h0
      have q0 : (0 : Int) ≤ (q : Int) := by omega
      have q1 : (q : Int) < 8 := by omega
      go_enter Yba.func15, Yba.ntmps15
      go_wp2
      go_quiet (fail)
      go_wp2
      go_ret
      exact ⟨by rw [HK.out]; simp, _, rfl⟩
    · have HK : Hid (keepsB true src thr r = false) := by simp only [keepsB, Hid, if_true, decide_eq_false h0, Bool.false_and]
      have hd : decide (0 ≤ src.getD r 0) = false := by simpa using h0
      generalize src.getD r 0 = s at *
      generalize thr.getD r 0 = t at *
      clear hs ht
      go_enter Yba.func15, Yba.ntmps15
      go_wp2
      go_quiet (fail)
      go_wp2
      go_ret
      exact ⟨by rw [HK.out]; simp, _, rfl⟩
end Go.Proofs.Ybulkrce
