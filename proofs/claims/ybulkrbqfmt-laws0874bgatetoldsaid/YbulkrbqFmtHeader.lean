import Derived.Test.YbulkrbqFmtFinish
namespace Go.Proofs
open Go.Extern
/-- "no .description %s: a champion needs a description" -/
def Ybaf.fmtD : ByteArray := ⟨#[110, 111, 32, 46, 100, 101, 115, 99, 114, 105, 112, 116, 105, 111, 110, 32, 37, 115, 58, 32, 97, 32, 99, 104, 97, 109, 112, 105, 111, 110, 32, 110, 101, 101, 100, 115, 32, 97, 32, 100, 101, 115, 99, 114, 105, 112, 116, 105, 111, 110]⟩
theorem Ybaf.fmtD_printed : FmtStop.printed? Ybaf.fmtD 1 = some [(0, 115, false)] := by kernel_rfl
end Go.Proofs
namespace Go.Proofs.YbulkrbqFmt
open Go.RowKit

/-- How many errors one checkHeader records. -/
def missing (nl dl : Int) : Nat := (if nl = 0 then 1 else 0) + (if dl = 0 then 1 else 0)

theorem fmtN_lit : Ybaf.fmtN = ⟨#[110, 111, 32, 46, 110, 97, 109, 101, 32, 37, 115, 58, 32, 97, 32, 99, 104, 97, 109, 112, 105, 111, 110, 32, 110, 101, 101, 100, 115, 32, 97, 32, 110, 97, 109, 101]⟩ := rfl

set_option maxRecDepth 100000 in
set_option maxHeartbeats 1000000 in
theorem header_any (W : World) (nl dl ln : Int) (s : ByteArray) (ov : Value) (k : Nat) (ts : List ByteArray) (w : World) (hst : St W nl dl ln k ov ts w) (hk : k ≤ 50) :
    Calls Ybaf.prog 5 #[.pointer (some ⟨W.heap.size, 0, none⟩), .int .i64 ln, .string s] w fun e w' => e = .returned (.tuple #[]) ∧ ∃ ov' ts', St W nl dl ln (k + missing nl dl) ov' ts' w' := by
  have hN : w.cell? ⟨W.heap.size, 6, none⟩ = some (.int .i64 nl) := (hst.cell 6).trans rfl
  have hD : w.cell? ⟨W.heap.size, 7, none⟩ = some (.int .i64 dl) := (hst.cell 7).trans rfl
  have HS : Hid (St W nl dl ln k ov ts w) := hst
  have hlt := hst.lt
  clear hst
  by_cases h1 : nl = 0
  · by_cases h2 : dl = 0
    · have hm : Hid (missing nl dl = 2) := by simp [missing, h1, h2, Hid]
      have b1 : (nl == 0) = true := by simp [h1]
      have b2 : (dl == 0) = true := by simp [h2]
      clear h1 h2
      go_enter Ybaf.func5, Ybaf.ntmps5
      go_wp2_with fail
      refine (errorf_any W nl dl w.heap.size ln Ybaf.fmtN s ov k ts _ Ybaf.fmtN_printed (HS.out.alloc _) (by omega) ?_).mono ?_
      · simp
      rintro e w1 ⟨rfl, ov1, ts1, hst1⟩
      have hD1 : w1.cell? ⟨W.heap.size, 7, none⟩ = some (.int .i64 dl) := (hst1.cell 7).trans rfl
      have HS1 : Hid (St W nl dl ln (k + 1) ov1 ts1 w1) := hst1
      have hlt1 := hst1.lt
      clear hst1
      go_wp2_with fail
      refine (errorf_any W nl dl w1.heap.size ln Ybaf.fmtD s ov1 (k + 1) ts1 _ Ybaf.fmtD_printed (HS1.out.alloc _) (by omega) ?_).mono ?_
      · simp
      rintro e w2 ⟨rfl, ov2, ts2, hst2⟩
      have HS2 : Hid (St W nl dl ln (k + 2) ov2 ts2 w2) := hst2
      clear hst2
      go_wp2
      go_end0
      exact ⟨rfl, ov2, ts2, by rw [hm.out]; exact HS2.out⟩
    · have hm : Hid (missing nl dl = 1) := by simp [missing, h1, h2, Hid]
      have b1 : (nl == 0) = true := by simp [h1]
      have b2 : (dl == 0) = false := by simp [h2]
      clear h1 h2
      go_enter Ybaf.func5, Ybaf.ntmps5
      go_wp2_with fail
      refine (errorf_any W nl dl w.heap.size ln Ybaf.fmtN s ov k ts _ Ybaf.fmtN_printed (HS.out.alloc _) (by omega) ?_).mono ?_
      · simp
      rintro e w1 ⟨rfl, ov1, ts1, hst1⟩
      have hD1 : w1.cell? ⟨W.heap.size, 7, none⟩ = some (.int .i64 dl) := (hst1.cell 7).trans rfl
      have HS1 : Hid (St W nl dl ln (k + 1) ov1 ts1 w1) := hst1
      clear hst1
      go_wp2
      go_end0
      exact ⟨rfl, ov1, ts1, by rw [hm.out]; exact HS1.out⟩
  · by_cases h2 : dl = 0
    · have hm : Hid (missing nl dl = 1) := by simp [missing, h1, h2, Hid]
      have b1 : (nl == 0) = false := by simp [h1]
      have b2 : (dl == 0) = true := by simp [h2]
      clear h1 h2
      go_enter Ybaf.func5, Ybaf.ntmps5
      go_wp2_with fail
      refine (errorf_any W nl dl w.heap.size ln Ybaf.fmtD s ov k ts _ Ybaf.fmtD_printed (HS.out.alloc _) (by omega) ?_).mono ?_
      · simp
      rintro e w2 ⟨rfl, ov2, ts2, hst2⟩
      have HS2 : Hid (St W nl dl ln (k + 1) ov2 ts2 w2) := hst2
      clear hst2
      go_wp2
      go_end0
      exact ⟨rfl, ov2, ts2, by rw [hm.out]; exact HS2.out⟩
    · have hm : Hid (missing nl dl = 0) := by simp [missing, h1, h2, Hid]
      have b1 : (nl == 0) = false := by simp [h1]
      have b2 : (dl == 0) = false := by simp [h2]
      clear h1 h2
      go_enter Ybaf.func5, Ybaf.ntmps5
      go_wp2
      go_end0
      exact ⟨rfl, ov, ts, by rw [hm.out]; exact HS.out⟩
end Go.Proofs.YbulkrbqFmt
