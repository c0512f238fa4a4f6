import Derived.Test.YbulkrbqFmtHeader
import Derived.WideLaws
namespace Go.Proofs.YbulkrbqFmt
open Go.RowKit

theorem St.start (W : World) (nl dl ln : Int) : St W nl dl ln 0 (.slice none 0 0) [] (W.alloc (.cells (asmCells nl dl (.slice none 0 0)) 31)) :=
  ⟨(Below.refl _ _).alloc (Nat.le_refl _) _, heap_alloc_new W _, rfl, Or.inl ⟨rfl, rfl⟩⟩

theorem Ybaf.held34 : Ybaf.prog.underlying 34 = some (.interface (Ybaf.prog.methodsAt 34)) := by kernel_rfl

set_option maxRecDepth 100000 in
set_option maxHeartbeats 2000000 in
theorem gate_any (nl dl n : Int) (s : ByteArray) (w : World) :
    Calls Ybaf.prog 3 #[.int .i64 nl, .int .i64 dl, .int .i64 n, .string s] w fun e w' => e = .returned (.bool true) ∧ Below w.heap.size w w' := by
  have hnn := fun (w : World) => run_eql_nil_nil (P := Ybaf.prog) w 34 Ybaf.held34
  have hhn := fun (w : World) (u : TypeId) (x : Value) => run_eql_held_nil (P := Ybaf.prog) w 34 u x Ybaf.held34
  by_cases h1 : nl = 0
  · by_cases h2 : dl = 0
    · have hm : Hid (missing nl dl = 2) := by simp [missing, h1, h2, Hid]
      have b1 : (nl == 0) = true := by simp [h1]
      have b2 : (dl == 0) = true := by simp [h2]
      have c1 : (nl != 0) = false := by simp [h1]
      have c2 : (dl != 0) = false := by simp [h2]
      clear h1 h2
      go_enter Ybaf.func3, Ybaf.ntmps3
      go_wp2_with fail
      refine (header_any w nl dl n s (.slice none 0 0) 0 [] _ (by exact St.start w nl dl n) (by omega)).mono ?_
      rintro e w1 ⟨rfl, ov1, ts1, hst1⟩
      rw [hm.out] at hst1
      have HS1 : Hid (St w nl dl n 2 ov1 ts1 w1) := hst1
      have c3 : w1.cell? ⟨w.heap.size, 3, none⟩ = some (.string ⟨#[]⟩) := (hst1.cell 3).trans rfl
      have c4 : w1.cell? ⟨w.heap.size, 4, none⟩ = some (.string ⟨#[]⟩) := (hst1.cell 4).trans rfl
      have c5 : w1.cell? ⟨w.heap.size, 5, none⟩ = some (.slice none 0 0) := (hst1.cell 5).trans rfl
      have c6 : w1.cell? ⟨w.heap.size, 6, none⟩ = some (.int .i64 nl) := (hst1.cell 6).trans rfl
      have c7 : w1.cell? ⟨w.heap.size, 7, none⟩ = some (.int .i64 dl) := (hst1.cell 7).trans rfl
      have c8 : w1.cell? ⟨w.heap.size, 8, none⟩ = some (.int .i64 0) := (hst1.cell 8).trans rfl
      have c9 : w1.cell? ⟨w.heap.size, 9, none⟩ = some (.int .i64 0) := (hst1.cell 9).trans rfl
      clear hst1
      go_wp2_with fail
      refine (finish_some w nl dl n 2 ov1 ts1 w1 HS1.out (by omega) (by omega)).mono ?_
      rintro e w2 ⟨a, rfl, hb2⟩
      go_wp2
      go_ret
      exact ⟨by simp, hb2⟩
    · have hm : Hid (missing nl dl = 1) := by simp [missing, h1, h2, Hid]
      have b1 : (nl == 0) = true := by simp [h1]
      have b2 : (dl == 0) = false := by simp [h2]
      have c1 : (nl != 0) = false := by simp [h1]
      have c2 : (dl != 0) = true := by simp [h2]
      clear h1 h2
      go_enter Ybaf.func3, Ybaf.ntmps3
      go_wp2_with fail
      refine (header_any w nl dl n s (.slice none 0 0) 0 [] _ (by exact St.start w nl dl n) (by omega)).mono ?_
      rintro e w1 ⟨rfl, ov1, ts1, hst1⟩
      rw [hm.out] at hst1
      have HS1 : Hid (St w nl dl n 1 ov1 ts1 w1) := hst1
      have c3 : w1.cell? ⟨w.heap.size, 3, none⟩ = some (.string ⟨#[]⟩) := (hst1.cell 3).trans rfl
      have c4 : w1.cell? ⟨w.heap.size, 4, none⟩ = some (.string ⟨#[]⟩) := (hst1.cell 4).trans rfl
      have c5 : w1.cell? ⟨w.heap.size, 5, none⟩ = some (.slice none 0 0) := (hst1.cell 5).trans rfl
      have c6 : w1.cell? ⟨w.heap.size, 6, none⟩ = some (.int .i64 nl) := (hst1.cell 6).trans rfl
      have c7 : w1.cell? ⟨w.heap.size, 7, none⟩ = some (.int .i64 dl) := (hst1.cell 7).trans rfl
      have c8 : w1.cell? ⟨w.heap.size, 8, none⟩ = some (.int .i64 0) := (hst1.cell 8).trans rfl
      have c9 : w1.cell? ⟨w.heap.size, 9, none⟩ = some (.int .i64 0) := (hst1.cell 9).trans rfl
      clear hst1
      go_wp2_with fail
      refine (finish_some w nl dl n 1 ov1 ts1 w1 HS1.out (by omega) (by omega)).mono ?_
      rintro e w2 ⟨a, rfl, hb2⟩
      go_wp2
      go_ret
      exact ⟨by simp, hb2⟩
  · by_cases h2 : dl = 0
    · have hm : Hid (missing nl dl = 1) := by simp [missing, h1, h2, Hid]
      have b1 : (nl == 0) = false := by simp [h1]
      have b2 : (dl == 0) = true := by simp [h2]
      have c1 : (nl != 0) = true := by simp [h1]
      have c2 : (dl != 0) = false := by simp [h2]
      clear h1 h2
      go_enter Ybaf.func3, Ybaf.ntmps3
      go_wp2_with fail
      refine (header_any w nl dl n s (.slice none 0 0) 0 [] _ (by exact St.start w nl dl n) (by omega)).mono ?_
      rintro e w1 ⟨rfl, ov1, ts1, hst1⟩
      rw [hm.out] at hst1
      have HS1 : Hid (St w nl dl n 1 ov1 ts1 w1) := hst1
      have c3 : w1.cell? ⟨w.heap.size, 3, none⟩ = some (.string ⟨#[]⟩) := (hst1.cell 3).trans rfl
      have c4 : w1.cell? ⟨w.heap.size, 4, none⟩ = some (.string ⟨#[]⟩) := (hst1.cell 4).trans rfl
      have c5 : w1.cell? ⟨w.heap.size, 5, none⟩ = some (.slice none 0 0) := (hst1.cell 5).trans rfl
      have c6 : w1.cell? ⟨w.heap.size, 6, none⟩ = some (.int .i64 nl) := (hst1.cell 6).trans rfl
      have c7 : w1.cell? ⟨w.heap.size, 7, none⟩ = some (.int .i64 dl) := (hst1.cell 7).trans rfl
      have c8 : w1.cell? ⟨w.heap.size, 8, none⟩ = some (.int .i64 0) := (hst1.cell 8).trans rfl
      have c9 : w1.cell? ⟨w.heap.size, 9, none⟩ = some (.int .i64 0) := (hst1.cell 9).trans rfl
      clear hst1
      go_wp2_with fail
      refine (finish_some w nl dl n 1 ov1 ts1 w1 HS1.out (by omega) (by omega)).mono ?_
      rintro e w2 ⟨a, rfl, hb2⟩
      go_wp2
      go_ret
      exact ⟨by simp, hb2⟩
    · have hm : Hid (missing nl dl = 0) := by simp [missing, h1, h2, Hid]
      have b1 : (nl == 0) = false := by simp [h1]
      have b2 : (dl == 0) = false := by simp [h2]
      have c1 : (nl != 0) = true := by simp [h1]
      have c2 : (dl != 0) = true := by simp [h2]
      clear h1 h2
      go_enter Ybaf.func3, Ybaf.ntmps3
      go_wp2_with fail
      refine (header_any w nl dl n s (.slice none 0 0) 0 [] _ (by exact St.start w nl dl n) (by omega)).mono ?_
      rintro e w1 ⟨rfl, ov1, ts1, hst1⟩
      rw [hm.out] at hst1
      have HS1 : Hid (St w nl dl n 0 ov1 ts1 w1) := hst1
      have c3 : w1.cell? ⟨w.heap.size, 3, none⟩ = some (.string ⟨#[]⟩) := (hst1.cell 3).trans rfl
      have c4 : w1.cell? ⟨w.heap.size, 4, none⟩ = some (.string ⟨#[]⟩) := (hst1.cell 4).trans rfl
      have c5 : w1.cell? ⟨w.heap.size, 5, none⟩ = some (.slice none 0 0) := (hst1.cell 5).trans rfl
      have c6 : w1.cell? ⟨w.heap.size, 6, none⟩ = some (.int .i64 nl) := (hst1.cell 6).trans rfl
      have c7 : w1.cell? ⟨w.heap.size, 7, none⟩ = some (.int .i64 dl) := (hst1.cell 7).trans rfl
      have c8 : w1.cell? ⟨w.heap.size, 8, none⟩ = some (.int .i64 0) := (hst1.cell 8).trans rfl
      have c9 : w1.cell? ⟨w.heap.size, 9, none⟩ = some (.int .i64 0) := (hst1.cell 9).trans rfl
      clear hst1
      go_wp2_with fail
      refine (finish_none w nl dl n ov1 ts1 w1 HS1.out).mono ?_
      rintro e w2 ⟨rfl, hb2⟩
      go_wp2
      go_ret
      exact ⟨by simp, hb2⟩
end Go.Proofs.YbulkrbqFmt
