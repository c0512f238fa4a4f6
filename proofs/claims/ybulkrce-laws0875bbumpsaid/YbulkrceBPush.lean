import Derived.Test.YbulkrceBBuild
namespace Go.Proofs.Ybulkrce
open Go.RowKit
set_option linter.unusedVariables false

/-- A store of a float: the kit's law for the other kinds, at this one. -/
theorem run_store_floatB {P : Program} (w : World) (a : Addr) (m : Mode) (k : FloatKind) (b : Nat) : (store a (.float k b) m).run P w = stored P w a (.float k b) m := run_store P w a _ m rfl
attribute [local go_sem] run_store_floatB

theorem Yba.info51 : (Yba.prog.info? 51).map (fun i => (i.zero, i.size, i.bytes)) = some (some (.float .f64 0), 1, 8) := by kernel_rfl
theorem fb_zero : fb 0 = 0 := by decide

theorem Yba.make50 (n : Nat) (hn : n ≤ 2000) (w : World) : (Instr.makeSlice 50 (.int .i64 n) (.int .i64 n)).run Yba.prog w = .ok (.slice (some ⟨w.heap.size, 0, none⟩) n n) (w.alloc (.cells (flRow n fun _ => 0) 51)) := by
  obtain ⟨i0, hi0, hz0, hz1, hz2⟩ := info_parts Yba.info51
  have h := run_make (P := Yba.prog) w 50 51 i0 _ Yba.underlying50 hi0 hz0 .i64 .i64 (n : Int) (n : Int) (by omega) (by omega) (by rw [hz2]; omega) (by omega)
  rw [h, hz1]
  have e : madeCells (Value.cells (.float .f64 0)) ((n : Int).toNat * 1) = flRow n fun _ => 0 := by
    apply Array.ext'
    have := toList_madeCells_one (.float .f64 0) n
    simp only [Int.toNat_natCast, Nat.mul_one, Value.cells]
    rw [this]
    apply List.ext_getElem?
    intro j
    by_cases hj : j < n <;> simp [flRow, hj, fb_zero]
  rw [e]
  simp

/-- The first k activities. -/
def actF (zs : List Int) (k : Nat) : Nat → Int := fun j => if j < k then zs.getD j 0 else 0
theorem actF_zero (zs : List Int) : actF zs 0 = fun _ => 0 := by funext j; simp [actF]
theorem actF_succ (zs : List Int) (k : Nat) : (fun j => if j = k then zs.getD k 0 else actF zs k j) = actF zs (k + 1) := by
  funext j
  by_cases h : j = k
  · subst h; simp [actF]
  · by_cases h2 : j < k
    · simp [actF, h, h2, show j < k + 1 by omega]
    · simp [actF, h, h2, show ¬ j < k + 1 by omega]

/-- A heap but at its last place. -/
theorem heapBut_last {a : Nat → Int} {len : Nat} {p : Nat → Nat} (h : SortedTo a len p) : HeapBut a (len + 1) p len :=
  ⟨fun k k0 hk hne => h _ _ (by omega) (by omega), fun _ k k0 hk hp => by omega⟩

set_option maxRecDepth 100000 in
set_option maxHeartbeats 4000000 in
theorem push_any (ra : Option Addr) (rb ro len rc : Nat) (zs : List Int) (x : Int) (w : World) (hlen : len ≤ 1024) (hzl : zs.length = len) (hra : 0 < len → ra = some ⟨rb, ro, none⟩) (hrb : 0 < len → rb < w.heap.size)
    (hc : ∀ j, j < len → w.cell? ⟨rb, ro + j, none⟩ = some (.int .i16 (zs.getD j 0))) (hbz : ∀ j, -32768 ≤ zs.getD j 0 ∧ zs.getD j 0 ≤ 32767) (hx0 : -32768 ≤ x) (hx1 : x ≤ 32767) :
    Calls Yba.prog 5 #[.slice ra len rc, .int .i16 x] w fun e w' => e = .returned (.bool true) ∧ Below w.heap.size w w' := by
  have hmf := Yba.make50 (len + 1) (by omega)
  have hmi := Yba.make23 (len + 1) (by omega)
  rw [show ((len + 1 : Nat) : Int) = (len : Int) + 1 by omega] at hmf hmi
  have hfb : ∀ z : Int, floatOfInt FloatKind.f64 z = fb z := fun _ => rfl
  have hl1 : ¬ (1024 : Int) < (len : Int) := by omega
  have hl2 : (len : Int) ≤ 1024 := by omega
  have RA := hidB hra
  have RB := hidB hrb
  have RC := hidB hc
  have BZ := hidB hbz
  clear hra hrb hc hbz
  go_enter Yba.func5, Yba.ntmps5
  go_wp2_with fail
  go_loopw [7] (fun s wr => ∃ (k : Nat), k ≤ len ∧ s = .int .i64 k ∧ wr.heap.size = w.heap.size + 1 ∧ Below w.heap.size w wr ∧ wr.heap[w.heap.size]? = some (.cells (flRow (len + 1) (actF zs k)) 51 (0, 0))) (fun s _ => len - (intOf s).toNat)
  case atStart => exact ⟨0, by omega, rfl, by simp, (Below.refl _ _).alloc (Nat.le_refl _) _, by rw [actF_zero]; exact heap_alloc_new _ _⟩
  case round =>
    obtain ⟨k, hk, rfl, hz, hB, hA⟩ := hrel
    by_cases hkl : k < len
    · have hra := RA.out (by omega)
      subst hra
      have cr : wr.cell? ⟨rb, ro + k, none⟩ = some (.int .i16 (zs.getD k 0)) := by
        rw [hB.cell (p := ⟨rb, ro + k, none⟩) (RB.out (by omega))]; exact RC.out k hkl
      have ca : wr.cell? ⟨w.heap.size, k, none⟩ = some (.float .f64 (fb (actF zs k k))) := (cellB hA).trans (flRow_get _ _ k (by omega))
      have fa : wr.frozen? ⟨w.heap.size, k, none⟩ = false := freeB hA
      have k0 : (0 : Int) ≤ (k : Int) := by omega
      have k1 : (k : Int) < (len : Int) := by omega
      have k2 : (k : Int) < ((len + 1 : Nat) : Int) := by omega
      have hA2 := setB_same wr w.heap.size k _ 51 (.float .f64 (fb (zs.getD k 0))) hA
      rw [flRow_set, actF_succ] at hA2
      have HD := hidB (show _ ∧ _ ∧ _ from ⟨hz, hB.setCell (p := ⟨w.heap.size, k, none⟩) (Nat.le_refl _) (.float .f64 (fb (zs.getD k 0))), hA2⟩)
      clear hz hB hA hA2
      generalize fb (actF zs k k) = ov at *
      generalize zs.getD k 0 = z at *
      go_wp2
      go_roundw
      case rel => exact ⟨k + 1, by omega, by go_num, by simpa using HD.out.1, HD.out.2⟩
      case measure => simp [intOf]; omega
    · have ek : k = len := by omega
      subst ek
      have cl : wr.cell? ⟨w.heap.size, k, none⟩ = some (.float .f64 (fb (actF zs k k))) := (cellB hA).trans (flRow_get _ _ k (by omega))
      have fl : wr.frozen? ⟨w.heap.size, k, none⟩ = false := freeB hA
      have hA2 := setB_same wr w.heap.size k _ 51 (.float .f64 (fb x)) hA
      rw [flRow_set] at hA2
      have hB2 := hB.setCell (p := ⟨w.heap.size, k, none⟩) (Nat.le_refl _) (.float .f64 (fb x))
      generalize ha : (fun j => if j = k then x else actF zs k j) = a at *
      have hba : ∀ j, (a j).natAbs < 1048576 := fun j => by
        rw [← ha]
        show (if j = k then x else actF zs k j).natAbs < _
        unfold actF
        split
        · omega
        · split
          · have := BZ.out j; omega
          · decide
      have hh := heap_any w (k + 1) k a (wr.setCell ⟨w.heap.size, k, none⟩ (.float .f64 (fb x))) (by omega) (by omega) hba hB2 (by simpa using hz) hA2
      have HHP := hidB hh
      have HBA := hidB hba
      have k0 : (0 : Int) ≤ (k : Int) := by omega
      have k2 : (k : Int) < ((k + 1 : Nat) : Int) := by omega
      clear hh hba ha hA2 hB2 hA hB hz RA RB RC BZ
      generalize fb (actF zs k k) = ov at *
      go_wp2_with fail
      refine HHP.out.mono ?_
      rintro e w1 ⟨rfl, p, t, hs, hv, hso, hz1⟩
      have o3 : w1.cell? ⟨w.heap.size + 1, 3, none⟩ = some (.slice (some ⟨w.heap.size + 2, 0, none⟩) (k + 1) (k + 1)) := (cellB hs.obj).trans rfl
      have hcp := Yba.copy_new w1 (k + 1) (w.heap.size + 2) (fun _ => 0) p hs.pr
      have hs2 := hs.keep (w' := w1.alloc (.cells (fRow (k + 1) p) 21)) ((Below.refl _ _).alloc (by omega) _)
      have hup := up_any w (k + 1) a p t k (w1.alloc (.cells (fRow (k + 1) p) 21)) (by omega) (by omega) HBA.out hs2 hv
      have hbb : (w1.alloc (.cells (fRow (k + 1) p) 21)).heap[w1.heap.size]? = some (.cells (fRow (k + 1) p) 21 (0, 0)) := heap_alloc_new _ _
      have HUP := hidB hup
      have HBB := hidB (show _ ∧ _ ∧ _ ∧ _ from ⟨hbb, hv, hso, hz1⟩)
      have o3' : (w1.alloc (.cells (fRow (k + 1) fun _ => 0) 21)).cell? ⟨w.heap.size + 1, 3, none⟩ = some (.slice (some ⟨w.heap.size + 2, 0, none⟩) (k + 1) (k + 1)) := by
        rw [((Below.refl w1.heap.size w1).alloc (Nat.le_refl _) _).cell (p := ⟨w.heap.size + 1, 3, none⟩) (by simp; omega)]; exact o3
      clear hs hs2 hup hbb hv hso hz1 HHP
      go_wp2_with fail
      refine HUP.out.mono ?_
      rintro e w2 ⟨rfl, T, t2, hmv, hstp, hv2, hs3, hsm⟩
      obtain ⟨hbb, hv, hso, hz1⟩ := HBB.out
      have hck := check_any w (k + 1) a p t2 k T w1.heap.size w2 (by omega) (by omega) HBA.out hv.1 hs3 hmv hstp hv2 (heap_end (by omega) (heapBut_last hso) hmv hstp) (by rw [hsm _ (by omega)]; exact hbb)
      have HCK := hidB hck
      clear hck hbb hv hso hz1 hmv hstp hv2 hs3 hsm HBB HUP hcp o3 o3'
      go_wp2_with fail
      refine HCK.out.mono ?_
      rintro e w3 ⟨rfl, hbel⟩
      go_wp2
      go_ret
      exact ⟨by simp, hbel⟩
end Go.Proofs.Ybulkrce
