import Derived.Test.YbulkrceBPush
import Derived.Laws.FloatArith
namespace Go.Proofs.Ybulkrce
open Go.RowKit
set_option linter.unusedVariables false
attribute [local go_sem] run_store_floatB

/-- One activity raised. -/
def raised (a : Nat → Int) (x : Nat) (d : Int) : Nat → Int := fun k => if k = x then a x + d else a k

theorem heapBut_raised {a : Nat → Int} {n i : Nat} {p t : Nat → Nat} {d : Int} (hi : i < n) (hd : 0 ≤ d) (hv : InvOk n p t) (h : SortedTo a n p) : HeapBut (raised a (p i) d) n p i := by
  have ne : ∀ k, k < n → k ≠ i → p k ≠ p i := fun k hk hne e => hne (hv.inj hk hi e)
  refine ⟨fun k k0 hk hki => ?_, fun i0 k k0 hk hp => ?_⟩
  · have h1 := h ((k - 1) / 2) k (by omega) hk
    rw [ltB_false] at h1 ⊢
    have e1 : raised a (p i) d (p k) = a (p k) := by unfold raised; rw [if_neg (ne k hk hki)]
    by_cases hpi : (k - 1) / 2 = i
    · have e2 : raised a (p i) d (p ((k - 1) / 2)) = a (p ((k - 1) / 2)) + d := by unfold raised; rw [hpi, if_pos rfl]
      rw [e1, e2]; omega
    · have e2 : raised a (p i) d (p ((k - 1) / 2)) = a (p ((k - 1) / 2)) := by unfold raised; rw [if_neg (ne _ (by omega) hpi)]
      rw [e1, e2]; exact h1
  · have h1 := h ((i - 1) / 2) k (by omega) hk
    rw [ltB_false] at h1 ⊢
    have e1 : raised a (p i) d (p k) = a (p k) := by unfold raised; rw [if_neg (ne k hk (by omega))]
    have e2 : raised a (p i) d (p ((i - 1) / 2)) = a (p ((i - 1) / 2)) := by unfold raised; rw [if_neg (ne _ (by omega) (by omega))]
    rw [e1, e2]; exact h1

set_option maxRecDepth 100000 in
set_option maxHeartbeats 4000000 in
theorem bump_any (rb ro len rc : Nat) (zs : List Int) (sel dl : Nat) (w : World) (hl0 : 0 < len) (hlen : len ≤ 1024) (hzl : zs.length = len) (hrb : rb < w.heap.size)
    (hc : ∀ j, j < len → w.cell? ⟨rb, ro + j, none⟩ = some (.int .i16 (zs.getD j 0))) (hbz : ∀ j, -32768 ≤ zs.getD j 0 ∧ zs.getD j 0 ≤ 32767) (hsel : sel ≤ 65535) (hdl : dl ≤ 65535) :
    Calls Yba.prog 6 #[.slice (some ⟨rb, ro, none⟩) len rc, .int .u16 sel, .int .u16 dl] w fun e w' => e = .returned (.bool true) ∧ Below w.heap.size w w' := by
  have hmf := Yba.make50 len (by omega)
  have hmi := Yba.make23 len (by omega)
  have hfb : ∀ z : Int, floatOfInt FloatKind.f64 z = fb z := fun _ => rfl
  have hl1 : ¬ (1024 : Int) < (len : Int) := by omega
  have hl2 : (len : Int) ≤ 1024 := by omega
  have hle : ((len : Int) == 0) = false := by simp; omega
  have hl3 : (0 : Int) < (len : Int) := by omega
  have RC := hidB hc
  have BZ := hidB hbz
  clear hc hbz
  go_enter Yba.func6, Yba.ntmps6
  go_wp2_with fail
  go_loopw [9] (fun s wr => ∃ (k : Nat), k ≤ len ∧ s = .int .i64 k ∧ wr.heap.size = w.heap.size + 1 ∧ Below w.heap.size w wr ∧ wr.heap[w.heap.size]? = some (.cells (flRow len (actF zs k)) 51 (0, 0))) (fun s _ => len - (intOf s).toNat)
  case atStart => exact ⟨0, by omega, rfl, by simp, (Below.refl _ _).alloc (Nat.le_refl _) _, by rw [actF_zero]; exact heap_alloc_new _ _⟩
  case round =>
    obtain ⟨k, hk, rfl, hz, hB, hA⟩ := hrel
    by_cases hkl : k < len
    · have cr : wr.cell? ⟨rb, ro + k, none⟩ = some (.int .i16 (zs.getD k 0)) := by
        rw [hB.cell (p := ⟨rb, ro + k, none⟩) hrb]; exact RC.out k hkl
      have ca : wr.cell? ⟨w.heap.size, k, none⟩ = some (.float .f64 (fb (actF zs k k))) := (cellB hA).trans (flRow_get _ _ k (by omega))
      have fa : wr.frozen? ⟨w.heap.size, k, none⟩ = false := freeB hA
      have k0 : (0 : Int) ≤ (k : Int) := by omega
      have k1 : (k : Int) < (len : Int) := by omega
      have hA2 := setB_same wr w.heap.size k _ 51 (.float .f64 (fb (zs.getD k 0))) hA
      rw [flRow_set, actF_succ] at hA2
      have HD := hidB (show _ ∧ _ ∧ _ from ⟨hz, hB.setCell (p := ⟨w.heap.size, k, none⟩) (Nat.le_refl _) (.float .f64 (fb (zs.getD k 0))), hA2⟩)
      clear hz hB hA hA2
      generalize fb (actF zs k k) = ov at *
      generalize zs.getD k 0 = z at *
      go_wp2
      go_roundw
      case rel => exact ⟨k + 1, by omega, by go_num, by simpa using HD.out.1, HD.out.2⟩
      case measure => simp [intOf]; omega
    · have ek : k = len := by omega
      subst ek
      have hba : ∀ j, -32768 ≤ actF zs k j ∧ actF zs k j ≤ 32767 := fun j => by
        unfold actF
        split
        · exact BZ.out j
        · omega
      generalize actF zs k = a at *
      have hba' : ∀ j, (a j).natAbs < 1048576 := fun j => by have := hba j; omega
      have hh := heap_any w k k a wr (by omega) (by omega) hba' hB hz hA
      have HHP := hidB hh
      have HBA := hidB hba
      obtain ⟨i, hi⟩ : ∃ i : Nat, (sel : Int) % (k : Int) = (i : Int) := ⟨sel % k, by simp⟩
      have hik : i < k := by
        have : (sel : Int) % (k : Int) < (k : Int) := Int.emod_lt_of_pos _ (by omega)
        omega
      have hi2 : (sel : Int).tmod (k : Int) = (i : Int) := by rw [Int.tmod_eq_emod_of_nonneg (by omega)]; exact hi
      have i0 : (0 : Int) ≤ (i : Int) := by omega
      have i1 : (i : Int) < (k : Int) := by omega
      clear hh hba hba' hA hB hz RC BZ
      go_wp2_with fail
      refine HHP.out.mono ?_
      rintro e w1 ⟨rfl, p, t, hs, hv, hso, hz1⟩
      have o3 : w1.cell? ⟨w.heap.size + 1, 3, none⟩ = some (.slice (some ⟨w.heap.size + 2, 0, none⟩) k k) := (cellB hs.obj).trans rfl
      have o6 : w1.cell? ⟨w.heap.size + 1, 6, none⟩ = some (.slice (some ⟨w.heap.size, 0, none⟩) k k) := (cellB hs.obj).trans rfl
      have ci := hs.cp i hik
      have hpi := hv.1 i hik
      have x0 : (0 : Int) ≤ (p i : Int) := by omega
      have x1 : (p i : Int) < (k : Int) := by omega
      have cx := hs.ca (p i) hpi
      have fx : w1.frozen? ⟨w.heap.size, p i, none⟩ = false := freeB hs.ar
      have hax := HBA.out (p i)
      have hadd := add_fb (a (p i)) (dl : Int) (by omega) (by omega) (by omega)
      have hadd2 := fun (w : World) => run_float_arith (P := Yba.prog) w .add 51 .f64 _ _ _ (show floatBits .add .f64 (fb (a (p i))) (fb (dl : Int)) = some (fb (a (p i) + (dl : Int))) from hadd)
      have hs2 := hs.setA (p i) (a (p i) + (dl : Int))
      have hz2 : (w1.setCell ⟨w.heap.size, p i, none⟩ (.float .f64 (fb (a (p i) + (dl : Int))))).heap.size = w.heap.size + 5 := by simpa using hz1
      have HS1 := hidB (show _ ∧ _ ∧ _ ∧ _ from ⟨hs2, hv, hso, hz2⟩)
      have ez : (w1.setCell ⟨w.heap.size, p i, none⟩ (.float .f64 (fb (a (p i) + (dl : Int))))).heap.size = w1.heap.size := by simp
      have hcp := Yba.copy_new (w1.setCell ⟨w.heap.size, p i, none⟩ (.float .f64 (fb (a (p i) + (dl : Int))))) k (w.heap.size + 2) (fun _ => 0) p hs2.pr
      rw [ez] at hcp
      have o3' : ((w1.setCell ⟨w.heap.size, p i, none⟩ (.float .f64 (fb (a (p i) + (dl : Int))))).alloc (.cells (fRow k fun _ => 0) 21)).cell? ⟨w.heap.size + 1, 3, none⟩ = some (.slice (some ⟨w.heap.size + 2, 0, none⟩) k k) := by
        rw [((Below.refl w1.heap.size (w1.setCell ⟨w.heap.size, p i, none⟩ (.float .f64 (fb (a (p i) + (dl : Int)))))).alloc (by omega) _).cell (p := ⟨w.heap.size + 1, 3, none⟩) (by simp; omega)]; exact (cellB hs2.obj).trans rfl
      have ha2 : ∀ j, (raised a (p i) (dl : Int) j).natAbs < 1048576 := fun j => by
        unfold raised
        split
        · omega
        · have := HBA.out j; omega
      have hs3 : HS w k (raised a (p i) (dl : Int)) p t ((w1.setCell ⟨w.heap.size, p i, none⟩ (.float .f64 (fb (a (p i) + (dl : Int))))).alloc (.cells (fRow k p) 21)) := HS.keep hs2 ((Below.refl _ _).alloc (by omega) _)
      have hup := up_any w k (raised a (p i) (dl : Int)) p t i _ (by omega) (by omega) ha2 hs3 hv
      have hbb : ((w1.setCell ⟨w.heap.size, p i, none⟩ (.float .f64 (fb (a (p i) + (dl : Int))))).alloc (.cells (fRow k p) 21)).heap[w1.heap.size]? = some (.cells (fRow k p) 21 (0, 0)) := by
        rw [← ez]; exact heap_alloc_new _ _
      have HA2 := hidB ha2
      have HUP := hidB hup
      have HBB := hidB hbb
      clear hs hs2 hz2 hv hso hz1 HHP hadd ha2 hax ez hup hbb hs3
      go_wp2_with fail
      refine HUP.out.mono ?_
      rintro e w2 ⟨rfl, T, t2, hmv, hstp, hv2, hs3, hsm⟩
      obtain ⟨-, hv, hso, hz2⟩ := HS1.out
      have hz1 : w1.heap.size = w.heap.size + 5 := by simpa using hz2
      have hck := check_any w k (raised a (p i) (dl : Int)) p t2 i T w1.heap.size w2 (by omega) (by omega) HA2.out hv.1 hs3 hmv hstp hv2 (heap_end (by omega) (heapBut_raised hik (by omega) hv hso) hmv hstp) (by rw [hsm _ (by omega)]; exact HBB.out)
      have HCK := hidB hck
      clear hck hv hso hz1 hmv hstp hv2 hs3 hsm HBB HUP hcp o3 o3' hz2 HS1
      go_wp2_with fail
      refine HCK.out.mono ?_
      rintro e w3 ⟨rfl, hbel⟩
      go_wp2
      go_ret
      exact ⟨by simp, hbel⟩
end Go.Proofs.Ybulkrce
