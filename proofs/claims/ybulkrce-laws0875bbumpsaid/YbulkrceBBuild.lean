import Derived.Test.YbulkrceBHeap
namespace Go.Proofs.Ybulkrce
open Go.RowKit
set_option linter.unusedVariables false

theorem heap_newB (w : World) (o : Obj) (k : Nat) (hk : w.heap.size = k) : (w.alloc o).heap[k]? = some o := by
  subst hk; exact heap_alloc_new w o

/-- What zzs0875bheap leaves. -/
def HeapPost (W : World) (n m : Nat) (a : Nat → Int) (w' : World) : Prop :=
  ∃ p t, HS W n a p t w' ∧ InvOk n p t ∧ SortedTo a m p ∧ w'.heap.size = W.heap.size + 5

set_option maxRecDepth 100000 in
set_option maxHeartbeats 4000000 in
theorem heap_any (W : World) (n m : Nat) (a : Nat → Int) (w : World) (hn : n ≤ 2000) (hm : m ≤ n) (hb : ∀ j, (a j).natAbs < 1048576) (hw : Below W.heap.size W w) (hsz : w.heap.size = W.heap.size + 1)
    (har : w.heap[W.heap.size]? = some (.cells (flRow n a) 51 (0, 0))) :
    Calls Yba.prog 11 #[.slice (some ⟨W.heap.size, 0, none⟩) n n, .int .i64 m] w fun e w' => e = .returned (.pointer (some ⟨W.heap.size + 1, 0, none⟩)) ∧ HeapPost W n m a w' := by
  have hmk := Yba.make23 n hn
  have n0 : (n : Int) ≤ 2000 := by omega
  have m0 : (m : Int) ≤ (n : Int) := by omega
  have HB := hidB hb
  have HW := hidB hw
  have HA := hidB har
  clear hb hw har
  go_enter Yba.func11, Yba.ntmps11
  go_wp2_with fail
  go_loopw [7] (fun s wr => ∃ (k : Nat), k ≤ n ∧ s = .int .i64 k ∧ wr.heap.size = W.heap.size + 5 ∧ HS1 W n a k wr) (fun s _ => n - (intOf s).toNat)
  case atStart =>
    refine ⟨0, by omega, rfl, by simp; omega, ?_⟩
    refine ⟨(((HW.out.alloc (by omega) _).alloc (by simp; omega) _).alloc (by simp; omega) _).alloc (by simp; omega) _, ?_, ?_, ?_, ?_, ?_⟩
    · iterate 4 rw [Below.heap_alloc _ _ _ (by (try simp) <;> omega)]
      exact HA.out
    · iterate 3 rw [Below.heap_alloc _ _ _ (by (try simp) <;> omega)]
      exact heap_newB _ _ _ hsz
    · rw [filled_zero]
      iterate 2 rw [Below.heap_alloc _ _ _ (by (try simp) <;> omega)]
      exact heap_newB _ _ _ (by simp; omega)
    · rw [Below.heap_alloc _ _ _ (by (try simp) <;> omega)]
      exact heap_newB _ _ _ (by simp; omega)
    · rw [filled_zero]
      exact heap_newB _ _ _ (by simp; omega)
  case round =>
    obtain ⟨k, hk, rfl, hz, hs⟩ := hrel
    have o3 : wr.cell? ⟨W.heap.size + 1, 3, none⟩ = some (.slice (some ⟨W.heap.size + 2, 0, none⟩) n n) := (cellB hs.obj).trans rfl
    have o5 : wr.cell? ⟨W.heap.size + 1, 5, none⟩ = some (.slice (some ⟨W.heap.size + 4, 0, none⟩) n n) := (cellB hs.obj).trans rfl
    have HS0 := hidB hs
    by_cases hkn : k < n
    · have cp : wr.cell? ⟨W.heap.size + 2, k, none⟩ = some (.int .i32 (filled k k)) := (cellB hs.pr).trans (fRow_get n _ k hkn)
      have fp : wr.frozen? ⟨W.heap.size + 2, k, none⟩ = false := freeB hs.pr
      have ck : wr.cell? ⟨W.heap.size + 4, k, none⟩ = some (.int .i32 (filled k k)) := (cellB hs.kr).trans (fRow_get n _ k hkn)
      have fk : wr.frozen? ⟨W.heap.size + 4, k, none⟩ = false := freeB hs.kr
      have k0 : (0 : Int) ≤ (k : Int) := by omega
      have k1 : (k : Int) < (n : Int) := by omega
      have HZ := hidB hz
      clear hs hz
      generalize filled k k = ov at *
      go_wp2
      go_roundw
      case rel => exact ⟨k + 1, by omega, by go_num, by simpa using HZ.out, HS0.out.step⟩
      case measure => simp [intOf]; omega
    · have ek : k = n := by omega
      subst ek
      have h1 := HS0.out.done
      have HH := hidB h1
      have HZ := hidB hz
      clear HS0 hs h1 o3 o5 hz
      have hp0 : PermOk k (fun j => j) := ⟨fun _ h => h, fun _ _ _ _ e => e⟩
      have HP0 := hidB hp0
      clear hp0
      go_wp2_with fail
      go_loopw [8] (fun s wq => ∃ (q : Nat) (p : Nat → Nat), 1 ≤ q ∧ (q ≤ m ∨ q = 1) ∧ s = .int .i64 q ∧ wq.heap.size = W.heap.size + 5 ∧ PermOk k p ∧ SortedTo a q p ∧ HS W k a p (fun _ => 0) wq) (fun s _ => m - (intOf s).toNat)
      case atStart => exact ⟨1, fun j => j, by omega, by omega, rfl, HZ.out, HP0.out, fun x y _ _ => by omega, HH.out⟩
      case round =>
        clear HZ HP0 HH
        obtain ⟨q, p, hq1, hqm, rfl, hz, hpm, hso, hs⟩ := hrel
        have o3 : wr.cell? ⟨W.heap.size + 1, 3, none⟩ = some (.slice (some ⟨W.heap.size + 2, 0, none⟩) k k) := (cellB hs.obj).trans rfl
        by_cases hlt : q < m
        · have cq := hs.cp q (by omega)
          have q0 : (0 : Int) ≤ (q : Int) := by omega
          have q1 : (q : Int) < (m : Int) := by omega
          have q2 : (q : Int) < (k : Int) := by omega
          have hpq := hpm.1 q (by omega)
          have hst := SortBut.start hso
          rw [← upd_self p q] at hpm hst
          have HI := hidB (show _ ∧ _ ∧ _ ∧ _ from ⟨hz, hpm, hst, hs⟩)
          clear hz hpm hst hs hso
          generalize hv : p q = v at *
          clear hv
          go_wp2_with fail
          clear o3 cq
          go_loopw [10] (fun s wj => ∃ (j : Nat) (f : Nat → Nat), j ≤ q ∧ s = .int .i64 j ∧ wj.heap.size = W.heap.size + 5 ∧ PermOk k (upd f j v) ∧ SortBut a q (upd f j v) j ∧ HS W k a f (fun _ => 0) wj) (fun s _ => (intOf s).toNat)
          case atStart => exact ⟨q, p, by omega, rfl, HI.out⟩
          case round =>
            clear HI
            obtain ⟨j, f, hjq, rfl, hz, hpm, hst, hs⟩ := hrel
            have o3 : wr.cell? ⟨W.heap.size + 1, 3, none⟩ = some (.slice (some ⟨W.heap.size + 2, 0, none⟩) k k) := (cellB hs.obj).trans rfl
            have cj := hs.cp j (by omega)
            have fj : wr.frozen? ⟨W.heap.size + 2, j, none⟩ = false := freeB hs.pr
            have j0 : (0 : Int) ≤ (j : Int) := by omega
            have j1 : (j : Int) < (k : Int) := by omega
            rcases Nat.eq_zero_or_pos j with hj | hj
            · subst hj
              have hdone := hst.stop (by omega) (Or.inl rfl)
              have HD := hidB (show _ ∧ _ ∧ _ ∧ _ from ⟨hz, hpm, hdone, hs.setP 0 v⟩)
              clear hz hpm hst hs hdone
              generalize f 0 = ov at *
              go_wp2
              go_roundw
              case rel => exact ⟨q + 1, upd f 0 v, by omega, by omega, by go_num, by simpa using HD.out.1, HD.out.2.1, HD.out.2.2.1, HD.out.2.2.2⟩
              case measure => simp [intOf]; omega
            · obtain ⟨e, he⟩ : ∃ e : Nat, (j : Int) - 1 = (e : Int) := ⟨j - 1, by omega⟩
              have hej : j - 1 = e := by omega
              have ce := hs.cp e (by omega)
              have e0 : (0 : Int) ≤ (e : Int) := by omega
              have e1 : (e : Int) < (k : Int) := by omega
              have hj' : (0 : Int) < (j : Int) := by omega
              have hve : upd f j v e = f e := upd_other _ _ _ _ (by omega)
              have hfe : f e < k := by rw [← hve]; exact hpm.1 e (by omega)
              have hbf : Calls Yba.prog 17 #[.slice (some ⟨W.heap.size, 0, none⟩) k k, .int .i32 v, .int .i32 (f e)] wr fun x w' => x = .returned (.bool (ltB a v (f e))) ∧ ∃ m, w' = wr.drewN m :=
                before_any W.heap.size k k a v (f e) wr hpq hfe hn HB.out hs.ar
              have HBF := hidB hbf
              clear hbf
              cases hlv : ltB a v (f e) with
              | false =>
                rw [hlv] at HBF
                have hdone := hst.stop (by omega) (Or.inr (by rw [upd_same, hej, hve]; exact hlv))
                have HD := hidB (show _ ∧ _ ∧ _ ∧ _ from ⟨hz, hpm, hdone, hs.setP j v⟩)
                clear hz hpm hst hs hdone hlv hve hej
                generalize f j = ov at *
                generalize f e = y at *
                go_wp2_with fail
                refine HBF.out.mono ?_
                rintro x w' ⟨rfl, m2, rfl⟩
                go_wp2
                go_roundw
                case rel => exact ⟨q + 1, upd f j v, by omega, by omega, by go_num, by simpa using HD.out.1, HD.out.2.1, HD.out.2.2.1, HD.out.2.2.2.drewN m2⟩
                case measure => simp [intOf]; omega
              | true =>
                rw [hlv] at HBF
                have hst2 := hst.step hj (by omega) (by rw [upd_same, hej, hve]; exact hlv)
                have hpm2 := hpm.swap (c := j) (d := j - 1) (by omega) (by omega)
                rw [← shift_swap f j v hj, hej] at hst2 hpm2
                have HD := hidB (show _ ∧ _ ∧ _ ∧ _ from ⟨hz, hpm2, hst2, hs.setP j (f e)⟩)
                clear hz hpm hst hs hst2 hpm2 hlv hve
                generalize f j = ov at *
                generalize hfe' : f e = y at *
                have HFE := hidB hfe'
                have HEJ := hidB hej
                clear hfe' hej
                go_wp2_with fail
                refine HBF.out.mono ?_
                rintro x w' ⟨rfl, m2, rfl⟩
                go_wp2_with fail
                go_region
                go_wp2
                go_roundw
                case rel => exact ⟨e, upd f j y, by omega, by go_num, by simpa using HD.out.1, HD.out.2.1, HD.out.2.2.1, HD.out.2.2.2.drewN _⟩
                case measure => simp [intOf]; omega
        · have HQ := hidB (show _ ∧ _ ∧ _ from ⟨hpm, hso, hs⟩)
          have HZ := hidB hz
          clear hpm hso hs hz o3
          go_wp2_with fail
          go_loopw [11] (fun s wq => ∃ (r : Nat) (t : Nat → Nat), r ≤ k ∧ s = .int .i64 r ∧ wq.heap.size = W.heap.size + 5 ∧ (∀ j, j < r → t (p j) = j) ∧ HS W k a p t wq) (fun s _ => k - (intOf s).toNat)
          case atStart => exact ⟨0, fun _ => 0, by omega, rfl, HZ.out, fun j h => by omega, HQ.out.2.2⟩
          case round =>
            clear HZ
            obtain ⟨r, t, hrk, rfl, hz, hin, hs⟩ := hrel
            by_cases hr : r < k
            · have o3 : wr.cell? ⟨W.heap.size + 1, 3, none⟩ = some (.slice (some ⟨W.heap.size + 2, 0, none⟩) k k) := (cellB hs.obj).trans rfl
              have o4 : wr.cell? ⟨W.heap.size + 1, 4, none⟩ = some (.slice (some ⟨W.heap.size + 3, 0, none⟩) k k) := (cellB hs.obj).trans rfl
              have cr := hs.cp r hr
              have hpr := HQ.out.1.1 r hr
              have ct := hs.ct (p r) hpr
              have ft : wr.frozen? ⟨W.heap.size + 3, p r, none⟩ = false := freeB hs.tr
              have r0 : (0 : Int) ≤ (r : Int) := by omega
              have r1 : (r : Int) < (k : Int) := by omega
              have x0 : (0 : Int) ≤ (p r : Int) := by omega
              have x1 : (p r : Int) < (k : Int) := by omega
              have hin2 : ∀ j, j < r + 1 → upd t (p r) r (p j) = j := fun j hj => by
                by_cases hjr : j = r
                · subst hjr; exact upd_same ..
                · rw [upd_other _ _ _ _ (fun e => hjr (HQ.out.1.2 j r (by omega) hr e))]; exact hin j (by omega)
              have HD := hidB (show _ ∧ _ ∧ _ from ⟨hz, hin2, hs.setT (p r) r⟩)
              clear hz hin hs hin2
              generalize t (p r) = ot at *
              generalize hx : p r = x at *
              have HX := hidB hx
              clear hx
              go_wp2_with fail
              go_region
              go_wp2
              go_roundw
              case rel => exact ⟨r + 1, upd t x r, by omega, by go_num, by simpa using HD.out.1, HD.out.2.1, HD.out.2.2.drew⟩
              case measure => simp [intOf]; omega
            · have er : r = k := by omega
              have HD := hidB (show HeapPost W k m a wr from ⟨p, t, hs, ⟨HQ.out.1.1, fun j hj => hin j (by omega)⟩, fun x y hxy hy => HQ.out.2.1 x y hxy (by omega), hz⟩)
              clear hz hin hs
              subst er
              go_wp2
              go_ret
              exact ⟨by simp, HD.out⟩
end Go.Proofs.Ybulkrce
