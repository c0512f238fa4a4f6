import Derived.Test.YbulkrceBSwap
import Derived.Test.YbulkrceBPlain
namespace Go.Proofs.Ybulkrce
open Go.RowKit
set_option linter.unusedVariables false

/-- What up comes to: so many moves up, and then none. -/
def UpPost (W : World) (n : Nat) (a : Nat → Int) (p : Nat → Nat) (i : Nat) (w w' : World) : Prop :=
  ∃ T t', moved a p i T ∧ stops a p i T ∧ InvOk n (pairsF p i T) t' ∧ HS W n a (pairsF p i T) t' w' ∧ ∀ b, W.heap.size + 5 ≤ b → w'.heap[b]? = w.heap[b]?

set_option maxRecDepth 100000 in
set_option maxHeartbeats 2000000 in
theorem up_any (W : World) (n : Nat) (a : Nat → Int) (p t : Nat → Nat) (i : Nat) (w : World) (hi : i < n) (hn : n ≤ 2000) (hb : ∀ j, (a j).natAbs < 1048576) (hs : HS W n a p t w) (hv : InvOk n p t) :
    Calls Yba.prog 12 #[.pointer (some ⟨W.heap.size + 1, 0, none⟩), .int .i64 i] w fun e w' => e = .returned (.tuple #[]) ∧ UpPost W n a p i w w' := by
  have HB := hidB hb
  have h0 := hidB (show _ ∧ _ from ⟨hs.congr (fun k _ => (pairs_zero p i k).symm) (fun _ _ => rfl), hv.congr (fun k _ => (pairs_zero p i k).symm)⟩)
  clear hs hv hb
  go_enter Yba.func12, Yba.ntmps12
  go_wp2
  go_loopw [1] (fun s wr => ∃ (T c : Nat) (t' : Nat → Nat), s = .int .i64 c ∧ parIter T i = c ∧ moved a p i T ∧ InvOk n (pairsF p i T) t' ∧ HS W n a (pairsF p i T) t' wr ∧ Hid (∀ b, W.heap.size + 5 ≤ b → wr.heap[b]? = w.heap[b]?)) (fun s _ => (intOf s).toNat)
  case atStart => exact ⟨0, i, t, rfl, rfl, moved_zero a p i, h0.out.2, h0.out.1, fun _ _ => rfl⟩
  case round =>
    clear h0
    obtain ⟨T, c, t', rfl, hc, hm, hv, hs, HSM⟩ := hrel
    have hci : c ≤ i := by rw [← hc]; exact parIter_le hm
    have HM := hidB hm
    have HV := hidB hv
    have HH := hidB hs
    have HC := hidB hc
    clear hm hv hs hc
    by_cases h0 : c = 0
    · have HS0 := hidB (show stops a p i T from Or.inl (by rw [HC.out]; exact h0))
      have hd : ¬ (0 : Int) < (c : Int) := by omega
      subst h0
      go_wp2
      go_end0
      exact ⟨rfl, T, t', HM.out, HS0.out, HV.out, HH.out, HSM.out⟩
    · have c0 : 0 < c := by omega
      have c0' : (0 : Int) < (c : Int) := by omega
      obtain ⟨d, hd⟩ : ∃ d : Nat, d = (c - 1) / 2 := ⟨_, rfl⟩
      have hd' : ((c : Int) - 1) / 2 = (d : Int) := by omega
      have hdc : d < c := by omega
      have hds : parIter (T + 1) i = d := by show (parIter T i - 1) / 2 = d; rw [HC.out]; exact hd.symm
      have c1 : (c : Int) < (n : Int) := by omega
      have d0 : (0 : Int) ≤ (d : Int) := by omega
      have d1 : (d : Int) < (n : Int) := by omega
      have e1 : pairsF p i T c = p i := by rw [← HC.out]; exact pairs_at p i T
      have e2 : pairsF p i T d = p d := pairs_low HM.out d (by rw [HC.out]; exact hdc)
      have pc := HH.out.cp c (by omega)
      have pd := HH.out.cp d (by omega)
      have lc := HV.out.1 c (by omega)
      have ld := HV.out.1 d (by omega)
      rw [e1] at pc lc
      rw [e2] at pd ld
      have o3 : wr.cell? ⟨W.heap.size + 1, 3, none⟩ = some (.slice (some ⟨W.heap.size + 2, 0, none⟩) n n) := (cellB HH.out.obj).trans rfl
      have hless : ∀ m, Calls Yba.prog 18 #[.pointer (some ⟨W.heap.size + 1, 0, none⟩), .int .i32 (p i), .int .i32 (p d)] (wr.drewN m) fun e w' => e = .returned (.bool (ltB a (p i) (p d))) ∧ ∃ k, w' = (wr.drewN m).drewN k :=
        fun m => less_any W n a (pairsF p i T) t' (p i) (p d) (wr.drewN m) lc ld hn HB.out (HH.out.drewN m)
      have HLS := hidB hless
      have HD := hidB hds
      have HE := hidB (show _ ∧ _ from ⟨e1, e2⟩)
      have HDD := hidB hd
      clear hless hds hd e1 e2
      cases hlt : ltB a (p i) (p d) with
      | false =>
        have HST := hidB (show stops a p i T from Or.inr (by rw [HD.out]; exact hlt))
        have HLS' := hidB (show ∀ m, Calls Yba.prog 18 #[.pointer (some ⟨W.heap.size + 1, 0, none⟩), .int .i32 (p i), .int .i32 (p d)] (wr.drewN m) fun e w' => e = .returned (.bool false) ∧ ∃ k, w' = (wr.drewN m).drewN k by rw [← hlt]; exact HLS.out)
        clear HLS hlt
        generalize p i = x at *
        generalize p d = y at *
        go_wp2_with fail
        go_quiet ((go_at_call 18; exact Calls.quiet_of (HLS'.out _)))
        go_wp2
        exact bodyPost_ret (v := .tuple #[]) (results_none (by kernel_rfl) _ _ _) rfl ⟨rfl, T, t', HM.out, HST.out, HV.out, HH.out.drewN _, HSM.out⟩
      | true =>
        have hm2 := moved_succ HM.out (by rw [HC.out]; exact c0) (by rw [HD.out]; exact hlt)
        have HM2 := hidB hm2
        have HLS' := hidB (show ∀ m, Calls Yba.prog 18 #[.pointer (some ⟨W.heap.size + 1, 0, none⟩), .int .i32 (p i), .int .i32 (p d)] (wr.drewN m) fun e w' => e = .returned (.bool true) ∧ ∃ k, w' = (wr.drewN m).drewN k by rw [← hlt]; exact HLS.out)
        have hsw := fun m => swap_any W n a (pairsF p i T) t' c d (wr.drewN m) (by omega) (by omega) (by omega) hn (HV.out.1 c (by omega)) (HV.out.1 d (by omega)) (fun e => by have := HV.out.inj (show c < n by omega) (show d < n by omega) e; omega) (HH.out.drewN m)
        have HSW := hidB hsw
        have hiv := HV.out.swap (show c < n by omega) (show d < n by omega) (show c ≠ d by omega)
        have hnew : ∀ k, k < n → upd (upd (pairsF p i T) c (pairsF p i T d)) d (pairsF p i T c) k = pairsF p i (T + 1) k := fun k _ => by
          rw [pairs_succ HM2.out k, HD.out, HC.out]
        have HNV := hidB (show _ ∧ _ from ⟨hiv, hnew⟩)
        clear HLS hlt hm2 hsw hiv hnew
        generalize hx : p i = x at *
        generalize hy : p d = y at *
        have HX := hidB (show _ ∧ _ from ⟨hx, hy⟩)
        clear hx hy
        go_wp2_with fail
        go_quiet ((go_at_call 18; exact Calls.quiet_of (HLS'.out _)))
        go_wp2_with fail
        refine (HSW.out _).mono ?_
        rintro e w2 ⟨rfl, hs2, hsm2⟩
        have HS2 := hidB hs2
        have HSM2 := hidB hsm2
        clear hs2 hsm2
        go_wp2
        go_roundw
        case rel => exact ⟨T + 1, d, _, by go_num, HD.out, HM2.out, HNV.out.1.congr HNV.out.2, HS2.out.congr HNV.out.2 (fun _ _ => rfl), fun b hb => (HSM2.out b hb).trans (HSM.out b hb)⟩
        case measure => simp [intOf]; omega
end Go.Proofs.Ybulkrce
