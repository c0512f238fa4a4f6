import Derived.Test.YbulkrewDoorEscU
import Derived.Deep.RegionHeld3
import Derived.Deep.RegionLaw
import Derived.BigRegion
import Derived.Deep.CutRange
import Derived.Deep.LoopGhost
namespace Go.Proofs.YbulkrewDoor
open Go.RowKit
set_option linter.unusedVariables false

/-- PlainLen at any length. -/
theorem plainLen_any (tb o L cap : Nat) (bs : Nat → Nat) (w : World) (hL2 : L ≤ 5000) (hcap : L ≤ cap) (hcm : cap ≤ 100000) (hc : ∀ j, j < L → w.cell? ⟨tb, o + j, none⟩ = some (.int .u8 (bs j : Nat))) (hb : ∀ j, bs j < 256) (hT : Tab w) :
    Calls Ybad.prog 8 #[.slice (some ⟨tb, o, none⟩) L cap] w (PlainPost w bs L) := by
  by_cases h : L < 8
  · exact plainLen_short tb o L cap bs w h hcap hc hb
  · exact plainLen_long tb o L cap bs w (by omega) hL2 hcap hcm hc hb hT

/-- What String finds. -/
def strRes (bs : Nat → Nat) (N pos : Nat) : Option (Bool × Nat) := if pos < N ∧ bs pos = 34 then scanS bs N (pos + 1) true else none
def StrPost (W : World) (SB tb N cap : Nat) (bs : Nat → Nat) (R : Option (Bool × Nat)) (np : Bool) (e : Ending) (w' : World) : Prop :=
  (R = none ∧ e = .returned (.tuple #[.bool false, .bool false]) ∧ ∃ q, SC W SB tb N cap bs q np w') ∨ ∃ p en, R = some (p, en) ∧ e = .returned (.tuple #[.bool true, .bool p]) ∧ SC W SB tb N cap bs en (np || !p) w'

set_option maxRecDepth 100000 in
set_option maxHeartbeats 2000000 in
theorem string_any (W : World) (SB tb N cap : Nat) (bs : Nat → Nat) (pos : Nat) (np : Bool) (w : World) (hN : N ≤ 5000) (hcap : N ≤ cap) (hcm : cap ≤ 100000) (hb : ∀ j, bs j < 256) (hs : SC W SB tb N cap bs pos np w) (hp : pos ≤ N) :
    Calls Ybad.prog 6 #[.pointer (some ⟨SB, 0, none⟩)] w (StrPost W SB tb N cap bs (strRes bs N pos) np) := by
  obtain ⟨R, hR⟩ : ∃ R, strRes bs N pos = R := ⟨_, rfl⟩
  rw [hR]
  unfold strRes at hR
  by_cases hq : pos < N ∧ bs pos = 34
  · rw [if_pos hq] at hR
    have HSK := hid (skip_yes W SB tb N cap bs pos np w hN hs hq.1 hq.2)
    have HR := hid hR
    clear hR hs
    go_enter Ybad.func6, Ybad.ntmps6
    go_wp2_with fail
    refine HSK.out.mono ?_
    rintro e w1 ⟨rfl, hs1⟩
    have HS1 := hid hs1
    clear hs1
    go_wp2_with fail
    go_loopg [3] (N - (pos + 1)) (fun g s wr => ∃ (i : Nat) (p : Bool), i + g = N ∧ s = .bool p ∧ SC W SB tb N cap bs i np wr ∧ scanS bs N i p = R)
    case atStart => exact ⟨pos + 1, true, by omega, rfl, HS1.out, HR.out⟩
    case round =>
      clear HR HS1 HSK
      obtain ⟨i, p, hi, rfl, hs, hR⟩ := hrel
      have o0 : wr.cell? ⟨SB, 0, none⟩ = some (.slice (some ⟨tb, 0, none⟩) N cap) := (cellB hs.obj).trans rfl
      have o1 : wr.cell? ⟨SB, 1, none⟩ = some (.int .i64 (i : Nat)) := (cellB hs.obj).trans rfl
      have f1 : wr.frozen? ⟨SB, 1, none⟩ = false := freeB hs.obj
      have i0 : (0 : Int) ≤ (i : Int) := by omega
      have i1 : (i : Int) ≤ (N : Int) := by omega
      have i2 : (N : Int) ≤ (cap : Int) := by omega
      have HS := hid hs
      have HRR := hid hR
      obtain ⟨L, hL⟩ : ∃ L, N - i = L := ⟨_, rfl⟩
      obtain ⟨c2, hc2⟩ : ∃ c2, cap - i = c2 := ⟨_, rfl⟩
      have HPL := hid (fun m o (ho : L = 0 ∨ o = i) => plainLen_any tb o L c2 (fun j => bs (i + j)) (wr.drewN m) (by omega) (by omega) (by omega) (fun j hj => by
        have hoi : o = i := by omega
        subst hoi
        exact (hs.drewN m).text (o + j) (by omega)) (fun j => hb _) (hs.drewN m).tab)
      have WK := hid (fun k (hk : k ≤ L) => (show IntKind.i64.wrap ((i : Int) + (k : Int)) = ((i + k : Nat) : Int) by
        have := wI64 (i + k) (by omega)
        simpa using this))
      clear hs hR
      go_upto_region 4 with fail
      go_cut [] from 8 to 82 (fun wx => ∃ k, PlainTo (fun j => bs (i + j)) L k ∧ SC W SB tb N cap bs (i + k) np wx)
      case first =>
        by_cases hic : cap = i
        · obtain rfl : L = 0 := by omega
          obtain rfl : c2 = 0 := by omega
          subst hic
          go_region_with ((go_at_call 8; refine (HPL.out 1 _ (Or.inl rfl)).mono ?_; rintro e w2 ⟨k, m2, rfl, hpt, rfl⟩))
          all_goals (go_wp2_with fail; go_meet)
          all_goals exact ⟨k, hpt, by rw [WK.out k hpt.1]; exact (HS.out.drewN _).setPos (cap + k)⟩
        · go_region_with ((go_at_call 8; refine (HPL.out 1 i (Or.inr rfl)).mono ?_; rintro e w2 ⟨k, m2, rfl, hpt, rfl⟩))
          all_goals (go_wp2_with fail; go_meet)
          all_goals exact ⟨k, hpt, by rw [WK.out k hpt.1]; exact (HS.out.drewN _).setPos (i + k)⟩
      case rest =>
        clear HPL WK HS o0 o1 f1
        obtain ⟨k, hpt, hs⟩ := hcut
        obtain ⟨q, hq2⟩ : ∃ q, i + k = q := ⟨_, rfl⟩
        rw [hq2] at hs
        have hq3 : q ≤ N := by have := hpt.1; omega
        have hqi : i ≤ q := by omega
        have hpl : scanS bs N q p = R := by rw [← HRR.out, ← hq2]; exact (scanS_plain k (by omega) hpt.2.1).symm
        have hnp : q < N → plainB (bs q) = false := fun h => by
          have := hpt.2.2 (by omega)
          rw [← hq2]; exact this
        clear hpt HRR i0 i1 hL hc2 hq2
        have o0 : wc.cell? ⟨SB, 0, none⟩ = some (.slice (some ⟨tb, 0, none⟩) N cap) := (cellB hs.obj).trans rfl
        have o1 : wc.cell? ⟨SB, 1, none⟩ = some (.int .i64 (q : Nat)) := (cellB hs.obj).trans rfl
        have o2 : wc.cell? ⟨SB, 2, none⟩ = some (.bool np) := (cellB hs.obj).trans rfl
        have f1 : wc.frozen? ⟨SB, 1, none⟩ = false := freeB hs.obj
        have f2 : wc.frozen? ⟨SB, 2, none⟩ = false := freeB hs.obj
        by_cases hqN : q < N
        · have tx := hs.text q hqN
          have q0 : (0 : Int) ≤ (q : Int) := by omega
          have q1 : (q : Int) < (N : Int) := by omega
          have q2 : ¬ (N : Int) ≤ (q : Int) := by omega
          have q3 : decide ((N : Int) ≤ (q : Int)) = false := by simp; omega
          obtain ⟨z, hz⟩ : ∃ z, q + 1 = z := ⟨_, rfl⟩
          have z1 : (q : Int) + 1 = (z : Int) := by omega
          have z2 := wI64 z (by omega)
          have hbq := hb q
          have hpn := hnp hqN
          clear hnp
          by_cases h34 : bs q = 34
          · rw [h34] at tx
            have HR2 := hid (show R = some (p, z) by rw [← hpl, scanS_quote hqN h34, hz])
            have HS2 := hid ((hs.setPos z).setNp (np || !p))
            clear hpl hs h34 hbq hpn
            go_wp2_with fail
            go_quiet (fail)
            go_wp2_with fail
            go_quiet (fail)
            cases np <;> cases p
            all_goals
              go_wp2
              go_ret2
              exact Or.inr ⟨_, z, HR2.out, by simp, HS2.out.drewN _⟩
          · have g34 : ((bs q : Int) == 34) = false := by simp; omega
            by_cases h92 : bs q = 92
            · rw [h92] at tx
              have HE := hid (fun m => esc_any W SB tb N cap bs q np (wc.drewN m) (by omega) (by omega) (hs.drewN m) hqN)
              have HN := hid (fun (h : escLen bs N q = none) => (hpl.symm.trans (scanS_bad hqN h92 h) : R = none))
              have HL := hid (fun l (h : escLen bs N q = some l) => ((scanS_esc hqN h92 h).symm.trans hpl : scanS bs N (q + l) false = R))
              clear hpl hs h34 h92 hbq hpn g34
              go_wp2_with fail
              go_quiet (fail)
              go_wp2_with fail
              go_quiet (fail)
              go_wp2_with fail
              refine (HE.out _).mono ?_
              rintro e w2 (⟨he, rfl, hs2⟩ | ⟨l, he, rfl, hs2⟩)
              · have HS2 := hid hs2
                have HE2 := hid (HN.out he)
                clear hs2 he
                go_wp2
                go_ret2
                exact Or.inl ⟨HE2.out, by simp, _, HS2.out⟩
              · have HS2 := hid hs2
                have HE2 := hid (HL.out l he)
                have hel := escLen_pos he
                clear hs2 he
                go_wp2
                go_roundg (N - (q + l))
                case rel => exact ⟨q + l, false, by omega, rfl, HS2.out, HE2.out⟩
                case measure => omega
            · have g92 : ((bs q : Int) == 92) = false := by simp; omega
              by_cases h32 : bs q < 32
              · have g32 : (bs q : Int) < 32 := by omega
                have HE2 := hid (hpl.symm.trans (scanS_low hqN h32) : R = none)
                have HS2 := hid hs
                clear hpl hs h34 h92 hbq hpn h32
                generalize bs q = c at tx g34 g92 g32
                go_wp2_with fail
                go_quiet (fail)
                go_wp2_with fail
                go_quiet (fail)
                go_wp2
                go_ret2
                exact Or.inl ⟨HE2.out, by simp, _, HS2.out.drewN _⟩
              · have g32 : ¬ (bs q : Int) < 32 := by omega
                have h128 : 128 ≤ bs q := by
                  rcases Nat.lt_or_ge (bs q) 128 with h | h
                  · have : plainB (bs q) = true := (plain_iff _).2 ⟨by omega, h34, h92, h⟩
                    rw [this] at hpn; cases hpn
                  · exact h
                have HE2 := hid (show scanS bs N z false = R by
                  have := scanS_next (p := p) hqN h34 h92 h32
                  rw [if_pos h128, hz] at this
                  rw [← hpl, this])
                have HS2 := hid (hs.setPos z)
                clear hpl hs h34 h92 hbq hpn h32 h128
                generalize bs q = c at tx g34 g92 g32
                go_wp2_with fail
                go_quiet (fail)
                go_wp2_with fail
                go_quiet (fail)
                go_wp2
                go_roundg (N - z)
                case rel => exact ⟨z, false, by omega, rfl, HS2.out.drewN _, HE2.out⟩
                case measure => omega
        · have q2 : (N : Int) ≤ (q : Int) := by omega
          have HE2 := hid (hpl.symm.trans (scanS_end (by omega)) : R = none)
          have HS2 := hid hs
          clear hpl hs hnp
          go_wp2_with fail
          go_quiet (fail)
          go_wp2
          go_ret2
          exact Or.inl ⟨HE2.out, by simp, _, HS2.out.drewN _⟩
  · rw [if_neg hq] at hR
    subst hR
    have HSK := hid (skip_no W SB tb N cap bs pos np w hN hs hp hq)
    clear hs
    go_enter Ybad.func6, Ybad.ntmps6
    go_wp2_with fail
    refine HSK.out.mono ?_
    rintro e w1 ⟨rfl, hs1⟩
    go_wp2
    go_ret2
    exact Or.inl ⟨rfl, by simp, pos, hs1⟩
end Go.Proofs.YbulkrewDoor
