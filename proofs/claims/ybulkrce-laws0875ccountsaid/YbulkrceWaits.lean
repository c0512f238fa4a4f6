import Derived.Test.YbulkrceKeeps
namespace Go.Proofs.Ybulkrce
open Go.RowKit

/-- Whether read r waits for more than its source. -/
def waitsB (ext : Bool) (src thr : List Int) (dn : List Bool) (wt : List Int) (r : Nat) : Bool :=
  !dn.getD r false && (decide (1 < wt.getD r 0) || !keepsB ext src thr r)

/-- What lies in memory for a call of waits. -/
structure CM (B Hh sb tb sc tc R db dc Pb wb wc : Nat) (ext : Bool) (src thr : List Int) (dn : List Bool) (wt : List Int) (w : World) : Prop where
  b0 : w.cell? ⟨B, 0, none⟩ = some (.pointer (some ⟨Hh, 0, none⟩))
  b17 : w.cell? ⟨B, 17, none⟩ = some (.bool ext)
  h9 : w.cell? ⟨Hh, 9, none⟩ = some (.slice (some ⟨sb, 0, none⟩) 8 sc)
  h3 : w.cell? ⟨Hh, 3, none⟩ = some (.slice (some ⟨tb, 0, none⟩) 8 tc)
  csrc : ∀ j, j < 8 → w.cell? ⟨sb, j, none⟩ = some (.int .i64 (src.getD j 0))
  cthr : ∀ j, j < 8 → w.cell? ⟨tb, j, none⟩ = some (.int .i64 (thr.getD j 0))
  cle : ∀ j, j < 8 → src.getD j 0 ≤ 7
  r1 : w.cell? ⟨R, 1, none⟩ = some (.pointer (some ⟨B, 0, none⟩))
  r3 : w.cell? ⟨R, 3, none⟩ = some (.slice (some ⟨db, 0, none⟩) 8 dc)
  cdn : ∀ j, j < 8 → w.cell? ⟨db, j, none⟩ = some (.bool (dn.getD j false))
  p2 : w.cell? ⟨Pb, 2, none⟩ = some (.slice (some ⟨wb, 0, none⟩) 8 wc)
  cwt : ∀ j, j < 8 → w.cell? ⟨wb, j, none⟩ = some (.int .i64 (wt.getD j 0))

theorem CM.drewN {B Hh sb tb sc tc R db dc Pb wb wc : Nat} {ext : Bool} {src thr : List Int} {dn : List Bool} {wt : List Int} {w : World} (h : CM B Hh sb tb sc tc R db dc Pb wb wc ext src thr dn wt w) (n : Nat) :
    CM B Hh sb tb sc tc R db dc Pb wb wc ext src thr dn wt (w.drewN n) :=
  ⟨h.b0, h.b17, h.h9, h.h3, h.csrc, h.cthr, h.cle, h.r1, h.r3, h.cdn, h.p2, h.cwt⟩

set_option maxRecDepth 100000 in
set_option maxHeartbeats 1000000 in
theorem waits_any {B Hh sb tb sc tc R db dc Pb wb wc : Nat} {ext : Bool} {src thr : List Int} {dn : List Bool} {wt : List Int} {w : World} (h : CM B Hh sb tb sc tc R db dc Pb wb wc ext src thr dn wt w) (r : Nat) (hr : r < 8) :
    Calls Yba.prog 20 #[.pointer (some ⟨R, 0, none⟩), .pointer (some ⟨Pb, 0, none⟩), .int .i64 r] w fun e w' => e = .returned (.bool (waitsB ext src thr dn wt r)) ∧ ∃ n, w' = w.drewN n := by
  have k := keeps_any B Hh sb tb sc tc ext src thr r w hr h.b0 h.b17 h.h9 h.h3 h.csrc h.cthr (h.cle r hr)
  have K : Hid (Calls Yba.prog 23 #[.pointer (some ⟨B, 0, none⟩), .int .i64 r] w fun e w' => e = .returned (.bool (keepsB ext src thr r)) ∧ ∃ n, w' = w.drewN n) := k
  have r1 := h.r1
  have r3 := h.r3
  have p2 := h.p2
  have d := h.cdn r hr
  have v := h.cwt r hr
  have q1 : (r : Int) < 8 := by omega
  have q0 : (0 : Int) ≤ (r : Int) := by omega
  clear h k
  have HW : Hid (waitsB ext src thr dn wt r = (!dn.getD r false && (decide (1 < wt.getD r 0) || !keepsB ext src thr r))) := rfl
  generalize hdn : dn.getD r false = db at *
  clear hdn
  cases db with
  | true =>
    generalize wt.getD r 0 = x at *
    go_enter Yba.func20, Yba.ntmps20
    go_wp2
    go_ret
    exact ⟨by rw [HW.out]; simp, 0, rfl⟩
  | false =>
    by_cases hx : 1 < wt.getD r 0
    · have hd : Hid (decide (1 < wt.getD r 0) = true) := decide_eq_true hx
      generalize wt.getD r 0 = x at *
      go_enter Yba.func20, Yba.ntmps20
      go_wp2
      go_ret
      exact ⟨by rw [HW.out, hd.out]; simp, 0, rfl⟩
    · have hd : decide (1 < wt.getD r 0) = false := decide_eq_false hx
      have Hd : Hid (decide (1 < wt.getD r 0) = false) := hd
      generalize wt.getD r 0 = x at *
      go_enter Yba.func20, Yba.ntmps20
      go_wp2_with fail
      refine K.out.mono ?_
      rintro e w' ⟨rfl, n, rfl⟩
      go_wp2
      go_ret
      exact ⟨by rw [HW.out, Hd.out]; simp, n, rfl⟩

/-- How many of the listed readers wait. -/
def waitCount (p : Nat → Bool) (l : List Nat) : Nat := (l.filter p).length

theorem waitCount_succ (p : Nat → Bool) (l : List Nat) (k : Nat) (h : k < l.length) : waitCount p (l.take (k + 1)) = waitCount p (l.take k) + if p (l.getD k 0) then 1 else 0 := by
  rw [List.take_succ_eq_append_getElem h]
  have e : l.getD k 0 = l[k] := by simp [h]
  rw [e]
  unfold waitCount
  rw [List.filter_append, List.length_append]
  cases hp : p l[k] <;> simp [hp]

theorem waitCount_take_le (p : Nat → Bool) (l : List Nat) (k : Nat) : waitCount p (l.take k) ≤ waitCount p l := by
  have e : (l.filter p).length = ((l.take k).filter p).length + ((l.drop k).filter p).length := by
    rw [← List.length_append, ← List.filter_append, List.take_append_drop]
  unfold waitCount
  omega

/-- The count, cut at bound where bound is at least 1. -/
def capped (bound : Int) (c : Nat) : Int := if 1 ≤ bound ∧ bound ≤ (c : Int) then bound else (c : Int)

theorem hid {p : Prop} (h : p) : Hid p := h

theorem waitCount_le_take (p : Nat → Bool) (l : List Nat) (k : Nat) : waitCount p (l.take k) ≤ k :=
  Nat.le_trans (List.length_filter_le ..) (List.length_take_le ..)

set_option maxRecDepth 100000 in
set_option maxHeartbeats 1000000 in
theorem waiting_any {B Hh sb tb sc tc R db dc Pb wb wc : Nat} {ext : Bool} {src thr : List Int} {dn : List Bool} {wt : List Int} {w : World} (h : CM B Hh sb tb sc tc R db dc Pb wb wc ext src thr dn wt w)
    (Sb rb rc lb n lc wi : Nat) (bound : Int) (l : List Nat)
    (r0 : w.cell? ⟨R, 0, none⟩ = some (.pointer (some ⟨Sb, 0, none⟩))) (s1 : w.cell? ⟨Sb, 1, none⟩ = some (.slice (some ⟨rb, 0, none⟩) 8 rc))
    (hwi : wi < 8) (hrs : w.cell? ⟨rb, wi, none⟩ = some (.slice (some ⟨lb, 0, none⟩) n lc)) (hn : n ≤ 1024) (hll : l.length = n) (hl8 : ∀ j, j < n → l.getD j 0 < 8)
    (hl : ∀ j, j < n → w.cell? ⟨lb, j, none⟩ = some (.int .i64 (l.getD j 0 : Nat))) :
    Calls Yba.prog 14 #[.pointer (some ⟨R, 0, none⟩), .pointer (some ⟨Pb, 0, none⟩), .int .i64 wi, .int .i64 bound] w fun e w' =>
      e = .returned (.int .i64 (capped bound (waitCount (waitsB ext src thr dn wt) l))) ∧ ∃ n, w' = w.drewN n := by
  have HM : Hid (CM B Hh sb tb sc tc R db dc Pb wb wc ext src thr dn wt w) := h
  have q1 : (wi : Int) < 8 := by omega
  have q0 : (0 : Int) ≤ (wi : Int) := by omega
  have q2 : (n : Int) ≤ 1024 := by omega
  have HL : Hid (∀ j, j < n → w.cell? ⟨lb, j, none⟩ = some (.int .i64 (l.getD j 0 : Nat))) := hl
  have HN : Hid (l.length = n) := hll
  have H8 : Hid (∀ j, j < n → l.getD j 0 < 8) := hl8
  clear h hl hll hl8
  go_enter Yba.func14, Yba.ntmps14
  go_wp2
  go_loopw [9, 23] (fun c i wr => ∃ (k m : Nat), k ≤ n ∧ i = .int .i64 k ∧ c = .int .i64 (waitCount (waitsB ext src thr dn wt) (l.take k) : Nat) ∧ ¬ (1 ≤ bound ∧ bound ≤ (waitCount (waitsB ext src thr dn wt) (l.take k) : Int)) ∧ wr = w.drewN m) (fun _ i _ => n - (intOf i).toNat)
  case atStart => exact ⟨0, 0, by omega, rfl, rfl, by simp [waitCount]; omega, rfl⟩
  case round =>
    obtain ⟨k, m, hk, rfl, rfl, hnb, rfl⟩ := hrel
    have hle := waitCount_le_take (waitsB ext src thr dn wt) l k
    have hle2 := waitCount_take_le (waitsB ext src thr dn wt) l (k + 1)
    have hle3 := waitCount_take_le (waitsB ext src thr dn wt) l k
    by_cases hlt : k < n
    · have hc := HL.out k hlt
      have h8 := H8.out k hlt
      have hs := waitCount_succ (waitsB ext src thr dn wt) l k (by rw [HN.out]; exact hlt)
      have HC := waits_any (HM.out.drewN m) (l.getD k 0) h8
      have hlt' : (k : Int) < (n : Int) := by omega
      cases hp : waitsB ext src thr dn wt (l.getD k 0) with
      | false =>
        rw [hp] at HC hs
        simp only [Bool.false_eq_true, if_false, Nat.add_zero] at hs
        have HC' := hid HC
        have HS : Hid (waitCount (waitsB ext src thr dn wt) (l.take (k + 1)) = waitCount (waitsB ext src thr dn wt) (l.take k)) := hs
        clear HC hs hp
        generalize l.getD k 0 = r at *
        go_wp2_with fail
        refine HC'.out.mono ?_
        rintro e w' ⟨rfl, n', rfl⟩
        go_wp2
        go_roundw
        case rel => exact ⟨k + 1, m + n', by omega, by go_num, by rw [HS.out], by rw [HS.out]; omega, rfl⟩
        case measure => simp [intOf]; omega
      | true =>
        rw [hp] at HC hs
        simp only [if_true] at hs
        have HC' := hid HC
        have HS : Hid (waitCount (waitsB ext src thr dn wt) (l.take (k + 1)) = waitCount (waitsB ext src thr dn wt) (l.take k) + 1) := hs
        have hle4 : waitCount (waitsB ext src thr dn wt) (l.take k) + 1 ≤ waitCount (waitsB ext src thr dn wt) l := by omega
        clear HC hs hp hle2
        generalize l.getD k 0 = r at *
        generalize hcc : waitCount (waitsB ext src thr dn wt) (l.take k) = c at *
        generalize hct : waitCount (waitsB ext src thr dn wt) l = ct at *
        have Hcc : Hid (waitCount (waitsB ext src thr dn wt) (l.take k) = c) := hcc
        have Hct : Hid (waitCount (waitsB ext src thr dn wt) l = ct) := hct
        clear hcc hct
        by_cases hb : (c : Int) + 1 = bound
        · have hbb : ((c : Int) + 1 == bound) = true := by simpa using hb
          have HB : Hid ((c : Int) + 1 = bound) := hb
          clear hb
          go_wp2_with fail
          refine HC'.out.mono ?_
          rintro e w' ⟨rfl, n', rfl⟩
          go_wp2
          go_ret
          refine ⟨?_, _, rfl⟩
          have hb := HB.out
          rw [Hct.out]
          unfold capped
          rw [if_pos ⟨by omega, by omega⟩, ← hb]
          simp
        · have hbb : ((c : Int) + 1 == bound) = false := by simpa using hb
          have HB : Hid (¬ (c : Int) + 1 = bound) := hb
          clear hb
          go_wp2_with fail
          refine HC'.out.mono ?_
          rintro e w' ⟨rfl, n', rfl⟩
          go_wp2
          go_roundw
          case rel => exact ⟨k + 1, m + n', by omega, by go_num, by rw [HS.out]; go_num, by rw [HS.out]; have := HB.out; omega, rfl⟩
          case measure => simp [intOf]; omega
    · have e : l.take k = l := List.take_of_length_le (by rw [HN.out]; omega)
      rw [e] at hnb ⊢
      have HB := hid hnb
      clear hle2 hle3 hle e
      generalize hct : waitCount (waitsB ext src thr dn wt) l = ct at *
      have Hct : Hid (waitCount (waitsB ext src thr dn wt) l = ct) := hct
      clear hct
      go_wp2
      go_ret
      refine ⟨?_, m, rfl⟩
      rw [Hct.out]
      unfold capped
      rw [if_neg HB.out]
      simp
end Go.Proofs.Ybulkrce
