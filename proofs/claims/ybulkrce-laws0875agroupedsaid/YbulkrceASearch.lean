import Derived.Test.YbulkrceAMem
import Derived.Deep.RegionHeld3
namespace Go.Proofs.Ybulkrce
open Go.RowKit
set_option linter.unusedVariables false

set_option maxRecDepth 100000 in
set_option maxHeartbeats 1000000 in
theorem isNaN_any (x : Int) (w : World) : Calls Yba.prog 32 #[.int .i32 x] w fun e w' => e = .returned (.bool false) ∧ w' = w := by
  go_enter Yba.func32, Yba.ntmps32
  go_wp2
  go_ret
  exact ⟨by simp, rfl⟩

/-- cmp.Compare. -/
def cmpI (x y : Int) : Int := if x < y then -1 else if y < x then 1 else 0

set_option maxRecDepth 100000 in
set_option maxHeartbeats 1000000 in
theorem compare_any (x y : Int) (w : World) : Calls Yba.prog 30 #[.int .i32 x, .int .i32 y] w fun e w' => e = .returned (.int .i64 (cmpI x y)) ∧ w' = w := by
  have H1 := hidB (isNaN_any x w)
  have H2 := hidB (isNaN_any y w)
  go_enter Yba.func30, Yba.ntmps30
  go_wp2_with fail
  refine H1.out.mono ?_
  rintro e w1 ⟨rfl, rfl⟩
  go_wp2_with fail
  refine H2.out.mono ?_
  rintro e w2 ⟨rfl, rfl⟩
  by_cases h : x < y
  · have HC := hidB (show cmpI x y = -1 by simp [cmpI, h])
    go_wp2
    go_ret
    exact ⟨by rw [HC.out]; rfl, rfl⟩
  · by_cases h2 : y < x
    · have HC := hidB (show cmpI x y = 1 by simp [cmpI, h, h2])
      go_wp2
      go_ret
      exact ⟨by rw [HC.out]; rfl, rfl⟩
    · have HC := hidB (show cmpI x y = 0 by simp [cmpI, h, h2])
      go_wp2
      go_ret
      exact ⟨by rw [HC.out]; rfl, rfl⟩

set_option maxRecDepth 100000 in
set_option maxHeartbeats 1000000 in
theorem find1_any (x v y : Int) (w : World) : Calls Yba.prog 29 #[.agg #[.int .i32 x, .int .i32 v], .int .i32 y] w fun e w' => e = .returned (.int .i64 (cmpI x y)) ∧ Below w.heap.size w w' := by
  have HC := hidB (fun w => compare_any x y w)
  have HB := hidB ((Below.refl w.heap.size w).alloc (Nat.le_refl _) (.cells #[.int .i32 x, .int .i32 v] 105))
  go_enter Yba.func29, Yba.ntmps29
  go_wp2_with fail
  refine (HC.out _).mono ?_
  rintro e w1 ⟨rfl, rfl⟩
  go_wp2
  go_ret
  exact ⟨rfl, HB.out⟩

/-- The entries of a sparse clock, as they lie in block g. -/
def EntAt (w : World) (g : Nat) (ks : List Nat) (f : Nat → Int) : Prop := ∀ k, k < ks.length → w.cell? ⟨g, k * 2, none⟩ = some (.int .i32 (ks.getD k 0 : Nat)) ∧ w.cell? ⟨g, k * 2 + 1, none⟩ = some (.int .i32 (f (ks.getD k 0)))

theorem EntAt.keep {w w' : World} {g : Nat} {ks : List Nat} {f : Nat → Int} (h : EntAt w g ks f) {n : Nat} (hb : Below n w w') (hg : g < n) : EntAt w' g ks f := fun k hk =>
  ⟨by rw [hb.cell (p := ⟨g, k * 2, none⟩) hg]; exact (h k hk).1, by rw [hb.cell (p := ⟨g, k * 2 + 1, none⟩) hg]; exact (h k hk).2⟩

/-- What the search answers. -/
def Found (ks : List Nat) (s : Nat) (p : Nat) (ok : Bool) : Prop := p ≤ ks.length ∧ (ok = true → p < ks.length ∧ ks.getD p 0 = s) ∧ (ok = false → ∀ k, k < ks.length → ks.getD k 0 ≠ s)

def SearchPost (W : World) (ks : List Nat) (s : Nat) (e : Ending) (w' : World) : Prop := ∃ p ok, e = .returned (.tuple #[.int .i64 (p : Nat), .bool ok]) ∧ Found ks s p ok ∧ Below W.heap.size W w'

set_option maxRecDepth 100000 in
set_option maxHeartbeats 4000000 in
theorem search_any (g ec : Nat) (ea : Option Addr) (ks : List Nat) (f : Nat → Int) (s : Nat) (w : World) (hl : ks.length ≤ 4) (hea : 0 < ks.length → ea = some ⟨g, 0, none⟩ ∧ g < w.heap.size) (he : EntAt w g ks f)
    (hs : s < 4) (hsort : ∀ x y, x < y → y < ks.length → ks.getD x 0 < ks.getD y 0) :
    Calls Yba.prog 28 #[.slice ea ks.length ec, .int .i32 s, .func (.func 29) #[] #[]] w (SearchPost w ks s) := by
  obtain ⟨n, hn⟩ : ∃ n, ks.length = n := ⟨_, rfl⟩
  rw [hn] at hl hea ⊢
  have HEA := hidB hea
  have HE := hidB he
  have HSO := hidB hsort
  have HF := hidB (fun x v y w => find1_any x v y w)
  clear hea he hsort
  have hn0 : (0 : Int) ≤ (n : Int) := by omega
  go_enter Yba.func28, Yba.ntmps28
  go_wp2_with fail
  go_loopw [9, 10] (fun a b wr => ∃ (i j : Nat), i ≤ j ∧ j ≤ n ∧ a = .int .i64 i ∧ b = .int .i64 j ∧ Below w.heap.size w wr ∧ (∀ k, k < i → ks.getD k 0 < s) ∧ ∀ k, j ≤ k → k < n → s ≤ ks.getD k 0) (fun a b _ => (intOf b).toNat - (intOf a).toNat)
  case atStart => exact ⟨0, n, by omega, by omega, rfl, rfl, Below.refl _ _, fun k hk => by omega, fun k h1 h2 => by omega⟩
  case round =>
    obtain ⟨i, j, hij, hjn, rfl, rfl, hB, hlo, hhi⟩ := hrel
    by_cases hlt : i < j
    · have l1 : (i : Int) < (j : Int) := by omega
      obtain ⟨h, hh⟩ : ∃ h, (i + j) / 2 = h := ⟨_, rfl⟩
      obtain ⟨rfl, hg⟩ := HEA.out (by omega)
      have hk := (HE.out.keep hB hg) h (by omega)
      obtain ⟨kh1, kh2⟩ := hk
      have h0 : (0 : Int) ≤ (h : Int) := by omega
      have h1 : (h : Int) < (n : Int) := by omega
      have HL := hidB (show _ ∧ _ ∧ _ from ⟨hB, hlo, hhi⟩)
      clear hB hlo hhi
      obtain ⟨t, ht⟩ : ∃ t : Nat, i + j = t := ⟨_, rfl⟩
      have t1 : (i : Int) + (j : Int) = (t : Int) := by omega
      have t2 : IntKind.i64.wrap (t : Int) = (t : Int) := by simp [IntKind.wrap, IntKind.signed, IntKind.bits]; omega
      have t3 : IntKind.u64.wrap (t : Int) = (t : Int) := by simp [IntKind.wrap, IntKind.signed, IntKind.bits]; omega
      have t4 : (t : Int) / 2 = (h : Int) := by omega
      generalize hx : ks.getD h 0 = x at *
      generalize f x = v at *
      go_wp2_with fail
      refine (HF.out _ _ _ _).mono ?_
      rintro e w1 ⟨rfl, hB1⟩
      by_cases hc : x < s
      · have HC := hidB (show cmpI (x : Int) (s : Int) = -1 by unfold cmpI; rw [if_pos (by omega)])
        rw [HC.out]
        go_wp2
        go_roundw
        case rel =>
          obtain ⟨hB, hlo, hhi⟩ := HL.out
          exact ⟨h + 1, j, by omega, by omega, by go_num, rfl, hB.trans (hB1.mono hB.size), fun k hk => (by
            rcases Nat.lt_or_ge k h with h' | h'
            · have := HSO.out k h h' (by omega); omega
            · have : k = h := by omega
              subst this; omega), hhi⟩
        case measure => simp [intOf]; omega
      · have HC := hidB (show ¬ cmpI (x : Int) (s : Int) < 0 by unfold cmpI; rw [if_neg (by omega)]; split <;> omega)
        have hc2 := HC.out
        generalize cmpI (x : Int) (s : Int) = c at *
        go_wp2
        go_roundw
        case rel =>
          obtain ⟨hB, hlo, hhi⟩ := HL.out
          exact ⟨i, h, by omega, by omega, rfl, rfl, hB.trans (hB1.mono hB.size), hlo, fun k h1 h2 => (by
            rcases Nat.lt_or_ge h k with h' | h'
            · have := HSO.out h k h' (by omega); omega
            · have : k = h := by omega
              subst this; omega)⟩
        case measure => simp [intOf]; omega
    · have eij : i = j := by omega
      subst eij
      have l1 : ¬ (i : Int) < (i : Int) := by omega
      by_cases hin : i < n
      · obtain ⟨rfl, hg⟩ := HEA.out (by omega)
        obtain ⟨kh1, kh2⟩ := (HE.out.keep hB hg) i (by omega)
        have i0 : (0 : Int) ≤ (i : Int) := by omega
        have i1 : (i : Int) < (n : Int) := by omega
        have HL := hidB (show _ ∧ _ ∧ _ from ⟨hB, hlo, hhi⟩)
        clear hB hlo hhi
        generalize hx : ks.getD i 0 = x at *
        generalize f x = v at *
        go_wp2_with fail
        refine (HF.out _ _ _ _).mono ?_
        rintro e w1 ⟨rfl, hB1⟩
        by_cases hc : x = s
        · have HC := hidB (show cmpI (x : Int) (s : Int) = 0 by unfold cmpI; rw [if_neg (by omega), if_neg (by omega)])
          rw [HC.out]
          go_wp2
          go_ret2
          obtain ⟨hB, hlo, hhi⟩ := HL.out
          exact ⟨i, true, by simp, ⟨by omega, fun _ => ⟨by omega, by omega⟩, fun h => by cases h⟩, hB.trans (hB1.mono hB.size)⟩
        · have HC := hidB (show ¬ cmpI (x : Int) (s : Int) = 0 by unfold cmpI; split; omega; split <;> omega)
          have hc2 := HC.out
          generalize cmpI (x : Int) (s : Int) = c at *
          go_wp2
          go_ret2
          obtain ⟨hB, hlo, hhi⟩ := HL.out
          have hno : ∀ k, k < ks.length → ks.getD k 0 ≠ s := fun k hk => by
            rcases Nat.lt_or_ge k i with h' | h'
            · have := hlo k h'; omega
            · rcases Nat.lt_or_ge i k with h2 | h2
              · have := HSO.out i k h2 hk
                have := hhi i (by omega) (by omega)
                omega
              · have : k = i := by omega
                subst this; omega
          exact ⟨i, false, by simp [hc2], ⟨by omega, fun h => (by cases h), fun _ => hno⟩, hB.trans (hB1.mono hB.size)⟩
      · have ein : i = n := by omega
        subst ein
        have HL := hidB (show _ ∧ _ ∧ _ from ⟨hB, hlo, hhi⟩)
        clear hB hlo hhi
        go_wp2
        go_ret2
        obtain ⟨hB, hlo, hhi⟩ := HL.out
        exact ⟨i, false, by simp, ⟨by omega, fun h => (by cases h), fun _ k hk => (by have := hlo k (by omega); omega)⟩, hB⟩

/-- find, then the value: what get reads. -/
def sparseGet (ks : List Nat) (f : Nat → Int) (s : Nat) : Int := if s ∈ ks then f s else 0

theorem Found.get {ks : List Nat} {s p : Nat} {ok : Bool} (h : Found ks s p ok) (f : Nat → Int) : (ok = true → sparseGet ks f s = f s) ∧ (ok = false → sparseGet ks f s = 0) := by
  obtain ⟨_, h1, h2⟩ := h
  refine ⟨fun e => ?_, fun e => ?_⟩
  · obtain ⟨hp, he⟩ := h1 e
    have : s ∈ ks := by
      rw [← he]
      simp [hp]
    simp [sparseGet, this]
  · have : s ∉ ks := fun hm => by
      obtain ⟨k, hk, e2⟩ := List.getElem_of_mem hm
      exact h2 e k hk (by simp [hk, e2])
    simp [sparseGet, this]

set_option maxRecDepth 100000 in
set_option maxHeartbeats 4000000 in
theorem find_any (B o g ec : Nat) (ea : Option Addr) (ks : List Nat) (f : Nat → Int) (s : Nat) (w : World) (hl : ks.length ≤ 4) (hce : w.cell? ⟨B, o, none⟩ = some (.slice ea ks.length ec)) (hea : 0 < ks.length → ea = some ⟨g, 0, none⟩ ∧ g < w.heap.size) (he : EntAt w g ks f)
    (hs : s < 4) (hsort : ∀ x y, x < y → y < ks.length → ks.getD x 0 < ks.getD y 0) :
    Calls Yba.prog 26 #[.pointer (some ⟨B, o, none⟩), .int .i64 s] w (SearchPost w ks s) := by
  have HS := hidB (search_any g ec ea ks f s w hl hea he hs hsort)
  have s2 : IntKind.i32.wrap (s : Int) = (s : Int) := by simp [IntKind.wrap, IntKind.signed, IntKind.bits]; omega
  clear hea he hsort
  generalize hn : ks.length = n at *
  go_enter Yba.func26, Yba.ntmps26
  go_wp2_with fail
  refine HS.out.mono ?_
  rintro e w1 ⟨p, ok, rfl, hf, hb⟩
  go_wp2
  go_ret2
  exact ⟨p, ok, by simp, hf, hb⟩

set_option maxRecDepth 100000 in
set_option maxHeartbeats 4000000 in
theorem get_sparse (B o g ec : Nat) (ea : Option Addr) (ks : List Nat) (f : Nat → Int) (s : Nat) (w : World) (hl : ks.length ≤ 4) (hce : w.cell? ⟨B, o, none⟩ = some (.slice ea ks.length ec)) (hcd : w.cell? ⟨B, o + 1, none⟩ = some (.slice none 0 0))
    (hea : 0 < ks.length → ea = some ⟨g, 0, none⟩ ∧ g < w.heap.size) (he : EntAt w g ks f)
    (hs : s < 4) (hsort : ∀ x y, x < y → y < ks.length → ks.getD x 0 < ks.getD y 0) :
    Calls Yba.prog 22 #[.pointer (some ⟨B, o, none⟩), .int .i64 s] w fun e w' => e = .returned (.int .i32 (sparseGet ks f s)) ∧ Below w.heap.size w w' := by
  have hB : B < w.heap.size := World.block_lt_of_cell? w _ hce
  have HS := hidB (find_any B o g ec ea ks f s w hl hce hea he hs hsort)
  have HEA := hidB hea
  have HE := hidB he
  have HCE := hidB hce
  clear hea he hsort hce
  go_enter Yba.func22, Yba.ntmps22
  go_wp2_with fail
  refine HS.out.mono ?_
  rintro e w1 ⟨p, ok, rfl, hf, hb⟩
  obtain ⟨hg1, hg2⟩ := hf.get f
  cases ok
  · have HG := hidB (hg2 rfl)
    go_wp2
    go_ret
    exact ⟨by rw [HG.out]; rfl, hb⟩
  · obtain ⟨hp, hps⟩ := hf.2.1 rfl
    obtain ⟨rfl, hgl⟩ := HEA.out (by omega)
    obtain ⟨-, kh⟩ := (HE.out.keep hb hgl) p hp
    rw [hps] at kh
    have ce : w1.cell? ⟨B, o, none⟩ = some (.slice (some ⟨g, 0, none⟩) ks.length ec) := by rw [hb.cell (p := ⟨B, o, none⟩) hB]; exact HCE.out
    have p0 : (0 : Int) ≤ (p : Int) := by omega
    have p1 : (p : Int) < (ks.length : Int) := by omega
    have HG := hidB (hg1 rfl)
    clear hf hg1 hg2
    generalize hn : ks.length = n at *
    generalize f s = v at *
    go_wp2
    go_ret
    exact ⟨by rw [HG.out]; rfl, hb⟩

set_option maxRecDepth 100000 in
set_option maxHeartbeats 4000000 in
theorem get_flat (B o x : Nat) (f : Nat → Int) (s : Nat) (w : World) (hcd : w.cell? ⟨B, o + 1, none⟩ = some (.slice (some ⟨x, 0, none⟩) 4 4)) (hs : s < 4) (hx : w.cell? ⟨x, s, none⟩ = some (.int .i32 (f s))) :
    Calls Yba.prog 22 #[.pointer (some ⟨B, o, none⟩), .int .i64 s] w fun e w' => e = .returned (.int .i32 (f s)) ∧ Below w.heap.size w w' := by
  have p0 : (0 : Int) ≤ (s : Int) := by omega
  have p1 : (s : Int) < 4 := by omega
  generalize f s = v at *
  go_enter Yba.func22, Yba.ntmps22
  go_wp2
  go_ret
  exact ⟨by simp, Below.refl _ _⟩
end Go.Proofs.Ybulkrce
