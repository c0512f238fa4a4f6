import Derived.Test.YbulkrewDoorWord
namespace Go.Proofs.YbulkrewDoor
open Go.RowKit
set_option linter.unusedVariables false

/-- The library's table, as it lies. -/
def Tab (w : World) : Prop := ∀ j, j < Lib.deBruijn64tab.length → w.cell? ⟨0, j, none⟩ = some (.int .u8 (Lib.deBruijn64tab.getD j 0 : Nat))

theorem tz_key (x a : Nat) (hx : x < 18446744073709551616) (hx0 : x ≠ 0) (hlow : x &&& (18446744073709551616 - x) = a) :
    IntKind.u64.wrap (bits BinOp.and IntKind.u64 (x : Int) (IntKind.u64.wrap (-(x : Int))) * 285870213051353865) / 288230376151711744 = ((a * 285870213051353865 % 18446744073709551616 / 288230376151711744 : Nat) : Int) := by
  have e1 : IntKind.u64.wrap (-(x : Int)) = ((18446744073709551616 - x : Nat) : Int) := by rw [IntKind.wrap_u64]; omega
  rw [e1, bits_and_u64_nat x _ hx (by omega), hlow, IntKind.wrap_u64]
  omega

set_option maxRecDepth 100000 in
set_option maxHeartbeats 1000000 in
theorem tz_core (x k idx : Nat) (w : World) (hx0 : ((x : Int) == 0) = false)
    (key : IntKind.u64.wrap (bits BinOp.and IntKind.u64 (x : Int) (IntKind.u64.wrap (-(x : Int))) * 285870213051353865) / 288230376151711744 = (idx : Int))
    (hi : idx < 64) (hk : k < 64) (hcell : w.cell? ⟨0, idx, none⟩ = some (.int .u8 k)) :
    Calls Ybad.prog 14 #[.int .u64 x] w fun e w' => e = .returned (.int .i64 k) ∧ w' = w := by
  go_enter Ybad.func14, Ybad.ntmps14
  go_wp2_with (simp only [key])
  go_ret
  exact ⟨rfl, rfl⟩

theorem tz_any (x : Nat) (hx : x < 18446744073709551616) (hx0 : x ≠ 0) (w : World) (hT : Tab w) :
    Calls Ybad.prog 14 #[.int .u64 x] w fun e w' => e = .returned (.int .i64 (Lib.ctz 64 x : Nat)) ∧ w' = w := by
  obtain ⟨hlow, hk⟩ := Lib.lowest_bit 64 x hx0 hx
  obtain ⟨hi, htab⟩ := Lib.deBruijn64_at _ hk
  have hcell := hT _ hi
  rw [htab] at hcell
  exact tz_core x _ _ w (by simp; omega) (tz_key x _ hx hx0 hlow) hi hk hcell

/-- k bytes of L are plain, and no more. -/
def PlainTo (bs : Nat → Nat) (L k : Nat) : Prop := k ≤ L ∧ (∀ j, j < k → plainB (bs j) = true) ∧ (k < L → plainB (bs k) = false)
def PlainPost (w : World) (bs : Nat → Nat) (L : Nat) (e : Ending) (w' : World) : Prop := ∃ k m, e = .returned (.int .i64 (k : Nat)) ∧ PlainTo bs L k ∧ w' = w.drewN m

/-- The least place that is not plain. -/
theorem least_not (p : Nat → Bool) : ∀ n, (∀ j, j < n → p j = true) ∨ ∃ k, k < n ∧ p k = false ∧ ∀ j, j < k → p j = true
  | 0 => Or.inl fun j h => by omega
  | n + 1 => by
    rcases least_not p n with h | ⟨k, hk, h1, h2⟩
    · cases hp : p n
      · exact Or.inr ⟨n, by omega, hp, h⟩
      · refine Or.inl fun j hj => ?_
        by_cases e : j = n
        · subst e; exact hp
        · exact h j (by omega)
    · exact Or.inr ⟨k, by omega, h1, h2⟩

theorem drewN_zero (w : World) : w.drewN 0 = w := rfl

set_option maxRecDepth 100000 in
set_option maxHeartbeats 1000000 in
theorem plainLen_short (tb o L cap : Nat) (bs : Nat → Nat) (w : World) (hL : L < 8) (hcap : L ≤ cap) (hc : ∀ j, j < L → w.cell? ⟨tb, o + j, none⟩ = some (.int .u8 (bs j : Nat))) (hb : ∀ j, bs j < 256) :
    Calls Ybad.prog 8 #[.slice (some ⟨tb, o, none⟩) L cap] w (PlainPost w bs L) := by
  have hl1 : (L : Int) < 8 := by omega
  have HC := hid hc
  clear hc
  go_enter Ybad.func8, Ybad.ntmps8
  go_wp2_with fail
  go_loopw [12] (fun s wr => ∃ (k : Nat), k ≤ L ∧ s = .int .i64 k ∧ (∀ j, j < k → plainB (bs j) = true) ∧ wr = w) (fun s _ => L - (intOf s).toNat)
  case atStart => exact ⟨0, by omega, rfl, fun j h => by omega, rfl⟩
  case round =>
    obtain ⟨k, hk, rfl, hp, rfl⟩ := hrel
    have HP := hid hp
    clear hp
    by_cases hkl : k < L
    · have cc := HC.out k hkl
      have k0 : (0 : Int) ≤ (k : Int) := by omega
      have k1 : (k : Int) < (L : Int) := by omega
      have hbk := hb k
      cases hpl : plainB (bs k)
      · have HPL := hid hpl
        by_cases h1 : (bs k : Int) < 32
        · clear hpl
          generalize hcb : bs k = c at cc h1
          go_wp2
          go_ret
          exact ⟨k, 0, by simp, ⟨by omega, HP.out, fun _ => HPL.out⟩, rfl⟩
        by_cases h2 : bs k = 34
        · have cc2 : wr.cell? ⟨tb, o + k, none⟩ = some (.int .u8 34) := by rw [cc, h2]; rfl
          clear hpl cc h1 h2
          go_wp2
          go_ret
          exact ⟨k, 0, by simp, ⟨by omega, HP.out, fun _ => HPL.out⟩, rfl⟩
        by_cases h3 : bs k = 92
        · have cc2 : wr.cell? ⟨tb, o + k, none⟩ = some (.int .u8 92) := by rw [cc, h3]; rfl
          clear hpl cc h1 h2 h3
          go_wp2
          go_ret
          exact ⟨k, 0, by simp, ⟨by omega, HP.out, fun _ => HPL.out⟩, rfl⟩
        · have g4 : (128 : Int) ≤ (bs k : Int) := by
            rcases Nat.lt_or_ge (bs k) 128 with h4 | h4
            · exfalso
              have : plainB (bs k) = true := by simp [plainB, h2, h3, h4]; omega
              rw [this] at hpl; cases hpl
            · omega
          have g2 : ((bs k : Int) == 34) = false := by simp; omega
          have g3 : ((bs k : Int) == 92) = false := by simp; omega
          clear hpl h2 h3
          generalize hcb : bs k = c at cc h1 g2 g3 g4
          go_wp2
          go_ret
          exact ⟨k, 0, by simp, ⟨by omega, HP.out, fun _ => HPL.out⟩, rfl⟩
      · have hq : 32 ≤ bs k ∧ bs k ≠ 34 ∧ bs k ≠ 92 ∧ bs k < 128 := by simpa [plainB, and_assoc] using hpl
        have g1 : ¬ (bs k : Int) < 32 := by omega
        have g2 : ((bs k : Int) == 34) = false := by simp; omega
        have g3 : ((bs k : Int) == 92) = false := by simp; omega
        have g4 : ¬ (128 : Int) ≤ (bs k : Int) := by omega
        have HPL := hid hpl
        clear hq hpl
        generalize hcb : bs k = c at *
        go_wp2
        go_roundw
        case rel =>
          refine ⟨k + 1, by omega, by go_num, fun j hj => ?_, by trivial⟩
          by_cases e : j = k
          · subst e; rw [hcb]; exact HPL.out
          · exact HP.out j (by omega)
        case measure => simp [intOf]; omega
    · have ek : k = L := by omega
      subst ek
      go_wp2
      go_ret
      exact ⟨k, 0, by simp, ⟨by omega, HP.out, fun h => by omega⟩, rfl⟩

theorem Tab.drewN {w : World} (h : Tab w) (m : Nat) : Tab (w.drewN m) := fun j hj => by
  have hb : Below (w.heap.size) w (w.drewN m) := below_drewN (Below.refl _ _) m
  exact (hb.cell (World.block_lt_of_cell? w _ (h j hj))).trans (h j hj)

set_option maxRecDepth 100000 in
set_option maxHeartbeats 1000000 in
theorem plainLen_long (tb o L cap : Nat) (bs : Nat → Nat) (w : World) (hL : 8 ≤ L) (hL2 : L ≤ 5000) (hcap : L ≤ cap) (hcm : cap ≤ 100000) (hc : ∀ j, j < L → w.cell? ⟨tb, o + j, none⟩ = some (.int .u8 (bs j : Nat))) (hb : ∀ j, bs j < 256) (hT : Tab w) :
    Calls Ybad.prog 8 #[.slice (some ⟨tb, o, none⟩) L cap] w (PlainPost w bs L) := by
  have hl1 : ¬ (L : Int) < 8 := by omega
  obtain ⟨M, hM⟩ : ∃ M, M + 8 = L := ⟨L - 8, by omega⟩
  have m1 : (L : Int) - 8 = (M : Int) := by omega
  have m2 : IntKind.i64.wrap (M : Int) = (M : Int) := by simp [IntKind.wrap, IntKind.signed, IntKind.bits]; omega
  have HC := hid hc
  have HT := hid hT
  clear hc hT
  go_enter Ybad.func8, Ybad.ntmps8
  go_wp2_with fail
  go_loopw [5] (fun s wr => ∃ (i m : Nat), i < L ∧ s = .int .i64 i ∧ (∀ j, j < i → plainB (bs j) = true) ∧ wr = w.drewN m) (fun s _ => L - (intOf s).toNat)
  case atStart => exact ⟨0, 0, by omega, rfl, fun j h => by omega, rfl⟩
  case round =>
    obtain ⟨i, m, hi, rfl, hp, hw⟩ := hrel
    have HP := hid hp
    clear hp
    subst hw
    have cells : ∀ e, e ≤ M → ∀ j, j < 8 → (w.drewN m).cell? ⟨tb, o + e + j, none⟩ = some (.int .u8 (bs (e + j) : Nat)) := fun e he j hj => by
      have h1 := HC.out (e + j) (by omega)
      rw [← Nat.add_assoc] at h1
      have hbl : Below w.heap.size w (w.drewN m) := below_drewN (Below.refl _ _) m
      exact (hbl.cell (World.block_lt_of_cell? w _ h1)).trans h1
    have HWD := hid (fun e (he : e ≤ M) => word_any tb (o + e) (cap - e) (fun j => bs (e + j)) (w.drewN m) (cells e he) (fun j => hb _) (by omega))
    have HNP := hid (fun e w' => notPlain_any (wordOf fun j => bs (e + j)) (wordOf_lt _ (fun j => hb _)) w')
    have HTZ := hid (fun e (h : marks (wordOf fun j => bs (e + j)) ≠ 0) m' => tz_any (marks (wordOf fun j => bs (e + j))) (marks_lt _) h (w.drewN m') (HT.out.drewN m'))
    have HMZ := hid (fun e (h : ∀ j, j < 8 → plainB (bs (e + j)) = true) => marks_zero (wordOf fun j => bs (e + j)) (wordOf_lt _ (fun j => hb _)) (fun j hj => by rw [wordOf_byte _ (fun j => hb _) j hj]; exact h j hj))
    have HMF := hid (fun e q (hq : q < 8) (h : ∀ j, j < q → plainB (bs (e + j)) = true) (hn : plainB (bs (e + q)) = false) => marks_first (wordOf fun j => bs (e + j)) q (wordOf_lt _ (fun j => hb _)) hq (fun j hj => by rw [wordOf_byte _ (fun j => hb _) j (by omega)]; exact h j hj) (by rw [wordOf_byte _ (fun j => hb _) q hq]; exact hn))
    clear cells hb
    have l8 : L - M = 8 := by omega
    have l9 : (M : Int) + 8 = (L : Int) := by omega
    have l10 : IntKind.i64.wrap (L : Int) = (L : Int) := by simp [IntKind.wrap, IntKind.signed, IntKind.bits]; omega
    have mm0 : (0 : Int) ≤ (M : Int) := by omega
    have mm1 : (M : Int) ≤ (L : Int) := by omega
    have mm2 : (L : Int) ≤ (cap : Int) := by omega
    by_cases hMi : M < i
    · have h1 : (M : Int) < (i : Int) := by omega
      go_wp2_with fail
      refine (HWD.out M (by omega)).mono ?_
      rintro ee w1 ⟨rfl, m', rfl⟩
      go_wp2_with fail
      refine (HNP.out M _).mono ?_
      rintro ee w2 ⟨rfl, rfl⟩
      rcases least_not (fun j => plainB (bs (M + j))) 8 with hall | ⟨q, hq, hqn, hqp⟩
      · have hz := HMZ.out M hall
        have HA := hid hall
        clear hall HMZ HMF HTZ HWD HNP
        rw [hz]
        clear hz
        go_wp2
        go_ret
        refine ⟨L, _, by simp, ⟨by omega, fun j hj => ?_, fun h => by omega⟩, rfl⟩
        by_cases hje : j < M
        · exact HP.out j (by omega)
        · have := HA.out (j - M) (by omega)
          simpa [show M + (j - M) = j by omega] using this
      · obtain ⟨hne, hctz⟩ := HMF.out M q hq hqp hqn
        have HTZ2 := hid (HTZ.out M hne)
        rw [hctz] at HTZ2
        have HQ := hid (show _ ∧ _ from ⟨hqp, hqn⟩)
        have hnz : ((marks (wordOf fun j => bs (M + j)) : Nat) : Int) ≠ 0 := by omega
        have hnb : (((marks (wordOf fun j => bs (M + j)) : Nat) : Int) == 0) = false := by simpa using hne
        clear HMZ HMF HTZ HWD HNP hqp hqn hctz hne
        generalize marks (wordOf fun j => bs (M + j)) = mk at *
        obtain ⟨t, ht⟩ : ∃ t : Nat, 8 * q + 7 = t := ⟨_, rfl⟩
        rw [ht] at HTZ2
        have t1 : (t : Int).tdiv 8 = (q : Int) := by rw [Int.tdiv_eq_ediv_of_nonneg (by omega)]; omega
        have t2 : IntKind.i64.wrap (q : Int) = (q : Int) := by simp [IntKind.wrap, IntKind.signed, IntKind.bits]; omega
        obtain ⟨z, hz⟩ : ∃ z, M + q = z := ⟨_, rfl⟩
        have z1 : (M : Int) + (q : Int) = (z : Int) := by omega
        have z2 : IntKind.i64.wrap (z : Int) = (z : Int) := by simp [IntKind.wrap, IntKind.signed, IntKind.bits]; omega
        go_wp2_with fail
        refine (HTZ2.out _).mono ?_
        rintro ee w3 ⟨rfl, rfl⟩
        go_wp2
        go_ret
        refine ⟨z, _, by simp, ⟨by omega, fun j hj => ?_, fun _ => by rw [← hz]; exact HQ.out.2⟩, rfl⟩
        by_cases hje : j < M
        · exact HP.out j (by omega)
        · have := HQ.out.1 (j - M) (by omega)
          simpa [show M + (j - M) = j by omega] using this
    by_cases hiM : i = M
    · subst hiM
      have h1 : ¬ (i : Int) < (i : Int) := by omega
      go_wp2_with fail
      refine (HWD.out i (by omega)).mono ?_
      rintro ee w1 ⟨rfl, m', rfl⟩
      go_wp2_with fail
      refine (HNP.out i _).mono ?_
      rintro ee w2 ⟨rfl, rfl⟩
      rcases least_not (fun j => plainB (bs (i + j))) 8 with hall | ⟨q, hq, hqn, hqp⟩
      · have hz := HMZ.out i hall
        have HA := hid hall
        clear hall HMZ HMF HTZ HWD HNP
        rw [hz]
        clear hz
        go_wp2
        go_ret
        refine ⟨L, _, by simp, ⟨by omega, fun j hj => ?_, fun h => by omega⟩, rfl⟩
        by_cases hje : j < i
        · exact HP.out j (by omega)
        · have := HA.out (j - i) (by omega)
          simpa [show i + (j - i) = j by omega] using this
      · obtain ⟨hne, hctz⟩ := HMF.out i q hq hqp hqn
        have HTZ2 := hid (HTZ.out i hne)
        rw [hctz] at HTZ2
        have HQ := hid (show _ ∧ _ from ⟨hqp, hqn⟩)
        have hnz : ((marks (wordOf fun j => bs (i + j)) : Nat) : Int) ≠ 0 := by omega
        have hnb : (((marks (wordOf fun j => bs (i + j)) : Nat) : Int) == 0) = false := by simpa using hne
        clear HMZ HMF HTZ HWD HNP hqp hqn hctz hne
        generalize marks (wordOf fun j => bs (i + j)) = mk at *
        obtain ⟨t, ht⟩ : ∃ t : Nat, 8 * q + 7 = t := ⟨_, rfl⟩
        rw [ht] at HTZ2
        have t1 : (t : Int).tdiv 8 = (q : Int) := by rw [Int.tdiv_eq_ediv_of_nonneg (by omega)]; omega
        have t2 : IntKind.i64.wrap (q : Int) = (q : Int) := by simp [IntKind.wrap, IntKind.signed, IntKind.bits]; omega
        obtain ⟨z, hz⟩ : ∃ z, i + q = z := ⟨_, rfl⟩
        have z1 : (i : Int) + (q : Int) = (z : Int) := by omega
        have z2 : IntKind.i64.wrap (z : Int) = (z : Int) := by simp [IntKind.wrap, IntKind.signed, IntKind.bits]; omega
        go_wp2_with fail
        refine (HTZ2.out _).mono ?_
        rintro ee w3 ⟨rfl, rfl⟩
        go_wp2
        go_ret
        refine ⟨z, _, by simp, ⟨by omega, fun j hj => ?_, fun _ => by rw [← hz]; exact HQ.out.2⟩, rfl⟩
        by_cases hje : j < i
        · exact HP.out j (by omega)
        · have := HQ.out.1 (j - i) (by omega)
          simpa [show i + (j - i) = j by omega] using this
    · have h1 : ¬ (M : Int) < (i : Int) := by omega
      have h2 : ((i : Int) == (M : Int)) = false := by simp; omega
      obtain ⟨i8, hi8⟩ : ∃ i8, i + 8 = i8 := ⟨_, rfl⟩
      have n1 : (i : Int) + 8 = (i8 : Int) := by omega
      have n2 : IntKind.i64.wrap (i8 : Int) = (i8 : Int) := by simp [IntKind.wrap, IntKind.signed, IntKind.bits]; omega
      have n3 : i8 - i = 8 := by omega
      have n4 : (0 : Int) ≤ (i : Int) := by omega
      have n5 : (i : Int) ≤ (i8 : Int) := by omega
      have n6 : (i8 : Int) ≤ (cap : Int) := by omega
      go_wp2_with fail
      refine (HWD.out i (by omega)).mono ?_
      rintro ee w1 ⟨rfl, m', rfl⟩
      go_wp2_with fail
      refine (HNP.out i _).mono ?_
      rintro ee w2 ⟨rfl, rfl⟩
      rcases least_not (fun j => plainB (bs (i + j))) 8 with hall | ⟨q, hq, hqn, hqp⟩
      · have hz := HMZ.out i hall
        have HA := hid hall
        clear hall HMZ HMF HTZ HWD HNP
        rw [hz]
        clear hz
        go_wp2
        go_roundw
        case rel =>
          refine ⟨i + 8, _, by omega, by go_num, fun j hj => ?_, rfl⟩
          by_cases hje : j < i
          · exact HP.out j (by omega)
          · have := HA.out (j - i) (by omega)
            simpa [show i + (j - i) = j by omega] using this
        case measure => simp [intOf]; omega
      · obtain ⟨hne, hctz⟩ := HMF.out i q hq hqp hqn
        have HTZ2 := hid (HTZ.out i hne)
        rw [hctz] at HTZ2
        have HQ := hid (show _ ∧ _ from ⟨hqp, hqn⟩)
        have hnz : ((marks (wordOf fun j => bs (i + j)) : Nat) : Int) ≠ 0 := by omega
        have hnb : (((marks (wordOf fun j => bs (i + j)) : Nat) : Int) == 0) = false := by simpa using hne
        clear HMZ HMF HTZ HWD HNP hqp hqn hctz hne
        generalize marks (wordOf fun j => bs (i + j)) = mk at *
        obtain ⟨t, ht⟩ : ∃ t : Nat, 8 * q + 7 = t := ⟨_, rfl⟩
        rw [ht] at HTZ2
        have t1 : (t : Int).tdiv 8 = (q : Int) := by rw [Int.tdiv_eq_ediv_of_nonneg (by omega)]; omega
        have t2 : IntKind.i64.wrap (q : Int) = (q : Int) := by simp [IntKind.wrap, IntKind.signed, IntKind.bits]; omega
        obtain ⟨z, hz⟩ : ∃ z, i + q = z := ⟨_, rfl⟩
        have z1 : (i : Int) + (q : Int) = (z : Int) := by omega
        have z2 : IntKind.i64.wrap (z : Int) = (z : Int) := by simp [IntKind.wrap, IntKind.signed, IntKind.bits]; omega
        go_wp2_with fail
        refine (HTZ2.out _).mono ?_
        rintro ee w3 ⟨rfl, rfl⟩
        go_wp2
        go_ret
        refine ⟨z, _, by simp, ⟨by omega, fun j hj => ?_, fun _ => by rw [← hz]; exact HQ.out.2⟩, rfl⟩
        by_cases hje : j < i
        · exact HP.out j (by omega)
        · have := HQ.out.1 (j - i) (by omega)
          simpa [show i + (j - i) = j by omega] using this
end Go.Proofs.YbulkrewDoor
