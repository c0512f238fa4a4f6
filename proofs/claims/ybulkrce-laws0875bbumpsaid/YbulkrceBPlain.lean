import Derived.Test.YbulkrceBMem
namespace Go.Proofs.Ybulkrce

theorem ltB_iff (a : Nat → Int) (x y : Nat) : ltB a x y = true ↔ a y < a x ∨ (a x = a y ∧ x < y) := by simp [ltB]
theorem ltB_false (a : Nat → Int) (x y : Nat) : ltB a x y = false ↔ ¬ (a y < a x ∨ (a x = a y ∧ x < y)) := by
  rw [← ltB_iff]; simp
theorem ltB_asym {a : Nat → Int} {x y : Nat} (h : ltB a x y = true) : ltB a y x = false := by
  rw [ltB_iff] at h; rw [ltB_false]; omega
theorem ltB_trans {a : Nat → Int} {x y z : Nat} (h : ltB a x y = true) (h' : ltB a y z = true) : ltB a x z = true := by
  rw [ltB_iff] at *; omega
theorem ltB_neg {a : Nat → Int} {x y z : Nat} (h : ltB a x y = false) (h' : ltB a y z = false) : ltB a x z = false := by
  rw [ltB_false] at *; omega

/-- i's parent, t times over. -/
def parIter : Nat → Nat → Nat
  | 0, i => i
  | t + 1, i => (parIter t i - 1) / 2

/-- The model's places behind t moves, ahead of the last store. -/
def expF (p : Nat → Nat) (i : Nat) : Nat → (Nat → Nat)
  | 0 => p
  | t + 1 => upd (expF p i t) (parIter t i) (p (parIter (t + 1) i))

def pairsF (p : Nat → Nat) (i t : Nat) : Nat → Nat := upd (expF p i t) (parIter t i) (p i)

/-- t moves up were made. -/
def moved (a : Nat → Int) (p : Nat → Nat) (i t : Nat) : Prop := ∀ s, s < t → 0 < parIter s i ∧ ltB a (p i) (p (parIter (s + 1) i)) = true
/-- No further move. -/
def stops (a : Nat → Int) (p : Nat → Nat) (i t : Nat) : Prop := parIter t i = 0 ∨ ltB a (p i) (p (parIter (t + 1) i)) = false

theorem moved_zero (a : Nat → Int) (p : Nat → Nat) (i : Nat) : moved a p i 0 := fun s h => by omega
theorem moved_succ {a : Nat → Int} {p : Nat → Nat} {i t : Nat} (h : moved a p i t) (h0 : 0 < parIter t i) (hl : ltB a (p i) (p (parIter (t + 1) i)) = true) : moved a p i (t + 1) := fun s hs => by
  rcases Nat.lt_or_ge s t with hlt | hge
  · exact h s hlt
  · obtain rfl : s = t := by omega
    exact ⟨h0, hl⟩

theorem stop_unique {a : Nat → Int} {p : Nat → Nat} {i s t : Nat} (h1 : moved a p i s) (h2 : stops a p i s) (h3 : moved a p i t) (h4 : stops a p i t) : s = t := by
  rcases Nat.lt_trichotomy s t with h | h | h
  · obtain ⟨e1, e2⟩ := h3 s h
    rcases h2 with h2 | h2
    · omega
    · rw [e2] at h2; cases h2
  · exact h
  · obtain ⟨e1, e2⟩ := h1 t h
    rcases h4 with h4 | h4
    · omega
    · rw [e2] at h4; cases h4

theorem parIter_lt {a : Nat → Int} {p : Nat → Nat} {i t : Nat} (h : moved a p i t) : ∀ s, s < t → parIter t i < parIter s i := by
  induction t with
  | zero => intro s hs; omega
  | succ t ih =>
    intro s hs
    have h0 := (h t (by omega)).1
    have e : parIter (t + 1) i = (parIter t i - 1) / 2 := rfl
    rcases Nat.lt_or_ge s t with hlt | hge
    · have := ih (fun u hu => h u (by omega)) s hlt
      omega
    · obtain rfl : s = t := by omega
      omega

theorem parIter_le {a : Nat → Int} {p : Nat → Nat} {i t : Nat} (h : moved a p i t) : parIter t i ≤ i := by
  cases t with
  | zero => exact Nat.le_refl _
  | succ t => exact Nat.le_of_lt (parIter_lt h 0 (by omega))

theorem exp_low {a : Nat → Int} {p : Nat → Nat} {i t : Nat} (h : moved a p i t) (j : Nat) (hj : j ≤ parIter t i) : expF p i t j = p j := by
  induction t with
  | zero => rfl
  | succ t ih =>
    have hm : moved a p i t := fun s hs => h s (by omega)
    have := parIter_lt h t (by omega)
    show upd _ _ _ j = _
    rw [upd_other _ _ _ _ (by omega)]
    exact ih hm (by omega)

theorem pairs_zero (p : Nat → Nat) (i k : Nat) : pairsF p i 0 k = p k := by
  show upd p i (p i) k = p k
  by_cases h : k = i
  · subst h; rw [upd_same]
  · rw [upd_other _ _ _ _ h]

theorem pairs_at (p : Nat → Nat) (i t : Nat) : pairsF p i t (parIter t i) = p i := upd_same ..
theorem pairs_low {a : Nat → Int} {p : Nat → Nat} {i t : Nat} (h : moved a p i t) (j : Nat) (hj : j < parIter t i) : pairsF p i t j = p j := by
  unfold pairsF
  rw [upd_other _ _ _ _ (by omega), exp_low h j (by omega)]

/-- One move up is one exchange. -/
theorem pairs_succ {a : Nat → Int} {p : Nat → Nat} {i t : Nat} (h : moved a p i (t + 1)) (k : Nat) :
    pairsF p i (t + 1) k = upd (upd (pairsF p i t) (parIter t i) (pairsF p i t (parIter (t + 1) i))) (parIter (t + 1) i) (pairsF p i t (parIter t i)) k := by
  have hm : moved a p i t := fun s hs => h s (by omega)
  have hlt := parIter_lt h t (by omega)
  rw [pairs_at, pairs_low hm _ hlt]
  unfold pairsF
  by_cases h1 : k = parIter (t + 1) i
  · subst h1; rw [upd_same, upd_same]
  · rw [upd_other _ _ _ _ h1, upd_other _ _ _ _ h1]
    show upd _ _ _ k = _
    by_cases h2 : k = parIter t i
    · subst h2; rw [upd_same, upd_same]
    · rw [upd_other _ _ _ _ h2, upd_other _ _ _ _ h2, upd_other _ _ _ _ h2]

/-- t says where each pair lies. -/
def InvOk (n : Nat) (q t : Nat → Nat) : Prop := (∀ k, k < n → q k < n) ∧ ∀ k, k < n → t (q k) = k

theorem InvOk.inj {n : Nat} {q t : Nat → Nat} (h : InvOk n q t) {k l : Nat} (hk : k < n) (hl : l < n) (e : q k = q l) : k = l := by
  rw [← h.2 k hk, ← h.2 l hl, e]

theorem InvOk.swap {n : Nat} {q t : Nat → Nat} (h : InvOk n q t) {c d : Nat} (hc : c < n) (hd : d < n) (hcd : c ≠ d) :
    InvOk n (upd (upd q c (q d)) d (q c)) (upd (upd t (q d) c) (q c) d) := by
  have hne : q c ≠ q d := fun e => hcd (h.inj hc hd e)
  refine ⟨fun k hk => ?_, fun k hk => ?_⟩
  · by_cases h1 : k = d
    · subst h1; rw [upd_same]; exact h.1 c hc
    · rw [upd_other _ _ _ _ h1]
      by_cases h2 : k = c
      · subst h2; rw [upd_same]; exact h.1 d hd
      · rw [upd_other _ _ _ _ h2]; exact h.1 k hk
  · by_cases h1 : k = d
    · subst h1; rw [upd_same, upd_same]
    · rw [upd_other _ _ _ _ h1]
      by_cases h2 : k = c
      · subst h2; rw [upd_same, upd_other _ _ _ _ (Ne.symm hne), upd_same]
      · rw [upd_other _ _ _ _ h2, upd_other _ _ _ _ (fun e => h2 (h.inj hk hc e)), upd_other _ _ _ _ (fun e => h1 (h.inj hk hd e))]
        exact h.2 k hk

theorem InvOk.congr {n : Nat} {q q' t : Nat → Nat} (h : InvOk n q t) (e : ∀ k, k < n → q k = q' k) : InvOk n q' t :=
  ⟨fun k hk => by rw [← e k hk]; exact h.1 k hk, fun k hk => by rw [← e k hk]; exact h.2 k hk⟩

/-- A heap. -/
def HeapOk (a : Nat → Int) (n : Nat) (q : Nat → Nat) : Prop := ∀ k, 0 < k → k < n → ltB a (q k) (q ((k - 1) / 2)) = false

/-- A heap but at c. -/
def HeapBut (a : Nat → Int) (n : Nat) (q : Nat → Nat) (c : Nat) : Prop :=
  (∀ k, 0 < k → k < n → k ≠ c → ltB a (q k) (q ((k - 1) / 2)) = false) ∧
  (0 < c → ∀ k, 0 < k → k < n → (k - 1) / 2 = c → ltB a (q k) (q ((c - 1) / 2)) = false)

theorem HeapBut.congr {a : Nat → Int} {n : Nat} {q q' : Nat → Nat} {c : Nat} (h : HeapBut a n q c) (hc : c < n) (e : ∀ k, k < n → q k = q' k) : HeapBut a n q' c := by
  refine ⟨fun k h0 hk hne => ?_, fun h0 k hk0 hk hp => ?_⟩
  · rw [← e k hk, ← e _ (by omega)]; exact h.1 k h0 hk hne
  · rw [← e k hk, ← e _ (by omega)]; exact h.2 h0 k hk0 hk hp

theorem HeapBut.step {a : Nat → Int} {n : Nat} {q : Nat → Nat} {c : Nat} (h : HeapBut a n q c) (hc : c < n) (h0 : 0 < c) (hl : ltB a (q c) (q ((c - 1) / 2)) = true) :
    HeapBut a n (upd (upd q c (q ((c - 1) / 2))) ((c - 1) / 2) (q c)) ((c - 1) / 2) := by
  obtain ⟨d, hd⟩ : ∃ d, (c - 1) / 2 = d := ⟨_, rfl⟩
  have hdc : d < c := by omega
  rw [hd] at hl ⊢
  refine ⟨fun k k0 hk hne => ?_, fun d0 k k0 hk hp => ?_⟩
  · rw [upd_other _ _ _ _ hne]
    by_cases h1 : k = c
    · subst h1
      rw [upd_same, hd, upd_same]
      exact ltB_asym hl
    · rw [upd_other _ _ _ _ h1]
      have hA := h.1 k k0 hk h1
      by_cases h2 : (k - 1) / 2 = c
      · rw [h2, upd_other _ _ _ _ (by omega), upd_same]
        have := h.2 h0 k k0 hk h2
        rw [hd] at this
        exact this
      · by_cases h3 : (k - 1) / 2 = d
        · rw [h3, upd_same]
          rw [h3] at hA
          cases hx : ltB a (q k) (q c) with
          | false => rfl
          | true =>
            rw [ltB_trans hx hl] at hA
            cases hA
        · rw [upd_other _ _ _ _ h3, upd_other _ _ _ _ h2]
          exact hA
  · have hde : (d - 1) / 2 < d := by omega
    have hAd := h.1 d d0 (by omega) (by omega)
    rw [upd_other _ _ _ _ (show (d - 1) / 2 ≠ d by omega), upd_other _ _ _ _ (show (d - 1) / 2 ≠ c by omega)]
    by_cases h1 : k = c
    · subst h1
      rw [upd_other _ _ _ _ (by omega), upd_same]
      exact hAd
    · rw [upd_other _ _ _ _ (by omega), upd_other _ _ _ _ h1]
      have hA := h.1 k k0 hk h1
      rw [hp] at hA
      exact ltB_neg hA hAd

theorem heap_moved {a : Nat → Int} {p : Nat → Nat} {i n : Nat} (hi : i < n) (h0 : HeapBut a n p i) : ∀ t, moved a p i t → HeapBut a n (pairsF p i t) (parIter t i)
  | 0, _ => h0.congr hi (fun k _ => (pairs_zero p i k).symm)
  | t + 1, h => by
    have hm : moved a p i t := fun s hs => h s (by omega)
    have ih := heap_moved hi h0 t hm
    obtain ⟨e0, el⟩ := h t (by omega)
    have hlt := parIter_lt h t (by omega)
    have hle := parIter_le hm
    have e : parIter (t + 1) i = (parIter t i - 1) / 2 := rfl
    have hst := ih.step (by omega) e0 (by
      rw [pairs_at, ← e, pairs_low hm _ hlt]; exact el)
    rw [← e] at hst
    exact hst.congr (by omega) (fun k _ => (pairs_succ h k).symm)

theorem heap_end {a : Nat → Int} {p : Nat → Nat} {i n t : Nat} (hi : i < n) (h0 : HeapBut a n p i) (hm : moved a p i t) (hs : stops a p i t) : HeapOk a n (pairsF p i t) := by
  have h := heap_moved hi h0 t hm
  intro k k0 hk
  by_cases hc : k = parIter t i
  · rw [hc, pairs_at]
    rcases hs with hs | hs
    · omega
    · have e : parIter (t + 1) i = (parIter t i - 1) / 2 := rfl
      rw [← e, pairs_low hm _ (by rw [e]; omega)]
      exact hs
  · exact h.1 k k0 hk hc
end Go.Proofs.Ybulkrce
