import Derived.Test.YbulkrewDoorModel
import Derived.OwnWalk
import Derived.OneCell
import Derived.Deep.AppendLies
namespace Go.Proofs.YbulkrewDoor
open Go.RowKit
set_option linter.unusedVariables false

theorem Ybad.info5 : (Ybad.prog.info? 5).map (fun i => (i.zero, i.size, i.bytes)) = some (some (.int .u8 0), 1, 1) := by kernel_rfl

/-- Bytes as cells. -/
def bytes (l : List Nat) : List Value := l.map fun x => Value.int .u8 (x : Nat)
theorem bytes_length (l : List Nat) : (bytes l).length = l.length := by simp [bytes]
theorem bytes_append (l k : List Nat) : bytes l ++ bytes k = bytes (l ++ k) := by simp [bytes]
theorem bytes_one (l : List Nat) : ∀ u ∈ bytes l, u.oneCell' = true := by
  intro u hu
  obtain ⟨x, _, rfl⟩ := List.mem_map.1 hu
  rfl

/-- The row that zzs0880abuild fills. -/
structure RW (W : World) (C n : Nat) (l : List Nat) (w : World) : Prop where
  below : Below W.heap.size W w
  own : w.ownsRow W.heap.size 5 1 (.slice (some ⟨W.heap.size, 0, none⟩) n C) n (bytes l)
  small : ∀ x ∈ l, x < 256
  len : l.length = n
  size : W.heap.size < w.heap.size

section
variable {W w w' : World} {C n m : Nat} {l k : List Nat}
theorem RW.alloc (h : RW W C n l w) (o : Obj) : RW W C n l (w.alloc o) :=
  ⟨h.below.alloc (Nat.le_of_lt h.size) o, h.own.alloc o, h.small, h.len, by have := h.size; simp; omega⟩
theorem RW.grown (h : RW W C n l w) (ho : w'.ownsRow W.heap.size 5 1 (.slice (some ⟨W.heap.size, 0, none⟩) (n + m) C) (n + m) (bytes l ++ bytes k)) (hg : w.grownBy w' (some W.heap.size)) (hk : ∀ x ∈ k, x < 256) (hm : k.length = m) : RW W C (n + m) (l ++ k) w' :=
  ⟨h.below.grown hg (Nat.le_of_lt h.size) (fun j e => by cases e; exact Nat.le_refl _), by rw [bytes_append] at ho; exact ho, fun x hx => (List.mem_append.1 hx).elim (h.small x) (hk x), by rw [List.length_append, h.len, hm], Nat.lt_of_lt_of_le h.size hg.size⟩
end

def BuildPost (W : World) (n0 C : Nat) (e : Ending) (w' : World) : Prop :=
  ∃ n l, e = .returned (.slice (some ⟨W.heap.size, 0, none⟩) n C) ∧ n0 ≤ n ∧ n ≤ C ∧ RW W C n l w'

/-- The table's bytes. -/
def tblBytes : List Nat := [97, 32, 34, 92, 117, 48, 102, 70, 47, 110, 98, 120, 1, 195, 90, 57]

set_option maxRecDepth 100000 in
set_option maxHeartbeats 4000000 in
theorem build_any (a0 : Option Addr) (n0 c0 : Nat) (z0 : List Nat) (a1 : Option Addr) (b1 o1 n1 c1 : Nat) (z1 : List Nat) (lead raw : Bool) (W : World)
    (hn0 : n0 ≤ 1024) (hn1 : n1 ≤ 1024) (l0 : z0.length = n0) (l1 : z1.length = n1) (hnone0 : a0 = none → n0 = 0 ∧ c0 = 0)
    (hc0 : ∀ ad, a0 = some ad → ∀ j, j < n0 → W.cell? (ad.add j) = some (.int .u8 (z0.getD j 0 : Nat))) (s0 : ∀ x ∈ z0, x < 256)
    (hr1 : 0 < n1 → a1 = some ⟨b1, o1, none⟩ ∧ b1 < W.heap.size) (hc1 : ∀ j, j < n1 → W.cell? ⟨b1, o1 + j, none⟩ = some (.int .u8 (z1.getD j 0 : Nat))) (s1 : ∀ x ∈ z1, x < 256) :
    Calls Ybad.prog 5 #[.slice a0 n0 c0, .slice a1 n1 c1, .bool lead, .bool raw] W (BuildPost W n0 (n0 + 1 + n1)) := by
  obtain ⟨e0, hi0, hz0, hz1, hz2⟩ := info_parts Ybad.info5
  obtain ⟨m1, hm1⟩ : ∃ m1, n0 + 1 = m1 := ⟨_, rfl⟩
  have q1 : (n0 : Int) + 1 = (m1 : Int) := by omega
  have q2 := wI64 m1 (by omega)
  obtain ⟨C, hC⟩ : ∃ C, n0 + 1 + n1 = C := ⟨_, rfl⟩
  have q3 : (m1 : Int) + (n1 : Int) = (C : Int) := by omega
  have q4 := wI64 C (by omega)
  rw [hC]
  have HN0 := hid hnone0
  have HC0 := hid hc0
  have HR1 := hid hr1
  have HC1 := hid hc1
  have S0 := hid s0
  have S1 := hid s1
  clear hnone0 hc0 hr1 hc1 s0 s1
  go_enter Ybad.func5, Ybad.ntmps5
  go_wp2_with (at_make; refine wpList_make_own _ rfl _ _ 22 rfl W.heap.size 5 e0 _ 1 Ybad.underlying22 hi0 hz0 hz1 _ _ _ C rfl rfl rfl (by rw [hz2]; omega) (by unfold maxLen; omega) (Nat.le_refl _) ?_)
  intro w1 hown hgrow
  have HRW := hid (show RW W C 0 [] w1 from ⟨(Below.refl _ _).grown hgrow (Nat.le_refl _) (by intro k e; cases e), hown, by simp, rfl, (hown.lt W.heap.size rfl).2⟩)
  clear hown hgrow q1 q2 q3 q4
  have HCW := hid (show ∀ ad, a0 = some ad → ∀ j u, (bytes z0)[j]? = some u → w1.cell? (ad.add j) = some u from fun ad had j u hu => by
    have hj : j < n0 := by
      have := (List.getElem?_eq_some_iff.1 hu).1
      rw [bytes_length] at this
      omega
    have hcell := HC0.out ad had j hj
    rw [HRW.out.below.cell (World.block_lt_of_cell? W _ hcell), hcell]
    rw [← hu]
    simp [bytes, show j < z0.length by omega])
  go_wp2_with (at_builtin; refine wpList_append_fits_any _ rfl _ _ 22 rfl W.heap.size 5 e0 1 Ybad.underlying22 hi0 hz1 W.heap.size 0 C _ rfl HRW.out.own a0 n0 c0 (bytes z0) rfl (by rw [bytes_length]; omega) HN0.out HCW.out (bytes_one _) (by omega) ?_)
  intro w2 hown hgrow
  have HR2 := hid (show RW W C n0 z0 w2 by
    have := HRW.out.grown (k := z0) (by simpa using hown) hgrow S0.out l0
    simpa using this)
  clear hown hgrow HRW HCW HC0
  try simp only [Nat.zero_add]
  go_upto_if 22 with fail
  go_cut [9] from 12 to 45 (fun s w => ∃ n l, n0 ≤ n ∧ n ≤ m1 ∧ s = .slice (some ⟨W.heap.size, 0, none⟩) n C ∧ RW W C n l w)
  case first =>
    cases lead
    · go_wp2
      go_meet
      case rel => exact ⟨n0, z0, by omega, by omega, rfl, HR2.out⟩
    · go_wp2_with (at_builtin; refine wpList_append_fits _ rfl _ _ 22 rfl W.heap.size 5 e0 1 Ybad.underlying22 hi0 hz1 W.heap.size n0 C _ rfl (HR2.out.alloc _).own ⟨w2.heap.size, 0, none⟩ 1 1 (bytes [34]) rfl rfl (World.news_of_block (cs := #[.int .u8 34]) (t := 5) (fr := (0, 0)) (heap_alloc_new _ _)) (bytes_one _) (by omega) ?_)
      intro w3 hown hgrow
      have HR3 := hid (show RW W C (n0 + 1) (z0 ++ [34]) w3 from (HR2.out.alloc _).grown (k := [34]) (by rw [hm1]; exact hown) hgrow (by simp) rfl)
      clear hown hgrow HR2
      go_wp2
      go_meet
      case rel => exact ⟨n0 + 1, z0 ++ [34], by omega, by omega, by rw [hm1], HR3.out⟩
  case rest =>
    clear HR2
    obtain ⟨n, l, hn, hn', hs, hR⟩ := hcut
    subst hs
    have HR := hid hR
    clear hR
    go_wp2_with fail
    go_loopg [9, 28] n1 (fun g s9 s28 wr => ∃ (k m : Nat) (l : List Nat), k + g = n1 ∧ n + k = m ∧ s9 = .slice (some ⟨W.heap.size, 0, none⟩) m C ∧ s28 = .int .i64 (k : Nat) ∧ RW W C m l wr)
    case atStart => exact ⟨0, n, l, by omega, by omega, rfl, rfl, HR.out⟩
    case round =>
      clear HR
      obtain ⟨k, m, l', hk, hm, rfl, rfl, hR⟩ := hrel
      have HR := hid hR
      by_cases hkn : k < n1
      · obtain ⟨ha1, hb1⟩ := HR1.out (by omega)
        have tc : wr.cell? ⟨b1, o1 + k, none⟩ = some (.int .u8 (z1.getD k 0 : Nat)) := (hR.below.cell hb1).trans (HC1.out k hkn)
        have hcs : z1.getD k 0 < 256 := by
          have e : z1.getD k 0 = z1[k]'(by omega) := by simp [List.getD, show k < z1.length by omega]
          rw [e]
          exact S1.out _ (List.getElem_mem _)
        subst ha1
        clear hR
        generalize z1.getD k 0 = c at tc hcs
        have k0 : (0 : Int) ≤ (k : Int) := by omega
        have k1 : (k : Int) < (n1 : Int) := by omega
        obtain ⟨k', hk'⟩ : ∃ k', k + 1 = k' := ⟨_, rfl⟩
        have k2 : (k : Int) + 1 = (k' : Int) := by omega
        have k3 := wI64 k' (by omega)
        cases raw
        · have c1 := wI64 c (by omega)
          obtain ⟨r, hr⟩ : ∃ r, c % 16 = r := ⟨_, rfl⟩
          have c2 : (c : Int).tmod 16 = (r : Int) := by rw [Int.tmod_eq_emod_of_nonneg (by omega)]; omega
          have c3 := wI64 r (by omega)
          have c4 : (0 : Int) ≤ (r : Int) := by omega
          have c5 : (r : Int) < 16 := by omega
          have c6 : r < 16 := by omega
          go_wp2_with (at_builtin; refine wpList_append_fits _ rfl _ _ 22 rfl W.heap.size 5 e0 1 Ybad.underlying22 hi0 hz1 W.heap.size m C _ rfl (HR.out.alloc _).own ⟨wr.heap.size, 0, none⟩ 1 1 (bytes [UInt8.toNat _]) rfl rfl (World.news_of_block (cs := #[.int .u8 _]) (t := 5) (fr := (0, 0)) (heap_alloc_new _ _)) (bytes_one _) (by omega) ?_)
          intro w3 hown hgrow
          have HR3 := hid ((HR.out.alloc _).grown hown hgrow (by simpa using UInt8.toNat_lt _) rfl)
          clear hown hgrow HR
          go_wp2
          go_roundg (n1 - k')
          case rel => exact ⟨k', m + 1, _, by omega, by omega, rfl, rfl, HR3.out⟩
          case measure => omega
        · go_wp2_with (at_builtin; refine wpList_append_fits _ rfl _ _ 22 rfl W.heap.size 5 e0 1 Ybad.underlying22 hi0 hz1 W.heap.size m C _ rfl (HR.out.alloc _).own ⟨wr.heap.size, 0, none⟩ 1 1 (bytes [c]) rfl rfl (World.news_of_block (cs := #[.int .u8 (c : Nat)]) (t := 5) (fr := (0, 0)) (heap_alloc_new _ _)) (bytes_one _) (by omega) ?_)
          intro w3 hown hgrow
          have HR3 := hid (show RW W C (m + 1) (l' ++ [c]) w3 from (HR.out.alloc _).grown hown hgrow (by simpa using hcs) rfl)
          clear hown hgrow HR
          go_wp2
          go_roundg (n1 - k')
          case rel => exact ⟨k', m + 1, _, by omega, by omega, rfl, rfl, HR3.out⟩
          case measure => omega
      · have k1 : ¬ (k : Int) < (n1 : Int) := by omega
        clear hR
        go_wp2
        go_ret
        exact ⟨m, l', by simp, by omega, by omega, HR.out⟩
end Go.Proofs.YbulkrewDoor
