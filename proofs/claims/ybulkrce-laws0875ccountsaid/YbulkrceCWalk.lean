import Derived.Test.YbulkrceCMem
import Derived.Deep.RegionLaw
namespace Go.Proofs.Ybulkrce
open Go.RowKit

theorem Yba.make37_8 (w : World) : (Instr.makeSlice 37 (.int .i64 8) (.int .i64 8)).run Yba.prog w = .ok (.slice (some ⟨w.heap.size, 0, none⟩) 8 8) (w.alloc (.cells (intRow (List.replicate 8 0)) 3)) := by kernel_rfl
theorem Yba.make71_8 (w : World) : (Instr.makeSlice 71 (.int .i64 8) (.int .i64 8)).run Yba.prog w = .ok (.slice (some ⟨w.heap.size, 0, none⟩) 8 8) (w.alloc (.cells (boolRow (List.replicate 8 false)) 4)) := by kernel_rfl
theorem Yba.info3 : (Yba.prog.info? 3).map (fun i => (i.zero, i.size, i.bytes)) = some (some (.int .i64 0), 1, 8) := by kernel_rfl

theorem Yba.make37 (n : Nat) (hn : n ≤ 1024) (w : World) : (Instr.makeSlice 37 (.int .i64 n) (.int .i64 n)).run Yba.prog w = .ok (.slice (some ⟨w.heap.size, 0, none⟩) n n) (w.alloc (.cells (intRow (List.replicate n 0)) 3)) := by
  obtain ⟨i0, hi0, hz0, hz1, hz2⟩ := info_parts Yba.info3
  have h := run_make (P := Yba.prog) w 37 3 i0 _ Yba.underlying37 hi0 hz0 .i64 .i64 (n : Int) (n : Int) (by omega) (by omega) (by rw [hz2]; omega) (by omega)
  rw [h, hz1]
  have e : madeCells (Value.cells (.int .i64 0)) ((n : Int).toNat * 1) = intRow (List.replicate n 0) := by
    apply Array.ext'
    have := toList_madeCells_one (.int .i64 0) n
    simp only [Int.toNat_natCast, Nat.mul_one, Value.cells]
    rw [this]
    simp [intRow, ints]
  rw [e]
  simp

/-- Eight nil slices as cells. -/
def nilRow8 : Array Value := (List.replicate 8 (Value.slice none 0 0)).toArray
theorem nilRow8_get (i : Nat) (h : i < 8) : nilRow8[i]? = some (.slice none 0 0) := by
  unfold nilRow8
  rw [List.getElem?_toArray, List.getElem?_replicate, if_pos h]
theorem nilRow8_size : nilRow8.size = 8 := by simp [nilRow8]
theorem Yba.make38_8 (w : World) : (Instr.makeSlice 38 (.int .i64 8) (.int .i64 8)).run Yba.prog w = .ok (.slice (some ⟨w.heap.size, 0, none⟩) 8 8) (w.alloc (.cells nilRow8 37)) := by kernel_rfl

/-- The listed readers. -/
def natsOf (l : List Nat) : List Nat := l.map fun x => x % 8
theorem natsOf_lt (l : List Nat) (j : Nat) : (natsOf l).getD j 0 < 8 := by
  by_cases h : j < l.length
  · simp [natsOf, h]; omega
  · simp [natsOf, h]

/-- What srcSel and threadSel come to. -/
def srcOf (l : List Nat) : List Int := l.map fun (x : Nat) => ((x : Int) % 10 - 2)
def listOf (l : List Nat) : List Int := l.map fun (x : Nat) => ((x : Int) % 8)
theorem listOf_getD (l : List Nat) (j : Nat) (h : j < l.length) : (listOf l).getD j 0 = ((natsOf l).getD j 0 : Nat) := by
  simp [listOf, natsOf, h]
def thrOf (l : List Nat) : List Int := l.map fun (x : Nat) => ((x : Int) % 3)

theorem heap_new_at (w : World) (o : Obj) (k : Nat) (hk : w.heap.size = k) : (w.alloc o).heap[k]? = some o := by
  subst hk; exact heap_alloc_new w o

theorem LM.start (w : World) (A0 A1 A2 A3 : Array Value) (x2 x3 : List Nat) :
    LM w A0 A1 A2 A3 (row8 (srcOf x2) 0) (row8 (thrOf x3) 0) (.slice none 0 0) 0 ((srcOf x2).take 0) (.slice none 0 0) 0 ((thrOf x3).take 0)
      (((((((w.alloc (.cells A0 61)).alloc (.cells A1 63)).alloc (.cells A2 64)).alloc (.cells A3 64)).alloc (.cells (intRow [0, 0, 0, 0, 0, 0, 0, 0]) 3)).alloc (.cells (intRow [0, 0, 0, 0, 0, 0, 0, 0]) 3)).alloc
        (.cells #[.slice none 0 0, .slice none 0 0, .slice none 0 0, .slice none 0 0, .slice none 0 0, .slice none 0 0, .slice none 0 0, .slice none 0 0, .slice none 0 0, .slice none 0 0, .pointer none] 70)) := by
  refine ⟨?_, ?_, ?_, ?_, ?_, ?_, ?_, ?_, ⟨rfl, Or.inl ⟨rfl, rfl⟩⟩, ⟨rfl, Or.inl ⟨rfl, rfl⟩⟩, Or.inl rfl⟩
  · exact ((((((((Below.refl _ _).alloc (Nat.le_refl _) _).alloc (by simp) _).alloc (by simp; omega) _).alloc (by simp; omega) _).alloc (by simp; omega) _).alloc (by simp; omega) _).alloc (by simp; omega) _)
  · iterate 6 rw [Below.heap_alloc _ _ _ (by simp <;> omega)]
    exact heap_new_at _ _ _ rfl
  · iterate 5 rw [Below.heap_alloc _ _ _ (by simp <;> omega)]
    exact heap_new_at _ _ _ (by simp)
  · iterate 4 rw [Below.heap_alloc _ _ _ (by simp <;> omega)]
    exact heap_new_at _ _ _ (by simp)
  · iterate 3 rw [Below.heap_alloc _ _ _ (by simp <;> omega)]
    exact heap_new_at _ _ _ (by simp)
  · iterate 2 rw [Below.heap_alloc _ _ _ (by simp <;> omega)]
    exact heap_new_at _ _ _ (by simp)
  · rw [Below.heap_alloc _ _ _ (by simp <;> omega)]
    exact heap_new_at _ _ _ (by simp)
  · exact heap_new_at _ _ _ (by simp)

set_option maxRecDepth 100000 in
set_option maxHeartbeats 4000000 in
theorem count_any (A0 A1 A2 A3 : Array Value) (dn : List Bool) (wt : List Int) (x2 x3 rd : List Nat) (ra : Option Addr) (rb ro n rc : Nat) (wi : Nat) (ext : Bool) (bound : Int) (w : World)
    (hn : n ≤ 1024) (hx2 : x2.length = 8) (hx3 : x3.length = 8) (hb2 : ∀ j, x2.getD j 0 ≤ 255) (hb3 : ∀ j, x3.getD j 0 ≤ 255)
    (hx0 : dn.length = 8) (hx1 : wt.length = 8) (hb1 : ∀ j, -128 ≤ wt.getD j 0 ∧ wt.getD j 0 ≤ 127) (hA0 : ∀ j, j < 8 → A0[j]? = some (.bool (dn.getD j false))) (hA1 : ∀ j, j < 8 → A1[j]? = some (.int .i8 (wt.getD j 0)))
    (hra : 0 < n → ra = some ⟨rb, ro, none⟩) (hrb : 0 < n → rb < w.heap.size) (hrl : rd.length = n) (hb4 : ∀ j, rd.getD j 0 ≤ 255) (hrc : ∀ j, j < n → w.cell? ⟨rb, ro + j, none⟩ = some (.int .u8 (rd.getD j 0 : Nat)))
    (hA2 : ∀ j, j < 8 → A2[j]? = some (.int .u8 (x2.getD j 0 : Nat))) (hA3 : ∀ j, j < 8 → A3[j]? = some (.int .u8 (x3.getD j 0 : Nat))) :
    Calls Yba.prog 7 #[.agg A0, .agg A1, .agg A2, .agg A3, .slice ra n rc, .int .u8 wi, .bool ext, .int .i64 bound] w fun e w' => e = .returned (.bool true) ∧ Below w.heap.size w w' := by
  have hmk := Yba.make37_8
  have hmb := Yba.make71_8
  have hmn := Yba.make37 n hn
  have hms := Yba.make38_8
  have hn1 : ¬ (1024 : Int) < (n : Int) := by omega
  have H2 := hid hA2
  have H3 := hid hA3
  have B2 := hid hb2
  have B3 := hid hb3
  have L2 := hid hx2
  have L3 := hid hx3
  have H0 := hid hA0
  have H1 := hid hA1
  have B1 := hid hb1
  have L0 := hid hx0
  have L1 := hid hx1
  have RA := hid hra
  have RB := hid hrb
  have RL := hid hrl
  have B4 := hid hb4
  have RC := hid hrc
  clear hA2 hA3 hb2 hb3 hx2 hx3 hA0 hA1 hb1 hx0 hx1 hra hrb hrl hb4 hrc
  obtain ⟨i0, hi0, hz0, hz1, hz2'⟩ := info_parts Yba.info3
  go_enter Yba.func7, Yba.ntmps7
  go_wp2
  go_loopw [21] (fun i wr => ∃ (k : Nat) (os ot : Value), k ≤ 8 ∧ i = .int .i64 k ∧ LM w A0 A1 A2 A3 (row8 (srcOf x2) k) (row8 (thrOf x3) k) os k ((srcOf x2).take k) ot k ((thrOf x3).take k) wr) (fun i _ => 8 - (intOf i).toNat)
  case atStart => exact ⟨0, .slice none 0 0, .slice none 0 0, by omega, rfl, LM.start w A0 A1 A2 A3 x2 x3⟩
  case round =>
    obtain ⟨k, os, ot, hk, rfl, hst⟩ := hrel
    have hz := hst.size
    by_cases hlt : k < 8
    · have e2 : wr.cell? ⟨w.heap.size + 1 + 1, k, none⟩ = some (.int .u8 (x2.getD k 0 : Nat)) := by simp [World.cell?, hst.k2, H2.out k hlt]
      have q2 := B2.out k
      have c4 : wr.cell? ⟨w.heap.size + 1 + 1 + 1 + 1, k, none⟩ = some (.int .i64 ((row8 (srcOf x2) k).getD k 0)) := by
        have := intRow_get (row8 (srcOf x2) k) k (by rw [row8_length _ _ (by simp [srcOf, L2.out]) (by omega)]; exact hlt)
        simp only [World.cell?, hst.k4, this]; rfl
      have f4 : wr.frozen? ⟨w.heap.size + 1 + 1 + 1 + 1, k, none⟩ = false := by simp [World.frozen?, hst.k4]
      have c9 : wr.cell? ⟨w.heap.size + 1 + 1 + 1 + 1 + 1 + 1, 9, none⟩ = some os := by simp [World.cell?, hst.k6, histCells]
      have f9 : wr.frozen? ⟨w.heap.size + 1 + 1 + 1 + 1 + 1 + 1, 9, none⟩ = false := by simp [World.frozen?, hst.k6]
      have esrc : (srcOf x2).getD k 0 = (x2.getD k 0 : Int) % 10 - 2 := by simp [srcOf, L2.out, hlt]
      have HM := hid (hst.setS k ((srcOf x2).getD k 0))
      rw [row8_set _ _ (by simp [srcOf, L2.out]) hlt, esrc] at HM
      have ESRC := hid esrc
      clear hst esrc
      generalize x2.getD k 0 = xq at *
      generalize (row8 (srcOf x2) k).getD k 0 = oldv at *
      have hk1 : (k : Int) < 8 := by omega
      have hk0 : (0 : Int) ≤ (k : Int) := by omega
      go_wp2_with (at_builtin; refine wpList_append_lies _ rfl _ _ _ rfl (w.heap.size + 7) 3 i0 _ 1 8 Yba.underlying37 hi0 hz0 hz1 hz2' rfl (by omega) os k (ints ((srcOf x2).take k)) rfl (HM.out.alloc _).po ⟨wr.heap.size, 0, none⟩ 1 1 [.int .i64 0] rfl rfl ?hnews (by simp [Value.oneCell']) (by omega) (by unfold maxLen; omega) (by omega) (by simp; omega) _ rfl ?_)
      case hnews => exact World.news_of_block (cs := #[.int .i64 0]) (t := 3) (fr := (0, 0)) (heap_new_at _ _ _ (by simp))
      intro g cap w1 hown hgrow hat hglt
      have HM2 := hid ((HM.out.alloc _).appS 0 g cap w1 hown hgrow (by simpa using hat))
      have hne := own_apart (HM.out.alloc (.cells #[.int .i64 0] 3)).po (show w.heap.size + 6 < w.heap.size + 7 by omega)
      have c9' : w1.cell? ⟨w.heap.size + 1 + 1 + 1 + 1 + 1 + 1, 9, none⟩ = some os := by
        rw [hgrow.cell_far _ (by simp; omega) (Ne.symm hne)]; go_simp
      have f9' : w1.frozen? ⟨w.heap.size + 1 + 1 + 1 + 1 + 1 + 1, 9, none⟩ = false := by
        rw [hgrow.frozen_far _ (by simp; omega) (Ne.symm hne)]; simp [World.frozen?, (HM.out.alloc _).k6]
      clear hown hgrow hat
      go_wp2_with fail
      clear hne c4 f4 c9 f9 e2 c9' f9' HM
      have hk2 : (k : Int) < ((k + 1 : Nat) : Int) := by omega
      go_loopw [23] (fun kk wq => ∃ (m : Nat), m ≤ xq % 10 ∧ kk = .int .i64 m ∧ LM w A0 A1 A2 A3 (row8 (srcOf x2) (k + 1)) (row8 (thrOf x3) k) (.slice (some ⟨g, 0, none⟩) (k + 1) cap) (k + 1) ((srcOf x2).take k ++ [(m : Int)]) ot k ((thrOf x3).take k) wq) (fun kk _ => xq % 10 - (intOf kk).toNat)
      case atStart => exact ⟨0, by omega, rfl, HM2.out⟩
      case round =>
        clear HM2
        obtain ⟨m, hm, rfl, hst⟩ := hrel
        have htk : ((srcOf x2).take k).length = k := by simp [srcOf, L2.out]; omega
        have c9 : wr.cell? ⟨w.heap.size + 1 + 1 + 1 + 1 + 1 + 1, 9, none⟩ = some (.slice (some ⟨g, 0, none⟩) (k + 1) cap) := by simp [World.cell?, hst.k6, histCells]
        have cg : wr.cell? ⟨g, k, none⟩ = some (.int .i64 m) := by
          rw [hst.po.cellAt k (by omega), ints_get _ _ (by simp [htk])]
          simp [List.getD, htk]
        have fg : wr.frozen? ⟨g, k, none⟩ = false := hst.po.frozenAt k
        have hx := hst.setX k ((m : Int) + 1)
        rw [set_last _ _ _ _ htk] at hx
        have HX := hid hx
        have hy := hst.setX k ((xq : Int) % 10 - 2)
        rw [set_last _ _ _ _ htk, ← ESRC.out, take_snoc _ _ (by simp [srcOf, L2.out]; omega), ESRC.out] at hy
        have HY := hid hy
        clear hst hx hy htk
        by_cases hml : m < xq % 10
        · have hml' : (m : Int) < (xq : Int) % 10 - 2 + 2 := by omega
          clear HY
          go_wp2
          go_roundw
          case rel => exact ⟨m + 1, by omega, by go_num, HX.out⟩
          case measure => simp [intOf]; omega
        · have hml' : ¬ (m : Int) < (xq : Int) % 10 - 2 + 2 := by omega
          have em : m = xq % 10 := by omega
          clear HX
          go_wp2
          go_region
          generalize hWy : wr.setCell ⟨g, k, none⟩ (.int .i64 ((xq : Int) % 10 - 2)) = Wy at *
          clear hWy c9 cg fg em
          have hz2 := HY.out.size
          have e3 : Wy.cell? ⟨w.heap.size + 1 + 1 + 1, k, none⟩ = some (.int .u8 (x3.getD k 0 : Nat)) := by simp [World.cell?, HY.out.k3, H3.out k hlt]
          have q3 := B3.out k
          have c5 : Wy.cell? ⟨w.heap.size + 1 + 1 + 1 + 1 + 1, k, none⟩ = some (.int .i64 ((row8 (thrOf x3) k).getD k 0)) := by
            have := intRow_get (row8 (thrOf x3) k) k (by rw [row8_length _ _ (by simp [thrOf, L3.out]) (by omega)]; exact hlt)
            simp only [World.cell?, HY.out.k5, this]; rfl
          have f5 : Wy.frozen? ⟨w.heap.size + 1 + 1 + 1 + 1 + 1, k, none⟩ = false := by simp [World.frozen?, HY.out.k5]
          have c3 : Wy.cell? ⟨w.heap.size + 1 + 1 + 1 + 1 + 1 + 1, 3, none⟩ = some ot := by simp [World.cell?, HY.out.k6, histCells]
          have ethr : (thrOf x3).getD k 0 = (x3.getD k 0 : Int) % 3 := by simp [thrOf, L3.out, hlt]
          have HT := hid (HY.out.setT k ((thrOf x3).getD k 0))
          rw [row8_set _ _ (by simp [thrOf, L3.out]) hlt, ethr] at HT
          have ETHR := hid ethr
          clear ethr HY
          generalize x3.getD k 0 = yq at *
          generalize (row8 (thrOf x3) k).getD k 0 = oldt at *
          go_wp2_with (at_builtin; refine wpList_append_lies _ rfl _ _ _ rfl (w.heap.size + 7) 3 i0 _ 1 8 Yba.underlying37 hi0 hz0 hz1 hz2' rfl (by omega) ot k (ints ((thrOf x3).take k)) rfl (HT.out.drew.alloc _).pt ⟨Wy.heap.size, 0, none⟩ 1 1 [.int .i64 ((yq : Int) % 3)] rfl rfl ?hnews (by simp [Value.oneCell']) (by omega) (by unfold maxLen; omega) (by omega) (by simp; omega) _ rfl ?_)
          case hnews => exact World.news_of_block (cs := #[.int .i64 ((yq : Int) % 3)]) (t := 3) (fr := (0, 0)) (heap_new_at _ _ _ (by simp))
          intro g' cap' w1' hown hgrow hat hglt'
          have HM3 := hid (((HT.out.alloc _).drew).appT ((yq : Int) % 3) g' cap' w1' hown hgrow (by simpa using hat))
          have hne := own_apart ((HT.out.alloc (.cells #[.int .i64 ((yq : Int) % 3)] 3)).drew).pt (show w.heap.size + 6 < w.heap.size + 7 by omega)
          have c3' : w1'.cell? ⟨w.heap.size + 1 + 1 + 1 + 1 + 1 + 1, 3, none⟩ = some ot := by
            rw [hgrow.cell_far _ (by simp; omega) (Ne.symm hne)]; simp [World.cell?, ((HT.out.alloc _).drew).k6, histCells]
          have f3' : w1'.frozen? ⟨w.heap.size + 1 + 1 + 1 + 1 + 1 + 1, 3, none⟩ = false := by
            rw [hgrow.frozen_far _ (by simp; omega) (Ne.symm hne)]; simp [World.frozen?, ((HT.out.alloc _).drew).k6]
          clear hown hgrow hat e3 c5 f5 c3
          go_wp2
          go_roundw
          case rel =>
            have hlast := HM3.out
            rw [← ETHR.out, take_snoc _ _ (by simp [thrOf, L3.out]; omega)] at hlast
            exact ⟨k + 1, _, _, by omega, by go_num, hlast⟩
          case measure => simp [intOf]; omega
    · have ek : k = 8 := by omega
      subst ek
      rw [row8_all _ (by simp [srcOf, L2.out]), row8_all _ (by simp [thrOf, L3.out]), List.take_of_length_le (by simp [srcOf, L2.out]), List.take_of_length_le (by simp [thrOf, L3.out])] at hst
      rename World => W8
      have hz8 := hst.size
      have HM := hid hst
      clear hst
      go_wp2
      go_loopw [27] (fun i wq => ∃ (k : Nat), k ≤ 8 ∧ i = .int .i64 k ∧ Below W8.heap.size W8 wq ∧ wq.heap[W8.heap.size]? = some (.cells (boolRow (rowPad false 8 dn k)) 4 (0, 0)) ∧ wq.heap[W8.heap.size + 1]? = some (.cells (intRow (rowPad 0 8 wt k)) 3 (0, 0))) (fun i _ => 8 - (intOf i).toNat)
      case atStart =>
        refine ⟨0, by omega, rfl, ((Below.refl _ _).alloc (Nat.le_refl _) _).alloc (by simp) _, ?_, ?_⟩
        · rw [Below.heap_alloc _ _ _ (by simp)]; exact heap_alloc_new _ _
        · exact heap_new_at _ _ _ (by simp)
      case round =>
        obtain ⟨k, hk, rfl, hb, hd, ht⟩ := hrel
        by_cases hlt : k < 8
        · have hk1 : (k : Int) < 8 := by omega
          have hk0 : (0 : Int) ≤ (k : Int) := by omega
          have hM := HM.out.keep hb
          have a0 : wr.cell? ⟨w.heap.size, k, none⟩ = some (.bool (dn.getD k false)) := by simp [World.cell?, hM.k0, H0.out k hlt]
          have a1 : wr.cell? ⟨w.heap.size + 1, k, none⟩ = some (.int .i8 (wt.getD k 0)) := by simp [World.cell?, hM.k1, H1.out k hlt]
          have q1 := B1.out k
          have cd : wr.cell? ⟨W8.heap.size, k, none⟩ = some (.bool ((rowPad false 8 dn k).getD k false)) := by
            have := boolRow_get (rowPad false 8 dn k) k (by rw [rowPad_length _ _ _ _ L0.out hk]; exact hlt)
            simp only [World.cell?, hd, this]; rfl
          have fd : wr.frozen? ⟨W8.heap.size, k, none⟩ = false := by simp [World.frozen?, hd]
          have ct : wr.cell? ⟨W8.heap.size + 1, k, none⟩ = some (.int .i64 ((rowPad 0 8 wt k).getD k 0)) := by
            have := intRow_get (rowPad 0 8 wt k) k (by rw [rowPad_length _ _ _ _ L1.out hk]; exact hlt)
            simp only [World.cell?, ht, this]; rfl
          have ft : wr.frozen? ⟨W8.heap.size + 1, k, none⟩ = false := by simp [World.frozen?, ht]
          have hd2 := heap_set_same wr W8.heap.size k _ 4 (.bool (dn.getD k false)) hd
          rw [boolRow_set, rowPad_set _ _ _ _ L0.out hlt] at hd2
          have ht2 : (wr.setCell ⟨W8.heap.size, k, none⟩ (.bool (dn.getD k false))).heap[W8.heap.size + 1]? = some (.cells (intRow (rowPad 0 8 wt k)) 3 (0, 0)) := by
            rw [Below.heap_setCell _ _ _ _ (by simp)]; exact ht
          have ht3 := heap_set_same _ (W8.heap.size + 1) k _ 3 (.int .i64 (wt.getD k 0)) ht2
          rw [intRow_set, rowPad_set _ _ _ _ L1.out hlt] at ht3
          have hd3 : ((wr.setCell ⟨W8.heap.size, k, none⟩ (.bool (dn.getD k false))).setCell ⟨W8.heap.size + 1, k, none⟩ (.int .i64 (wt.getD k 0))).heap[W8.heap.size]? = some (.cells (boolRow (rowPad false 8 dn (k + 1))) 4 (0, 0)) := by
            rw [Below.heap_setCell _ _ _ _ (by simp)]; exact hd2
          have hb3 := (hb.setCell (p := ⟨W8.heap.size, k, none⟩) (Nat.le_refl _) (.bool (dn.getD k false))).setCell (p := ⟨W8.heap.size + 1, k, none⟩) (by simp) (.int .i64 (wt.getD k 0))
          have HR := hid (show _ ∧ _ ∧ _ from ⟨hb3, hd3, ht3⟩)
          clear hM hb hd ht hd2 ht2 ht3 hd3 hb3
          generalize dn.getD k false = bq at *
          generalize wt.getD k 0 = tq at *
          generalize (rowPad false 8 dn k).getD k false = ob at *
          generalize (rowPad 0 8 wt k).getD k 0 = ot' at *
          go_wp2
          go_roundw
          case rel => exact ⟨k + 1, by omega, by go_num, HR.out⟩
          case measure => simp [intOf]; omega
        · have ek : k = 8 := by omega
          subst ek
          rw [rowPad_all _ _ _ L0.out] at hd
          rw [rowPad_all _ _ _ L1.out] at ht
          rename World => W9
          have HB := hid hb
          have HD := hid hd
          have HT := hid ht
          clear hb hd ht
          have hz9 : W8.heap.size + 1 < W9.heap.size := lt_of_block HT.out
          go_wp2
          go_loopw [29] (fun i wq => ∃ (k : Nat), k ≤ n ∧ i = .int .i64 k ∧ Below W9.heap.size W9 wq ∧ wq.heap[W9.heap.size]? = some (.cells (intRow (rowPad 0 n (listOf rd) k)) 3 (0, 0))) (fun i _ => n - (intOf i).toNat)
          case atStart =>
            refine ⟨0, by omega, rfl, (Below.refl _ _).alloc (Nat.le_refl _) _, ?_⟩
            rw [rowPad_zero]; exact heap_alloc_new _ _
          case round =>
            obtain ⟨k, hk, rfl, hb, hd⟩ := hrel
            have hll : (listOf rd).length = n := by simp [listOf, RL.out]
            by_cases hlt : k < n
            · have hra := RA.out (by omega)
              subst hra
              have hk1 : (k : Int) < (n : Int) := by omega
              have hk0 : (0 : Int) ≤ (k : Int) := by omega
              have hM := (HM.out.keep HB.out).keep hb
              have ar : wr.cell? ⟨rb, ro + k, none⟩ = some (.int .u8 (rd.getD k 0 : Nat)) := by
                rw [hM.below.cell (p := ⟨rb, ro + k, none⟩) (RB.out (by omega))]; exact RC.out k hlt
              have q4 := B4.out k
              have cd : wr.cell? ⟨W9.heap.size, k, none⟩ = some (.int .i64 ((rowPad 0 n (listOf rd) k).getD k 0)) := by
                have := intRow_get (rowPad 0 n (listOf rd) k) k (by rw [rowPad_length _ _ _ _ hll hk]; exact hlt)
                simp only [World.cell?, hd, this]; rfl
              have fd : wr.frozen? ⟨W9.heap.size, k, none⟩ = false := by simp [World.frozen?, hd]
              have hd2 := heap_set_same wr W9.heap.size k _ 3 (.int .i64 ((listOf rd).getD k 0)) hd
              rw [intRow_set, rowPad_set _ _ _ _ hll hlt] at hd2
              have hb3 := hb.setCell (p := ⟨W9.heap.size, k, none⟩) (Nat.le_refl _) (.int .i64 ((listOf rd).getD k 0))
              have HR := hid (show _ ∧ _ from ⟨hb3, hd2⟩)
              have el : (listOf rd).getD k 0 = (rd.getD k 0 : Int) % 8 := by simp [listOf, RL.out, hlt]
              rw [el] at HR
              clear hM hb hd hd2 hb3 el
              generalize rd.getD k 0 = rq at *
              generalize (rowPad 0 n (listOf rd) k).getD k 0 = ob at *
              go_wp2
              go_roundw
              case rel => exact ⟨k + 1, by omega, by go_num, HR.out⟩
              case measure => simp [intOf]; omega
            · have ek : k = n := by omega
              rw [ek, rowPad_all _ _ _ hll] at hd
              rename World => W10
              have HB2 := hid hb
              have HL := hid hd
              have hz10 : W9.heap.size < W10.heap.size := lt_of_block hd
              clear hb hd ek
              obtain ⟨wq, hwq⟩ : ∃ q : Nat, (wi : Int) % 8 = (q : Int) := ⟨wi % 8, by omega⟩
              have hw8 : wq < 8 := by omega
              have hnr := nilRow8_get wq hw8
              have hwi0 : (0 : Int) ≤ (wq : Int) := by omega
              have hwi1 : (wq : Int) < 8 := by omega
              have hM10 := (HM.out.keep HB.out).keep HB2.out
              obtain ⟨sb, sc, rfl, -, -⟩ := hM10.po.form (by omega)
              obtain ⟨tb, tc, rfl, -, -⟩ := hM10.pt.form (by omega)
              have hd10 : W10.heap[W8.heap.size]? = some (.cells (boolRow dn) 4 (0, 0)) := by rw [HB2.out.block _ (by omega)]; exact HD.out
              have ht10 : W10.heap[W8.heap.size + 1]? = some (.cells (intRow wt) 3 (0, 0)) := by rw [HB2.out.block _ (by omega)]; exact HT.out
              have G := hid (show _ ∧ _ ∧ _ from ⟨hM10, hd10, ht10⟩)
              clear hM10 hd10 ht10 HM HB HD HT HB2
              have hls : (srcOf x2).length = 8 := by simp [srcOf, L2.out]
              have hlt' : (thrOf x3).length = 8 := by simp [thrOf, L3.out]
              have hle : ∀ j, j < 8 → (srcOf x2).getD j 0 ≤ 7 := fun j hj => by simp [srcOf, L2.out, hj]; omega
              have F := hid (show _ ∧ _ ∧ _ from ⟨hls, hlt', hle⟩)
              clear hls hlt' hle
              go_wp2_with fail
              obtain ⟨hB, h0, h1, h2, h3, h4⟩ := five_blocks W10 (.cells (nilRow8.setIfInBounds wq (.slice (some ⟨W9.heap.size, 0, none⟩) n n)) 37) (.cells (satCells W10.heap.size) 89) (.cells (baseCells (w.heap.size + 6) ext) 43) (.cells (rpCells (W10.heap.size + 1) (W10.heap.size + 2) W8.heap.size) 91) (.cells (plCells (W8.heap.size + 1)) 94)
              have hcm := cm_make G.out.1 G.out.2.1 G.out.2.2 F.out.1 F.out.2.1 L0.out L1.out F.out.2.2 hB h1 h2 h3 h4
              have hl' : ∀ j, j < n → (((((W10.alloc (.cells (nilRow8.setIfInBounds wq (.slice (some ⟨W9.heap.size, 0, none⟩) n n)) 37)).alloc (.cells (satCells W10.heap.size) 89)).alloc (.cells (baseCells (w.heap.size + 6) ext) 43)).alloc (.cells (rpCells (W10.heap.size + 1) (W10.heap.size + 2) W8.heap.size) 91)).alloc (.cells (plCells (W8.heap.size + 1)) 94)).cell? ⟨W9.heap.size, j, none⟩ = some (.int .i64 ((natsOf rd).getD j 0 : Nat)) := fun j hj => by
                rw [hB.cell (p := ⟨W9.heap.size, j, none⟩) hz10]
                have := intRow_get (listOf rd) j (by rw [hll]; exact hj)
                rw [listOf_getD rd j (by rw [RL.out]; exact hj)] at this
                simp only [World.cell?, HL.out, this]; rfl
              have hwa := waiting_any hcm (W10.heap.size + 1) W10.heap.size 8 W9.heap.size n n wq bound (natsOf rd) ((cell_of_row _ _ 0 _ _ _ h3).trans rfl) ((cell_of_row _ _ 1 _ _ _ h1).trans rfl) hw8 ((cell_of_row _ _ wq _ _ _ h0).trans (by simp [nilRow8_size, hw8])) hn (by simp [natsOf, RL.out]) (fun j hj => natsOf_lt rd j) hl'
              refine hwa.mono ?_
              rintro e W11 ⟨rfl, n', hw11⟩
              have hB11 : Below W10.heap.size W10 W11 := by rw [hw11]; exact below_drewN hB n'
              have hM11 := G.out.1.keep hB11
              have hL11 : W11.heap[W9.heap.size]? = some (.cells (intRow (listOf rd)) 3 (0, 0)) := by rw [hB11.block _ hz10]; exact HL.out
              have G11 := hid (show _ ∧ _ from ⟨hM11, hL11⟩)
              clear hw11 hB11 hM11 hL11 hwa hl' hcm h0 h1 h2 h3 h4 hB G HL hnr hwq hwi0 hwi1
              go_wp2_with fail
              generalize hcnt : waitCount (waitsB ext (srcOf x2) (thrOf x3) dn wt) (natsOf rd) = cnt at *
              have HCNT := hid hcnt
              clear hcnt
              go_loopw [35, 36] (fun c i wq => ∃ (k2 m : Nat), k2 ≤ n ∧ i = .int .i64 k2 ∧ c = .int .i64 (waitCount (waitsB ext (srcOf x2) (thrOf x3) dn wt) ((natsOf rd).take k2) : Nat) ∧ wq = W11.drewN m) (fun _ i _ => n - (intOf i).toNat)
              case atStart => exact ⟨0, 0, by omega, rfl, rfl, rfl⟩
              case round =>
                obtain ⟨k2, m, hk2, rfl, rfl, rfl⟩ := hrel
                have hcle := waitCount_le_take (waitsB ext (srcOf x2) (thrOf x3) dn wt) (natsOf rd) k2
                by_cases hlt2 : k2 < n
                · have hc := waitCount_succ (waitsB ext (srcOf x2) (thrOf x3) dn wt) (natsOf rd) k2 (by simp [natsOf, RL.out, hlt2])
                  have hr8 := natsOf_lt rd k2
                  have cl : W11.cell? ⟨W9.heap.size, k2, none⟩ = some (.int .i64 ((natsOf rd).getD k2 0 : Nat)) := by
                    have := intRow_get (listOf rd) k2 (by rw [hll]; exact hlt2)
                    rw [listOf_getD rd k2 (by rw [RL.out]; exact hlt2)] at this
                    simp only [World.cell?, G11.out.2, this]; rfl
                  generalize (natsOf rd).getD k2 0 = r at *
                  have c0 : W11.cell? ⟨w.heap.size, r, none⟩ = some (.bool (dn.getD r false)) := by simp [World.cell?, G11.out.1.k0, H0.out r hr8]
                  have c1 : W11.cell? ⟨w.heap.size + 1, r, none⟩ = some (.int .i8 (wt.getD r 0)) := by simp [World.cell?, G11.out.1.k1, H1.out r hr8]
                  have q1 := B1.out r
                  have hck := ckeeps_any (w.heap.size + 4) (w.heap.size + 5) 8 8 ext (srcOf x2) (thrOf x3) r (W11.drewN m) hr8
                    (fun j hj => (cell_of_row W11 _ j _ _ _ G11.out.1.k4).trans (intRow_get (srcOf x2) j (by rw [F.out.1]; exact hj)))
                    (fun j hj => (cell_of_row W11 _ j _ _ _ G11.out.1.k5).trans (intRow_get (thrOf x3) j (by rw [F.out.2.1]; exact hj))) (F.out.2.2 r hr8)
                  have HCK := hid hck
                  have HC := hid hc
                  have HW := hid (show waitsB ext (srcOf x2) (thrOf x3) dn wt r = (!dn.getD r false && (decide (1 < wt.getD r 0) || !keepsB ext (srcOf x2) (thrOf x3) r)) from rfl)
                  have r1 : (r : Int) < 8 := by omega
                  have r0 : (0 : Int) ≤ (r : Int) := by omega
                  have l1 : (k2 : Int) < (n : Int) := by omega
                  have l0 : (0 : Int) ≤ (k2 : Int) := by omega
                  clear hck hc
                  generalize dn.getD r false = dq at *
                  generalize hkb : keepsB ext (srcOf x2) (thrOf x3) r = kb at *
                  clear hkb
                  generalize hcc : waitCount (waitsB ext (srcOf x2) (thrOf x3) dn wt) ((natsOf rd).take k2) = cc at *
                  clear hcc
                  have hcc' : (cc : Int) ≤ 1024 := by omega
                  cases dq with
                  | true =>
                    generalize wt.getD r 0 = x at *
                    have HC2 : Hid (waitCount (waitsB ext (srcOf x2) (thrOf x3) dn wt) ((natsOf rd).take (k2 + 1)) = cc) := by
                      show _ = _; rw [HC.out, HW.out]; simp
                    go_wp2
                    go_roundw
                    case rel => exact ⟨k2 + 1, m, by omega, by go_num, by rw [HC2.out], rfl⟩
                    case measure => simp [intOf]; omega
                  | false =>
                    by_cases hx : 1 < wt.getD r 0
                    · have HC2 : Hid (waitCount (waitsB ext (srcOf x2) (thrOf x3) dn wt) ((natsOf rd).take (k2 + 1)) = cc + 1) := by
                        show _ = _; rw [HC.out, HW.out, decide_eq_true hx]; simp
                      generalize wt.getD r 0 = x at *
                      go_wp2
                      go_roundw
                      case rel => exact ⟨k2 + 1, m, by omega, by go_num, by rw [HC2.out]; go_num, rfl⟩
                      case measure => simp [intOf]; omega
                    · have hd : decide (1 < wt.getD r 0) = false := decide_eq_false hx
                      cases kb with
                      | true =>
                        have HC2 : Hid (waitCount (waitsB ext (srcOf x2) (thrOf x3) dn wt) ((natsOf rd).take (k2 + 1)) = cc) := by
                          show _ = _; rw [HC.out, HW.out, hd]; simp
                        generalize wt.getD r 0 = x at *
                        go_wp2_with fail
                        refine HCK.out.mono ?_
                        rintro e w' ⟨rfl, n'', rfl⟩
                        go_wp2
                        go_roundw
                        case rel => exact ⟨k2 + 1, _, by omega, by go_num, by rw [HC2.out], rfl⟩
                        case measure => simp [intOf]; omega
                      | false =>
                        have HC2 : Hid (waitCount (waitsB ext (srcOf x2) (thrOf x3) dn wt) ((natsOf rd).take (k2 + 1)) = cc + 1) := by
                          show _ = _; rw [HC.out, HW.out, hd]; simp
                        generalize wt.getD r 0 = x at *
                        go_wp2_with fail
                        refine HCK.out.mono ?_
                        rintro e w' ⟨rfl, n'', rfl⟩
                        go_wp2
                        go_roundw
                        case rel => exact ⟨k2 + 1, _, by omega, by go_num, by rw [HC2.out]; go_num, rfl⟩
                        case measure => simp [intOf]; omega
                · have e : (natsOf rd).take k2 = natsOf rd := List.take_of_length_le (by simp [natsOf, RL.out]; omega)
                  have hbw : Below w.heap.size w (W11.drewN m) := below_drewN G11.out.1.below m
                  have HBW := hid hbw
                  clear hbw
                  rw [e, HCNT.out] at hcle ⊢
                  have hcn : (cnt : Int) ≤ 1024 := by omega
                  by_cases hb1 : 1 ≤ bound
                  · by_cases hb2 : bound ≤ (cnt : Int)
                    · have ec : capped bound cnt = bound := by unfold capped; rw [if_pos ⟨hb1, hb2⟩]
                      go_wp2
                      go_ret
                      exact ⟨by simp, HBW.out⟩
                    · have ec : capped bound cnt = (cnt : Int) := by unfold capped; rw [if_neg (fun h => hb2 h.2)]
                      go_wp2
                      go_ret
                      exact ⟨by simp, HBW.out⟩
                  · have ec : capped bound cnt = (cnt : Int) := by unfold capped; rw [if_neg (fun h => hb1 h.1)]
                    go_wp2
                    go_ret
                    exact ⟨by simp, HBW.out⟩
end Go.Proofs.Ybulkrce
