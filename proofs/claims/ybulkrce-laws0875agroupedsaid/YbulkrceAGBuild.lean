import Derived.Test.YbulkrceAGMem
import Derived.BigRegion
namespace Go.Proofs.Ybulkrce
open Go.RowKit
set_option linter.unusedVariables false

theorem setCells_placeG (w : World) (b : Nat) (r : OpRec) (i : Nat) : w.setCells b (i * 7) (r.place i).toList =
    ((((((w.setCell ⟨b, i * 7, none⟩ (.int .i32 r.pos)).setCell ⟨b, i * 7 + 1, none⟩ (.int .i32 (r.grp : Nat))).setCell ⟨b, i * 7 + 2, none⟩ (.int .i32 (r.slt : Nat))).setCell ⟨b, i * 7 + 3, none⟩ (.int .i32 4)).setCell ⟨b, i * 7 + 4, none⟩ (.int .i32 (r.grp : Nat))).setCell ⟨b, i * 7 + 5, none⟩ (.bool r.loc)).setCell ⟨b, i * 7 + 6, none⟩ (.int .i64 (r.off i)) := rfl

theorem three_new (wr : World) (a b c : Array Value) (ta tb tc : TypeId) :
    let w3 := ((wr.alloc (.cells a ta)).alloc (.cells b tb)).alloc (.cells c tc)
    w3.heap[wr.heap.size]? = some (.cells a ta (0, 0)) ∧ w3.heap[wr.heap.size + 1]? = some (.cells b tb (0, 0)) ∧ w3.heap[wr.heap.size + 1 + 1]? = some (.cells c tc (0, 0)) := by
  refine ⟨?_, ?_, ?_⟩
  · rw [Below.heap_alloc _ _ _ (by simp; omega), Below.heap_alloc _ _ _ (by simp)]; exact heap_alloc_new _ _
  · rw [Below.heap_alloc _ _ _ (by simp)]
    have := heap_alloc_new (wr.alloc (.cells a ta)) (.cells b tb)
    simpa using this
  · have := heap_alloc_new ((wr.alloc (.cells a ta)).alloc (.cells b tb)) (.cells c tc)
    simpa using this

/-- What the builder hands back. -/
def BuildPost (W : World) (n : Nat) (f : Nat → OpRec) (d : List Int) (e : Ending) (w' : World) : Prop := ∃ bb cb ab db sb, e = .returned (.agg #[.pointer (some ⟨bb, 0, none⟩), .pointer (some ⟨cb, 0, none⟩)]) ∧ Below W.heap.size W w' ∧ Ord bb cb ab db sb n f d w'

set_option maxRecDepth 100000 in
set_option maxHeartbeats 4000000 in
theorem build_any (ob oo n oc ld dc dbk dof : Nat) (da : Option Addr) (f : Nat → OpRec) (d : List Int) (w : World) (va : Nat → Option Addr) (vc vb vo : Nat → Nat) (hn0 : 0 < n) (hn : n ≤ 1024)
    (hops : ∀ i, i < n → OpIn w ob (oo + i * 8) (f i) (va i) (vc i) (vb i) (vo i))
    (hda : 0 < ld → da = some ⟨dbk, dof, none⟩) (hld : d.length = ld) (hcd : ∀ j, j < ld → w.cell? ⟨dbk, dof + j, none⟩ = some (.int .i32 (d.getD j 0))) :
    Calls Yba.prog 8 #[.slice (some ⟨ob, oo, none⟩) n oc, .slice da ld dc] w (BuildPost w n f d) := by
  obtain ⟨m, hm⟩ : ∃ m, n * 4 = m := ⟨_, rfl⟩
  have hm33 := Yba.make33 n (by omega)
  have hm23 := Yba.make23A m (by omega)
  have hm4 : ∀ w : World, (Instr.makeSlice 23 (.int .i64 4) (.int .i64 4)).run Yba.prog w = .ok (.slice (some ⟨w.heap.size, 0, none⟩) 4 4) (w.alloc (.cells (iRow 4 fun _ => 0) 21)) := Yba.make23A 4 (by omega)
  have hm44 := Yba.make44 n (by omega)
  have m1 : (n : Int) * 4 = (m : Int) := by omega
  have m2 := wrapI64 m (by omega)
  have OPS := hidB hops
  have DA := hidB hda
  have CD := hidB hcd
  clear hops hda hcd
  go_enter Yba.func8, Yba.ntmps8
  go_wp2_with fail
  go_loopw [8] (fun s wr => ∃ (j : Nat), j ≤ m ∧ s = .int .i64 j ∧ wr.heap.size = w.heap.size + 1 + 1 + 1 ∧ Below w.heap.size w wr ∧ wr.heap[w.heap.size]? = some (.cells #[.pointer none, .pointer none] 27 (0, 0)) ∧ wr.heap[w.heap.size + 1]? = some (.cells (placesNew n) 35 (0, 0)) ∧ wr.heap[w.heap.size + 1 + 1]? = some (.cells (iRow m (firstF d j)) 21 (0, 0))) (fun s _ => m - (intOf s).toNat)
  case atStart =>
    have hb3 := three_new w #[.pointer none, .pointer none] (placesNew n) (iRow m fun _ => 0) 27 35 21
    exact ⟨0, by omega, rfl, by simp, (((Below.refl _ _).alloc (Nat.le_refl _) _).alloc (by simp) _).alloc (by simp; omega) _, hb3.1, hb3.2.1, by rw [firstF_zero]; exact hb3.2.2⟩
  case round =>
    obtain ⟨j, hj, rfl, hz2, hB2, hX, hY, hD⟩ := hrel
    by_cases hjm : j < m
    · have j0 : (0 : Int) ≤ (j : Int) := by omega
      have j1 : (j : Int) < (m : Int) := by omega
      by_cases hjd : j < ld
      · have hda := DA.out (by omega)
        subst hda
        have cd0 := CD.out j hjd
        have cd : wr.cell? ⟨dbk, dof + j, none⟩ = some (.int .i32 (d.getD j 0)) := Stays.of_below hB2 _ _ cd0
        have co : wr.cell? ⟨w.heap.size + 1 + 1, j, none⟩ = some (.int .i32 (firstF d j j)) := (cellB hD).trans (iRow_get _ _ j (by omega))
        have fo : wr.frozen? ⟨w.heap.size + 1 + 1, j, none⟩ = false := freeB hD
        have j2 : (j : Int) < (ld : Int) := by omega
        have hD2 := setB_same wr (w.heap.size + 1 + 1) j _ 21 (.int .i32 (d.getD j 0)) hD
        rw [iRow_set, firstF_succ] at hD2
        have HD := hidB (show _ ∧ _ ∧ _ ∧ _ ∧ _ from ⟨hz2, hB2.setCell (p := ⟨w.heap.size + 1 + 1, j, none⟩) (by simp; omega) (.int .i32 (d.getD j 0)), (Below.heap_setCell wr ⟨w.heap.size + 1 + 1, j, none⟩ (.int .i32 (d.getD j 0)) w.heap.size (by simp; omega)).trans hX, (Below.heap_setCell wr ⟨w.heap.size + 1 + 1, j, none⟩ (.int .i32 (d.getD j 0)) (w.heap.size + 1) (by simp)).trans hY, hD2⟩)
        clear hz2 hB2 hD hD2 hX hY cd0
        generalize firstF d j j = ov at *
        generalize d.getD j 0 = dz at *
        go_wp2
        go_roundw
        case rel => exact ⟨j + 1, by omega, by go_num, by simpa using HD.out.1, HD.out.2⟩
        case measure => simp [intOf]; omega
      · have j2 : ¬ (j : Int) < (ld : Int) := by omega
        rw [← firstF_past d j (by omega)] at hD
        have HD := hidB (show _ ∧ _ ∧ _ ∧ _ ∧ _ from ⟨hz2, hB2, hX, hY, hD⟩)
        clear hz2 hB2 hD hX hY
        go_wp2
        go_roundw
        case rel => exact ⟨j + 1, by omega, by go_num, HD.out⟩
        case measure => simp [intOf]; omega
    · have ej : j = m := by omega
      subst ej
      have G0 : G w n f d 0 0 (wr.alloc (.cells (sparseNew n) 102)) := by
        have hnew : (wr.alloc (.cells (sparseNew n) 102)).heap[w.heap.size + 3]? = some (.cells (sparseNew n) 102 (0, 0)) := by rw [show w.heap.size + 3 = wr.heap.size by omega]; exact heap_alloc_new _ _
        have old : ∀ k, k < wr.heap.size → (wr.alloc (.cells (sparseNew n) 102)).heap[k]? = wr.heap[k]? := fun k hk => Below.heap_alloc _ _ _ hk
        refine ⟨hB2.alloc (by omega) _, by rw [old _ (by omega)]; exact hX, fun k hk => ?_, fun k hk => by omega, by rw [old _ (by omega), hm]; exact hD, fun k hk => ?_, fun k hk => by omega, fun k h1 h2 => ?_, by simp; omega⟩
        · have hYn : (wr.alloc (.cells (sparseNew n) 102)).heap[w.heap.size + 1]? = some (.cells (placesNew n) 35 (0, 0)) := by rw [old _ (by omega)]; exact hY
          refine ⟨?_, freeB hYn⟩
          rw [cellB hYn, Nat.zero_add, Array.getElem?_eq_getElem (by simp [placesNew, madeCells]; omega)]
          rfl
        · refine ⟨?_, freeB hnew⟩
          rw [cellB hnew, Nat.zero_add, sparseNew_get n k hk]
          rfl
        · exact ⟨(cellB hnew).trans (sparseNew_get n _ (by omega)), (cellB hnew).trans (sparseNew_get n _ (by omega))⟩
      have HG0 := hidB G0
      clear G0 hB2 hX hY hD
      go_wp2_with fail
      go_loopw [10] (fun s w2 => ∃ (i : Nat), i ≤ n ∧ s = .int .i64 i ∧ G w n f d i i w2) (fun s _ => n - (intOf s).toNat)
      case atStart => exact ⟨0, by omega, rfl, HG0.out⟩
      case round =>
        obtain ⟨i, hi, rfl, hG⟩ := hrel
        by_cases hin : i < n
        · obtain ⟨c0, c1, c2, c3, c4, c5, c6, c7, hv, hvs, g255, s255, m255⟩ := (OPS.out i hin).stays (Stays.of_below hG.below)
          have i0 : (0 : Int) ≤ (i : Int) := by omega
          have i1 : (i : Int) < (n : Int) := by omega
          have q1 : ((f i).group : Int).tmod 2 = ((f i).grp : Int) := by rw [Int.tmod_eq_emod_of_nonneg (by omega)]; unfold OpRec.grp; omega
          have q2 : ((f i).slot : Int).tmod 4 = ((f i).slt : Int) := by rw [Int.tmod_eq_emod_of_nonneg (by omega)]; unfold OpRec.slt; omega
          have b1 : (f i).grp < 2 := Nat.mod_lt _ (by omega)
          have b2 : (f i).slt < 4 := Nat.mod_lt _ (by omega)
          have u1 := wrapU8 _ (show (f i).grp < 256 by omega)
          have u2 := wrapU8 _ (show (f i).slt < 256 by omega)
          have u3 := wrapI32 _ (show (f i).grp < 2 ^ 30 by omega)
          have u4 := wrapI32 _ (show (f i).slt < 2 ^ 30 by omega)
          obtain ⟨y, hy⟩ : ∃ y, i * 4 = y := ⟨_, rfl⟩
          have y1 : (i : Int) * 4 = (y : Int) := by omega
          have y2 := wrapI64 y (by omega)
          cases hp : (f i).spa
          · rw [hp] at c5
            have hG2 := hG.skip hp
            have hth := there_mid hG2.room (i * 7) 7 (by omega)
            obtain ⟨x0, t0⟩ := Option.isSome_iff_exists.1 (hth 0 (by omega)).1
            obtain ⟨x1, t1⟩ := Option.isSome_iff_exists.1 (hth 1 (by omega)).1
            obtain ⟨x2, t2⟩ := Option.isSome_iff_exists.1 (hth 2 (by omega)).1
            obtain ⟨x3, t3⟩ := Option.isSome_iff_exists.1 (hth 3 (by omega)).1
            obtain ⟨x4, t4⟩ := Option.isSome_iff_exists.1 (hth 4 (by omega)).1
            obtain ⟨x5, t5⟩ := Option.isSome_iff_exists.1 (hth 5 (by omega)).1
            obtain ⟨x6, t6⟩ := Option.isSome_iff_exists.1 (hth 6 (by omega)).1
            have f0 := (hth 0 (by omega)).2
            have f1 := (hth 1 (by omega)).2
            have f2 := (hth 2 (by omega)).2
            have f3 := (hth 3 (by omega)).2
            have f4 := (hth 4 (by omega)).2
            have f5 := (hth 5 (by omega)).2
            have f6 := (hth 6 (by omega)).2
            rw [show i * 7 + 0 = i * 7 from rfl] at t0 f0
            have hG3 := hG2.lay hin
            rw [setCells_placeG] at hG3
            replace hG3 := hG3.keep (Below.refl _ _).drew
            have eo : (f i).off i = (y : Int) := by simp only [OpRec.off, hp]; rw [← hy]; simp
            rw [eo] at hG3
            have HD := hidB hG3
            clear hG hG2 hG3 hth hv hvs eo c3 c6 c7 hp b1 b2
            generalize (f i).pos = ps at *
            generalize (f i).grp = gr at *
            generalize (f i).slt = sl at *
            generalize (f i).loc = lc at *
            go_wp2_with fail
            go_region
            go_wp2
            go_roundw
            case rel => exact ⟨i + 1, by omega, by go_num, HD.out⟩
            case measure => simp [intOf]; omega
          · rw [hp] at c5
            obtain ⟨w1, hw1⟩ : ∃ w1, w1 = wr := ⟨_, rfl⟩
            subst hw1
            have hlt2 : w.heap.size + 3 < w1.heap.size := hG.size
            cases hf : (f i).fla
            · rw [hf] at c6
              have HG := hidB hG
              obtain ⟨e0, hi0, hz0, hz1, hz2'⟩ := info_parts Yba.info105
              clear hG c0 c2 c3 c4 c7 hv hvs
              go_wp2_with fail
              go_loopw [16, 17] (fun es s w2 => ∃ (k : Nat) (ev : Value), k ≤ 4 ∧ es = ev ∧ s = .int .i64 k ∧ Below w1.heap.size w1 w2 ∧ w2.ownsRow w1.heap.size 105 2 ev ((f i).kss k).length (entCells (f i) ((f i).kss k))) (fun _ s _ => 4 - (intOf s).toNat)
              case atStart => exact ⟨0, _, by omega, rfl, rfl, Below.refl _ _, World.ownsRow_nil _ _ _ _⟩
              case round =>
                obtain ⟨k, ev, hk, rfl, rfl, hB2, hO⟩ := hrel
                clear c1 c5 c6
                by_cases hk4 : k < 4
                · obtain ⟨-, -, -, c3, -, -, -, c7, hv, hvs, -, -, -⟩ := (OPS.out i hin).stays (Stays.of_below (HG.out.below.trans (hB2.mono HG.out.below.size)))
                  have k0 : (0 : Int) ≤ (k : Int) := by omega
                  have k1 : (k : Int) < 4 := by omega
                  have hbit := mask_bit (f i).mask k m255
                  have kw1 := wrapU64 k (by omega)
                  have kw2 := wrapI32 k (by omega)
                  by_cases hb : (f i).mask / 2 ^ k % 2 = 1
                  · rw [hb] at hbit
                    have hks := kss_succ (f i) k
                    rw [if_pos hb] at hks
                    have hLe := (f i).kss_length k
                    have HE := hidB (entCells_snoc (f i) ((f i).kss k) k)
                    have HS := hidB hks
                    clear hb hks
                    generalize (f i).kss k = ks at *
                    obtain ⟨L, hL⟩ : ∃ L, ks.length = L := ⟨_, rfl⟩
                    rw [hL] at hO hLe
                    by_cases hl : k < (f i).vz.length
                    · have hva := hv (by omega)
                      rw [hva] at c7
                      have cv := hvs k hl
                      have k2 : (k : Int) < ((f i).vz.length : Int) := by omega
                      clear hv hvs hva hl
                      generalize (f i).vz.length = vl at *
                      generalize (f i).val k = dz at *
                      generalize (f i).mask = mk at *
                      have hOl := hB2.size
                      have HB2 := hidB hB2
                      have HO := hidB hO
                      clear hB2 hO
                      go_wp2_with (at_builtin; refine wpList_append_lies _ rfl _ _ _ rfl w1.heap.size 105 e0 _ 2 8 Yba.underlying87 hi0 hz0 hz1 hz2' rfl (by omega) _ L (entCells (f i) ks) rfl (HO.out.alloc _) ⟨wr.heap.size, 0, none⟩ 1 1 [.int .i32 (k : Int), .int .i32 dz] rfl rfl (World.news_of_block (cs := #[.int .i32 (k : Int), .int .i32 dz]) (t := 105) (fr := (0, 0)) (heap_alloc_new _ _)) (by simp [Value.oneCell']) (by omega) (by unfold maxLen; omega) (by omega) (by simp; omega) _ rfl ?_)
                      intro g cap w2 hown hgrow hat hglt
                      have hbn := ((HB2.out.alloc hOl (.cells #[.int .i32 (k : Int), .int .i32 dz] 105)).grown hgrow (by simp; omega) (fun q hq => (HO.out.lt q hq).1))
                      rw [HE.out] at hown
                      have HD := hidB (show _ ∧ _ from ⟨hbn, hown⟩)
                      clear hown hgrow hat hglt hbn
                      go_wp2
                      go_roundw
                      case rel => exact ⟨k + 1, _, by omega, rfl, by go_num, HD.out.1, by rw [HS.out, List.length_append, hL]; exact HD.out.2⟩
                      case measure => simp [intOf]; omega
                    · have k2 : ¬ (k : Int) < ((f i).vz.length : Int) := by omega
                      rw [val_past _ _ hl] at HE
                      clear hv hvs hl
                      generalize (f i).vz.length = vl at *
                      generalize (f i).mask = mk at *
                      have hOl := hB2.size
                      have HB2 := hidB hB2
                      have HO := hidB hO
                      clear hB2 hO
                      go_wp2_with (at_builtin; refine wpList_append_lies _ rfl _ _ _ rfl w1.heap.size 105 e0 _ 2 8 Yba.underlying87 hi0 hz0 hz1 hz2' rfl (by omega) _ L (entCells (f i) ks) rfl (HO.out.alloc _) ⟨wr.heap.size, 0, none⟩ 1 1 [.int .i32 (k : Int), .int .i32 0] rfl rfl (World.news_of_block (cs := #[.int .i32 (k : Int), .int .i32 0]) (t := 105) (fr := (0, 0)) (heap_alloc_new _ _)) (by simp [Value.oneCell']) (by omega) (by unfold maxLen; omega) (by omega) (by simp; omega) _ rfl ?_)
                      intro g cap w2 hown hgrow hat hglt
                      have hbn := ((HB2.out.alloc hOl (.cells #[.int .i32 (k : Int), .int .i32 0] 105)).grown hgrow (by simp; omega) (fun q hq => (HO.out.lt q hq).1))
                      rw [HE.out] at hown
                      have HD := hidB (show _ ∧ _ from ⟨hbn, hown⟩)
                      clear hown hgrow hat hglt hbn
                      go_wp2
                      go_roundw
                      case rel => exact ⟨k + 1, _, by omega, rfl, by go_num, HD.out.1, by rw [HS.out, List.length_append, hL]; exact HD.out.2⟩
                      case measure => simp [intOf]; omega
                  · have hb0 : (f i).mask / 2 ^ k % 2 = 0 := by omega
                    rw [hb0] at hbit
                    have hks := kss_succ (f i) k
                    rw [if_neg hb] at hks
                    rw [← hks] at hO
                    have HD := hidB (show _ ∧ _ from ⟨hB2, hO⟩)
                    clear hb hb0 hks hB2 hO hv hvs
                    generalize (f i).mask = mk at *
                    go_wp2
                    go_roundw
                    case rel => exact ⟨k + 1, _, by omega, rfl, by go_num, HD.out⟩
                    case measure => simp [intOf]; omega
                · have ek : k = 4 := by omega
                  subst ek
                  obtain ⟨ea, ec, g, hev, hlg, hea, hent⟩ := ent_of_owns hO
                  have hG2 := (HG.out.keep hB2).ent hin hp hf ea ec g (by omega) hea hent
                  have sc : wr.cell? ⟨w.heap.size + 1 + 1 + 1, i * 2, none⟩ = some (.slice none 0 0) := Stays.of_below hB2 _ _ (HG.out.spz i (Nat.le_refl _) hin).1
                  have sf : wr.frozen? ⟨w.heap.size + 1 + 1 + 1, i * 2, none⟩ = false := by
                    have := ((HG.out.keep hB2).sroom (i * 2) (by omega)).2
                    rwa [Nat.zero_add] at this
                  have HG2 := hidB hG2
                  subst hev
                  clear hG2 HG hO hea hent hB2
                  generalize (f i).ks.length = kl at *
                  go_wp2_with fail
                  generalize hw3 : World.setCell _ _ _ = w3
                  have hG4 : G w n f d i (i + 1) w3 := by rw [← hw3]; exact HG2.out
                  obtain ⟨c0, c1, c2, c3, c4, c5, c6, c7, -, -, -, -, -⟩ := (OPS.out i hin).stays (Stays.of_below hG4.below)
                  have hth := there_mid hG4.room (i * 7) 7 (by omega)
                  obtain ⟨x0, t0⟩ := Option.isSome_iff_exists.1 (hth 0 (by omega)).1
                  obtain ⟨x1, t1⟩ := Option.isSome_iff_exists.1 (hth 1 (by omega)).1
                  obtain ⟨x2, t2⟩ := Option.isSome_iff_exists.1 (hth 2 (by omega)).1
                  obtain ⟨x3, t3⟩ := Option.isSome_iff_exists.1 (hth 3 (by omega)).1
                  obtain ⟨x4, t4⟩ := Option.isSome_iff_exists.1 (hth 4 (by omega)).1
                  obtain ⟨x5, t5⟩ := Option.isSome_iff_exists.1 (hth 5 (by omega)).1
                  obtain ⟨x6, t6⟩ := Option.isSome_iff_exists.1 (hth 6 (by omega)).1
                  have f0 := (hth 0 (by omega)).2
                  have f1 := (hth 1 (by omega)).2
                  have f2 := (hth 2 (by omega)).2
                  have f3 := (hth 3 (by omega)).2
                  have f4 := (hth 4 (by omega)).2
                  have f5 := (hth 5 (by omega)).2
                  have f6 := (hth 6 (by omega)).2
                  rw [show i * 7 + 0 = i * 7 from rfl] at t0 f0
                  have hG3 := hG4.lay hin
                  rw [setCells_placeG] at hG3
                  replace hG3 := hG3.keep (Below.refl _ _).drew
                  have eo : (f i).off i = -1 := by simp only [OpRec.off, hp]; rfl
                  rw [eo] at hG3
                  have HD := hidB hG3
                  clear hG3 hG4 HG2 hw3 hth eo c1 c3 c5 c6 c7 b1 b2
                  generalize (f i).pos = ps at *
                  generalize (f i).grp = gr at *
                  generalize (f i).slt = sl at *
                  generalize (f i).loc = lc at *
                  go_region
                  go_wp2
                  go_roundw
                  case rel => exact ⟨i + 1, by omega, by go_num, HD.out⟩
                  case measure => simp [intOf]; omega
            · rw [hf] at c6
              have HG := hidB hG
              clear hG c0 c2 c3 c4 c7 hv hvs
              go_wp2_with fail
              go_loopw [15] (fun s w2 => ∃ (k : Nat), k ≤ 4 ∧ s = .int .i64 k ∧ Below w1.heap.size w1 w2 ∧ w2.heap.size = w1.heap.size + 1 ∧ w2.heap[w1.heap.size]? = some (.cells (iRow 4 (firstF (f i).vz k)) 21 (0, 0))) (fun s _ => 4 - (intOf s).toNat)
              case atStart => exact ⟨0, by omega, rfl, (Below.refl _ _).alloc (Nat.le_refl _) _, by simp, by rw [firstF_zero]; exact heap_alloc_new _ _⟩
              case round =>
                obtain ⟨k, hk, rfl, hB2, hz3, hD⟩ := hrel
                clear c1 c5 c6
                by_cases hk4 : k < 4
                · obtain ⟨-, -, -, -, -, -, -, c7, hv, hvs, -, -, -⟩ := (OPS.out i hin).stays (Stays.of_below (HG.out.below.trans (hB2.mono HG.out.below.size)))
                  have k0 : (0 : Int) ≤ (k : Int) := by omega
                  have k1 : (k : Int) < 4 := by omega
                  by_cases hl : k < (f i).vz.length
                  · have hva := hv (by omega)
                    rw [hva] at c7
                    have cv : wr.cell? ⟨vb i, vo i + k, none⟩ = some (.int .i32 ((f i).vz.getD k 0)) := hvs k hl
                    have k2 : (k : Int) < ((f i).vz.length : Int) := by omega
                    have co : wr.cell? ⟨w1.heap.size, k, none⟩ = some (.int .i32 (firstF (f i).vz k k)) := (cellB hD).trans (iRow_get _ _ k (by omega))
                    have fo : wr.frozen? ⟨w1.heap.size, k, none⟩ = false := freeB hD
                    have hD2 := setB_same wr w1.heap.size k _ 21 (.int .i32 ((f i).vz.getD k 0)) hD
                    rw [iRow_set, firstF_succ] at hD2
                    have HD := hidB (show _ ∧ _ ∧ _ from ⟨hB2.setCell (p := ⟨w1.heap.size, k, none⟩) (Nat.le_refl _) (.int .i32 ((f i).vz.getD k 0)), hz3, hD2⟩)
                    clear hB2 hz3 hD hD2 hv hvs hva hl
                    generalize firstF (f i).vz k k = ov at *
                    generalize (f i).vz.getD k 0 = dz at *
                    generalize (f i).vz.length = vl at *
                    go_wp2
                    go_roundw
                    case rel => exact ⟨k + 1, by omega, by go_num, HD.out.1, by simpa using HD.out.2.1, HD.out.2.2⟩
                    case measure => simp [intOf]; omega
                  · have k2 : ¬ (k : Int) < ((f i).vz.length : Int) := by omega
                    rw [← firstF_past (f i).vz k (by omega)] at hD
                    have HD := hidB (show _ ∧ _ ∧ _ from ⟨hB2, hz3, hD⟩)
                    clear hB2 hz3 hD hv hvs hl
                    generalize (f i).vz.length = vl at *
                    go_wp2
                    go_roundw
                    case rel => exact ⟨k + 1, by omega, by go_num, HD.out⟩
                    case measure => simp [intOf]; omega
                · have ek : k = 4 := by omega
                  subst ek
                  have hG2 := (HG.out.keep hB2).flat hin hp hf w1.heap.size hlt2 (fun s hs => (cellB hD).trans ((iRow_get _ _ s hs).trans (by simp [firstF, hs, OpRec.val])))
                  have sc : wr.cell? ⟨w.heap.size + 1 + 1 + 1, i * 2 + 1, none⟩ = some (.slice none 0 0) := Stays.of_below hB2 _ _ (HG.out.spz i (Nat.le_refl _) hin).2
                  have sf : wr.frozen? ⟨w.heap.size + 1 + 1 + 1, i * 2 + 1, none⟩ = false := by
                    have := ((HG.out.keep hB2).sroom (i * 2 + 1) (by omega)).2
                    rwa [Nat.zero_add] at this
                  have HG2 := hidB hG2
                  clear hG2 HG hD hB2 hz3
                  go_wp2_with fail
                  generalize hw3 : World.setCell _ _ _ = w3
                  have hG4 : G w n f d i (i + 1) w3 := by rw [← hw3]; exact HG2.out
                  obtain ⟨c0, c1, c2, c3, c4, c5, c6, c7, -, -, -, -, -⟩ := (OPS.out i hin).stays (Stays.of_below hG4.below)
                  have hth := there_mid hG4.room (i * 7) 7 (by omega)
                  obtain ⟨x0, t0⟩ := Option.isSome_iff_exists.1 (hth 0 (by omega)).1
                  obtain ⟨x1, t1⟩ := Option.isSome_iff_exists.1 (hth 1 (by omega)).1
                  obtain ⟨x2, t2⟩ := Option.isSome_iff_exists.1 (hth 2 (by omega)).1
                  obtain ⟨x3, t3⟩ := Option.isSome_iff_exists.1 (hth 3 (by omega)).1
                  obtain ⟨x4, t4⟩ := Option.isSome_iff_exists.1 (hth 4 (by omega)).1
                  obtain ⟨x5, t5⟩ := Option.isSome_iff_exists.1 (hth 5 (by omega)).1
                  obtain ⟨x6, t6⟩ := Option.isSome_iff_exists.1 (hth 6 (by omega)).1
                  have f0 := (hth 0 (by omega)).2
                  have f1 := (hth 1 (by omega)).2
                  have f2 := (hth 2 (by omega)).2
                  have f3 := (hth 3 (by omega)).2
                  have f4 := (hth 4 (by omega)).2
                  have f5 := (hth 5 (by omega)).2
                  have f6 := (hth 6 (by omega)).2
                  rw [show i * 7 + 0 = i * 7 from rfl] at t0 f0
                  have hG3 := hG4.lay hin
                  rw [setCells_placeG] at hG3
                  replace hG3 := hG3.keep (Below.refl _ _).drew
                  have eo : (f i).off i = -1 := by simp only [OpRec.off, hp]; rfl
                  rw [eo] at hG3
                  have HD := hidB hG3
                  clear hG3 hG4 HG2 hw3 hth eo c1 c3 c5 c6 c7 b1 b2
                  generalize (f i).pos = ps at *
                  generalize (f i).grp = gr at *
                  generalize (f i).slt = sl at *
                  generalize (f i).loc = lc at *
                  go_region
                  go_wp2
                  go_roundw
                  case rel => exact ⟨i + 1, by omega, by go_num, HD.out⟩
                  case measure => simp [intOf]; omega
        · have ein : i = n := by omega
          subst ein
          have r0 : wr.cell? ⟨w.heap.size, 0, none⟩ = some (.pointer none) := (cellB hG.ord).trans rfl
          have r1 : wr.cell? ⟨w.heap.size, 1, none⟩ = some (.pointer none) := (cellB hG.ord).trans rfl
          have s0 : wr.frozen? ⟨w.heap.size, 0, none⟩ = false := freeB hG.ord
          have s1 : wr.frozen? ⟨w.heap.size, 1, none⟩ = false := freeB hG.ord
          have hsz : w.heap.size < wr.heap.size := by have := hG.size; omega
          have HG := hidB hG
          clear hG
          go_wp2
          refine bodyPost_ret (v := .agg #[.pointer (some ⟨wr.heap.size, 0, none⟩), .pointer (some ⟨wr.heap.size + 1, 0, none⟩)]) (by simp [results, Yba.results8, go_sem, r0, r1, hsz]) rfl ?_
          refine ⟨_, _, _, _, _, rfl, HG.out.done _ _ _ _ ?_ ?_ ?_ ?_⟩
          · rfl
          · rfl
          · rw [hm]; rfl
          · rfl
end Go.Proofs.Ybulkrce
