import Derived.Test.YbulkrceAMem
import Derived.Deep.RegionHeld3
import Derived.BigRegion
namespace Go.Proofs.Ybulkrce
open Go.RowKit
set_option linter.unusedVariables false

/-- The place that the law lays for operation j. -/
def wideF (zs : List Int) (sls : List Nat) (wd : Nat) (j : Nat) : Array Value := placeCells (zs.getD j 0) 0 ((sls.getD j 0 % wd : Nat) : Int) (wd : Int) (-1) false (-1)
theorem wideF_size (zs : List Int) (sls : List Nat) (wd : Nat) (j : Nat) : (wideF zs sls wd j).size = 7 := rfl

theorem setCells_place (w : World) (b o : Nat) (ps g sl wd va : Int) (lo : Bool) (off : Int) : w.setCells b o (placeCells ps g sl wd va lo off).toList =
    ((((((w.setCell ⟨b, o, none⟩ (.int .i32 ps)).setCell ⟨b, o + 1, none⟩ (.int .i32 g)).setCell ⟨b, o + 2, none⟩ (.int .i32 sl)).setCell ⟨b, o + 3, none⟩ (.int .i32 wd)).setCell ⟨b, o + 4, none⟩ (.int .i32 va)).setCell ⟨b, o + 5, none⟩ (.bool lo)).setCell ⟨b, o + 6, none⟩ (.int .i64 off) := rfl

theorem heap_drewN (w : World) (m : Nat) (k : Nat) (hk : k < w.heap.size) : (w.drewN m).heap[k]? = w.heap[k]? := (below_drewN (Below.refl w.heap.size w) m).block k hk

theorem three_blocks {wr w3 : World} {a b c : Array Value} {ta tb tc : TypeId} {m : Nat} {N : Nat} (hN : wr.heap.size = N) (h : (((wr.alloc (.cells a ta)).alloc (.cells b tb)).alloc (.cells c tc)).drewN m = w3) :
    w3.heap[N]? = some (.cells a ta (0, 0)) ∧ w3.heap[N + 1]? = some (.cells b tb (0, 0)) ∧ w3.heap[N + 1 + 1]? = some (.cells c tc (0, 0)) := by
  subst hN h
  refine ⟨?_, ?_, ?_⟩
  · rw [heap_drewN _ _ _ (by simp; omega), Below.heap_alloc _ _ _ (by simp; omega), Below.heap_alloc _ _ _ (by simp)]; exact heap_alloc_new _ _
  · rw [heap_drewN _ _ _ (by simp), Below.heap_alloc _ _ _ (by simp)]
    have := heap_alloc_new (wr.alloc (.cells a ta)) (.cells b tb)
    simpa using this
  · rw [heap_drewN _ _ _ (by simp)]
    have := heap_alloc_new ((wr.alloc (.cells a ta)).alloc (.cells b tb)) (.cells c tc)
    simpa using this

set_option maxRecDepth 100000 in
set_option maxHeartbeats 4000000 in
theorem wide_any (pb po n pc sb so ln sc dbk dof ld dc : Nat) (sa da : Option Addr) (zs : List Int) (sls : List Nat) (d : List Int) (wi ai oi : Nat) (w : World) (hn0 : 0 < n) (hn : n ≤ 1024)
    (hpb : pb < w.heap.size) (hcp : ∀ j, j < n → w.cell? ⟨pb, po + j, none⟩ = some (.int .i32 (zs.getD j 0)))
    (hsa : 0 < ln → sa = some ⟨sb, so, none⟩ ∧ sb < w.heap.size) (hls : sls.length = ln) (hcs : ∀ j, j < ln → w.cell? ⟨sb, so + j, none⟩ = some (.int .u8 (sls.getD j 0 : Nat))) (hbs : ∀ j, sls.getD j 0 ≤ 255)
    (hda : 0 < ld → da = some ⟨dbk, dof, none⟩ ∧ dbk < w.heap.size) (hld : d.length = ld) (hcd : ∀ j, j < ld → w.cell? ⟨dbk, dof + j, none⟩ = some (.int .i32 (d.getD j 0)))
    (hwi : wi ≤ 255) (hai : ai ≤ 255) (hoi : oi ≤ 255) :
    Calls Yba.prog 4 #[.slice (some ⟨pb, po, none⟩) n pc, .slice sa ln sc, .slice da ld dc, .int .u8 wi, .int .u8 ai, .int .u8 oi] w fun e w' => e = .returned (.bool true) ∧ Below w.heap.size w w' := by
  have hm33 := Yba.make33 n (by omega)
  have hl1 : ¬ (1024 : Int) < (n : Int) := by omega
  have hle : ((n : Int) == 0) = false := by simp; omega
  obtain ⟨q, hq⟩ : ∃ q : Nat, wi % 4 = q := ⟨_, rfl⟩
  have q1 : (wi : Int).tmod 4 = (q : Int) := by rw [Int.tmod_eq_emod_of_nonneg (by omega)]; omega
  obtain ⟨wd, hwd⟩ : ∃ wd : Nat, 1 + q = wd := ⟨_, rfl⟩
  have q2 : (1 : Int) + (q : Int) = (wd : Int) := by omega
  have q3 : IntKind.i64.wrap (q : Int) = (q : Int) := by simp [IntKind.wrap, IntKind.signed, IntKind.bits]; omega
  have q4 : IntKind.i64.wrap (wd : Int) = (wd : Int) := by simp [IntKind.wrap, IntKind.signed, IntKind.bits]; omega
  have q5 : IntKind.u8.wrap (q : Int) = (q : Int) := by simp [IntKind.wrap, IntKind.signed, IntKind.bits]; omega
  have w0 : 0 < wd := by omega
  have w4 : wd ≤ 4 := by omega
  clear hq hwd
  have CP := hidB hcp
  have SA := hidB hsa
  have CS := hidB hcs
  have BS := hidB hbs
  have DA := hidB hda
  have CD := hidB hcd
  clear hcp hsa hcs hbs hda hcd
  go_enter Yba.func4, Yba.ntmps4
  go_wp2_with fail
  go_loopw [16] (fun s wr => ∃ (k : Nat), k ≤ n ∧ s = .int .i64 k ∧ wr.heap.size = w.heap.size + 1 ∧ AT w n (wideF zs sls wd) k wr) (fun s _ => n - (intOf s).toNat)
  case atStart => exact ⟨0, by omega, rfl, by simp, AT.start _ _ _⟩
  case round =>
    obtain ⟨k, hk, rfl, hz, hA⟩ := hrel
    by_cases hkl : k < n
    · have cr : wr.cell? ⟨pb, po + k, none⟩ = some (.int .i32 (zs.getD k 0)) := by
        rw [hA.below.cell (p := ⟨pb, po + k, none⟩) hpb]; exact CP.out k hkl
      have k0 : (0 : Int) ≤ (k : Int) := by omega
      have k1 : (k : Int) < (n : Int) := by omega
      have hbk := BS.out k
      obtain ⟨sk, hsk⟩ : ∃ sk, sls.getD k 0 = sk := ⟨_, rfl⟩
      obtain ⟨r, hr⟩ : ∃ r : Nat, sk % wd = r := ⟨_, rfl⟩
      have hr4 : r < wd := by rw [← hr]; exact Nat.mod_lt _ w0
      rw [hsk] at hbk
      have r1 : (sk : Int).tmod (wd : Int) = (r : Int) := by rw [Int.tmod_eq_emod_of_nonneg (by omega), ← hr]; simp
      have s3 : IntKind.i64.wrap (sk : Int) = (sk : Int) := by simp [IntKind.wrap, IntKind.signed, IntKind.bits]; omega
      have r3 : IntKind.i64.wrap (r : Int) = (r : Int) := by simp [IntKind.wrap, IntKind.signed, IntKind.bits]; omega
      have r4 : IntKind.i32.wrap (r : Int) = (r : Int) := by simp [IntKind.wrap, IntKind.signed, IntKind.bits]; omega
      have w5 : IntKind.i32.wrap (wd : Int) = (wd : Int) := by simp [IntKind.wrap, IntKind.signed, IntKind.bits]; omega
      have wz : ((wd : Int) == 0) = false := by simp; omega
      have wz2 : ¬ (wd : Int) = 0 := by omega
      have hth := there_mid hA.room (k * 7) 7 (by omega)
      obtain ⟨x0, t0⟩ := Option.isSome_iff_exists.1 (hth 0 (by omega)).1
      obtain ⟨x1, t1⟩ := Option.isSome_iff_exists.1 (hth 1 (by omega)).1
      obtain ⟨x2, t2⟩ := Option.isSome_iff_exists.1 (hth 2 (by omega)).1
      obtain ⟨x3, t3⟩ := Option.isSome_iff_exists.1 (hth 3 (by omega)).1
      obtain ⟨x4, t4⟩ := Option.isSome_iff_exists.1 (hth 4 (by omega)).1
      obtain ⟨x5, t5⟩ := Option.isSome_iff_exists.1 (hth 5 (by omega)).1
      obtain ⟨x6, t6⟩ := Option.isSome_iff_exists.1 (hth 6 (by omega)).1
      have f0 := (hth 0 (by omega)).2
      have f1 := (hth 1 (by omega)).2
      have f2 := (hth 2 (by omega)).2
      have f3 := (hth 3 (by omega)).2
      have f4 := (hth 4 (by omega)).2
      have f5 := (hth 5 (by omega)).2
      have f6 := (hth 6 (by omega)).2
      rw [Nat.add_zero] at t0 f0
      have hA2 := hA.step hkl (wideF_size zs sls wd)
      have ef : wideF zs sls wd k = placeCells (zs.getD k 0) 0 (r : Int) (wd : Int) (-1) false (-1) := by unfold wideF; rw [hsk, hr]
      rw [ef, setCells_place] at hA2
      replace hA2 := hA2.keep (Below.refl _ _).drew (by simp; omega)
      have HD := hidB (show _ ∧ _ from ⟨hz, hA2⟩)
      clear hth hz hA2 ef
      by_cases hs : k < ln
      · obtain ⟨rfl, hsb⟩ := SA.out (by omega)
        have cs : wr.cell? ⟨sb, so + k, none⟩ = some (.int .u8 sk) := by
          rw [hA.below.cell (p := ⟨sb, so + k, none⟩) hsb, ← hsk]; exact CS.out k hs
        have k3 : (k : Int) < (ln : Int) := by omega
        clear hA
        generalize zs.getD k 0 = z at *
        go_wp2_with fail
        go_region
        go_wp2
        go_roundw
        case rel => exact ⟨k + 1, by omega, by go_num, by simpa using HD.out.1, HD.out.2⟩
        case measure => simp [intOf]; omega
      · have k3 : ¬ (k : Int) < (ln : Int) := by omega
        have e0 : sk = 0 := by rw [← hsk]; simp [show sls.length ≤ k by omega]
        subst e0
        have e1 : r = 0 := by rw [← hr]; simp
        subst e1
        clear hA
        generalize zs.getD k 0 = z at *
        go_wp2_with fail
        go_region
        go_wp2
        go_roundw
        case rel => exact ⟨k + 1, by omega, by go_num, by simpa using HD.out.1, HD.out.2⟩
        case measure => simp [intOf]; omega
    · have ek : k = n := by omega
      subst ek
      obtain ⟨m, hm⟩ : ∃ m : Nat, k * wd = m := ⟨_, rfl⟩
      have hm4 : m ≤ 4096 := by rw [← hm]; exact Nat.mul_le_mul hn w4
      have m1 : (k : Int) * (wd : Int) = (m : Int) := by rw [← hm]; simp
      have m2 : IntKind.i64.wrap (m : Int) = (m : Int) := by simp [IntKind.wrap, IntKind.signed, IntKind.bits]; omega
      have hm23 := Yba.make23A m (by omega)
      have HA := hidB (show _ ∧ _ from ⟨hz, hA⟩)
      clear hA
      go_wp2_with fail
      go_loopw [19] (fun s w2 => ∃ (j : Nat), j ≤ m ∧ s = .int .i64 j ∧ w2.heap.size = w.heap.size + 2 ∧ Below (w.heap.size + 1) wr w2 ∧ w2.heap[w.heap.size + 1]? = some (.cells (iRow m (firstF d j)) 21 (0, 0))) (fun s _ => m - (intOf s).toNat)
      case atStart => exact ⟨0, by omega, rfl, by simp; exact HA.out.1, (Below.refl _ _).alloc (by rw [HA.out.1]; exact Nat.le_refl _) _, by rw [firstF_zero, ← HA.out.1]; exact heap_alloc_new _ _⟩
      case round =>
        obtain ⟨j, hj, rfl, hz2, hB2, hD⟩ := hrel
        by_cases hjm : j < m
        · have j0 : (0 : Int) ≤ (j : Int) := by omega
          have j1 : (j : Int) < (m : Int) := by omega
          by_cases hjd : j < ld
          · obtain ⟨rfl, hdb⟩ := DA.out (by omega)
            have cd : wr.cell? ⟨dbk, dof + j, none⟩ = some (.int .i32 (d.getD j 0)) := by
              rw [hB2.cell (p := ⟨dbk, dof + j, none⟩) (by simp; omega), HA.out.2.below.cell (p := ⟨dbk, dof + j, none⟩) hdb]; exact CD.out j hjd
            have co : wr.cell? ⟨w.heap.size + 1, j, none⟩ = some (.int .i32 (firstF d j j)) := (cellB hD).trans (iRow_get _ _ j (by omega))
            have fo : wr.frozen? ⟨w.heap.size + 1, j, none⟩ = false := freeB hD
            have j2 : (j : Int) < (ld : Int) := by omega
            have hD2 := setB_same wr (w.heap.size + 1) j _ 21 (.int .i32 (d.getD j 0)) hD
            rw [iRow_set, firstF_succ] at hD2
            have HD := hidB (show _ ∧ _ ∧ _ from ⟨hz2, hB2.setCell (p := ⟨w.heap.size + 1, j, none⟩) (Nat.le_refl _) (.int .i32 (d.getD j 0)), hD2⟩)
            clear hz2 hB2 hD hD2
            generalize firstF d j j = ov at *
            generalize d.getD j 0 = dz at *
            go_wp2
            go_roundw
            case rel => exact ⟨j + 1, by omega, by go_num, by simpa using HD.out.1, HD.out.2⟩
            case measure => simp [intOf]; omega
          · have j2 : ¬ (j : Int) < (ld : Int) := by omega
            rw [← firstF_past d j (by omega)] at hD
            have HD := hidB (show _ ∧ _ ∧ _ from ⟨hz2, hB2, hD⟩)
            clear hz2 hB2 hD
            go_wp2
            go_roundw
            case rel => exact ⟨j + 1, by omega, by go_num, HD.out⟩
            case measure => simp [intOf]; omega
        · have ej : j = m := by omega
          subst ej
          obtain ⟨ia, hia⟩ : ∃ ia : Nat, ai % k = ia := ⟨_, rfl⟩
          obtain ⟨io, hio⟩ : ∃ io : Nat, oi % k = io := ⟨_, rfl⟩
          have a1 : (ai : Int).tmod (k : Int) = (ia : Int) := by rw [Int.tmod_eq_emod_of_nonneg (by omega), ← hia]; simp
          have o1 : (oi : Int).tmod (k : Int) = (io : Int) := by rw [Int.tmod_eq_emod_of_nonneg (by omega), ← hio]; simp
          have hia2 : ia < k := by rw [← hia]; exact Nat.mod_lt _ hn0
          have hio2 : io < k := by rw [← hio]; exact Nat.mod_lt _ hn0
          have wa : IntKind.i64.wrap (ai : Int) = (ai : Int) := by simp [IntKind.wrap, IntKind.signed, IntKind.bits]; omega
          have wo : IntKind.i64.wrap (oi : Int) = (oi : Int) := by simp [IntKind.wrap, IntKind.signed, IntKind.bits]; omega
          have wa2 : IntKind.i64.wrap (ia : Int) = (ia : Int) := by simp [IntKind.wrap, IntKind.signed, IntKind.bits]; omega
          have wo2 : IntKind.i64.wrap (io : Int) = (io : Int) := by simp [IntKind.wrap, IntKind.signed, IntKind.bits]; omega
          have kz : ¬ (k : Int) = 0 := by omega
          have HD := hidB (show _ ∧ _ ∧ _ from ⟨hz2, hB2, hD⟩)
          clear hB2 hD
          go_wp2_with fail
          go_quiet (fail)
          generalize hw3 : World.drewN _ _ = w3
          have hB3 : Below (w.heap.size + 2) wr w3 := by
            rw [← hw3]
            exact below_drewN ((((Below.refl _ _).alloc (by omega) _).alloc (by simp; omega) _).alloc (by simp; omega) _) _
          obtain ⟨b1, b2, b3⟩ := three_blocks hz2 hw3
          have c8 : w3.cell? ⟨w.heap.size + 2, 8, none⟩ = some (.slice (some ⟨w.heap.size, 0, none⟩) k k) := (cellB b1).trans rfl
          have c12 : w3.cell? ⟨w.heap.size + 2, 12, none⟩ = some (.int .i64 wd) := (cellB b1).trans rfl
          have cc : w3.cell? ⟨w.heap.size + 2 + 1, 0, none⟩ = some (.slice (some ⟨w.heap.size + 1, 0, none⟩) j j) := (cellB b2).trans rfl
          have C0 := hidB (show w3.cell? ⟨w.heap.size + 2 + 1 + 1, 0, none⟩ = some (.pointer (some ⟨w.heap.size + 2, 0, none⟩)) from (cellB b3).trans rfl)
          have C1 := hidB (show w3.cell? ⟨w.heap.size + 2 + 1 + 1, 1, none⟩ = some (.pointer (some ⟨w.heap.size + 2 + 1, 0, none⟩)) from (cellB b3).trans rfl)
          have hs3 : w.heap.size + 2 + 1 + 1 < w3.heap.size := lt_of_block b3
          have SC := hidB (show ∀ (w' : World) (p : Addr) {x : Value}, Below w3.heap.size w3 w' → w3.cell? p = some x → w'.cell? p = some x from fun w' p x hb h => (hb.cell (World.block_lt_of_cell? w3 _ h)).trans h)
          have hall : Below w.heap.size w w3 := HA.out.2.below.trans ((HD.out.2.1.mono (by omega)).trans (hB3.mono (by omega)))
          have hAT : AT w k (wideF zs sls wd) k w3 := (HA.out.2.keep HD.out.2.1 (by omega)).keep (hB3.mono (by omega)) (by omega)
          have cp0 : w3.cell? ⟨pb, po + ia, none⟩ = some (.int .i32 (zs.getD ia 0)) := (hall.cell (p := ⟨pb, po + ia, none⟩) hpb).trans (CP.out ia hia2)
          have cpa : w3.cell? ⟨w.heap.size, ia * 7, none⟩ = some (.int .i32 (zs.getD ia 0)) := hAT.laid ia hia2 0 _ rfl
          have cps : w3.cell? ⟨w.heap.size, ia * 7 + 2, none⟩ = some (.int .i32 ((sls.getD ia 0 % wd : Nat) : Int)) := hAT.laid ia hia2 2 _ rfl
          obtain ⟨sk, hsk⟩ : ∃ sk, sls.getD ia 0 = sk := ⟨_, rfl⟩
          obtain ⟨r, hr⟩ : ∃ r : Nat, sk % wd = r := ⟨_, rfl⟩
          have hr4 : r < wd := by rw [← hr]; exact Nat.mod_lt _ w0
          have hbk := BS.out ia
          rw [hsk] at hbk cps
          rw [hr] at cps
          obtain ⟨y, hy⟩ : ∃ y : Nat, io * wd = y := ⟨_, rfl⟩
          obtain ⟨jj, hjj⟩ : ∃ jj : Nat, y + r = jj := ⟨_, rfl⟩
          have bj : jj < j := by
            have := Nat.mul_le_mul_right wd (show io + 1 ≤ k by omega)
            rw [Nat.add_mul, hy, hm] at this
            omega
          have hdn : w3.heap[w.heap.size + 1]? = some (.cells (iRow j (firstF d j)) 21 (0, 0)) := by rw [hB3.block _ (by omega)]; exact HD.out.2.2
          have cdv : w3.cell? ⟨w.heap.size + 1, jj, none⟩ = some (.int .i32 (d.getD jj 0)) := by
            rw [cellB hdn, iRow_get _ _ _ bj]; simp [firstF, bj]
          generalize hps : zs.getD ia 0 = ps at *
          generalize hv : d.getD jj 0 = v at *
          have hbw : ∀ w', Below w3.heap.size w3 w' → Calls Yba.prog 9 #[.agg #[.pointer (some ⟨w.heap.size + 2, 0, none⟩), .pointer (some ⟨w.heap.size + 2 + 1, 0, none⟩)], .int .i64 ia, .int .i64 io] w' fun e w'' => e = .returned (.bool (decide (ps < v))) ∧ Below w'.heap.size w' w'' := fun w' hb =>
            before_wide (w.heap.size + 2) (w.heap.size + 2 + 1) w.heap.size (w.heap.size + 1) k j ia io wd r ps v w' hia2 hn w0 w4 hio2 hr4 hm.symm (SC.out _ _ hb c8) (SC.out _ _ hb c12) (SC.out _ _ hb cc) (SC.out _ _ hb cpa) (SC.out _ _ hb cps) (by rw [hy, hjj]; exact SC.out _ _ hb cdv)
          have HBW := hidB hbw
          have y1 : (io : Int) * (wd : Int) = (y : Int) := by rw [← hy]; simp
          have y2 : (y : Int) + (r : Int) = (jj : Int) := by omega
          have wy : IntKind.i64.wrap (y : Int) = (y : Int) := by simp [IntKind.wrap, IntKind.signed, IntKind.bits]; omega
          have wjj : IntKind.i64.wrap (jj : Int) = (jj : Int) := by simp [IntKind.wrap, IntKind.signed, IntKind.bits]; omega
          have wsk : IntKind.i64.wrap (sk : Int) = (sk : Int) := by simp [IntKind.wrap, IntKind.signed, IntKind.bits]; omega
          have wr1 : IntKind.i64.wrap (r : Int) = (r : Int) := by simp [IntKind.wrap, IntKind.signed, IntKind.bits]; omega
          have r1 : (sk : Int).tmod (wd : Int) = (r : Int) := by rw [Int.tmod_eq_emod_of_nonneg (by omega), ← hr]; simp
          have wz2 : ¬ (wd : Int) = 0 := by omega
          have ia0 : (0 : Int) ≤ (ia : Int) := by omega
          have ia1 : (ia : Int) < (k : Int) := by omega
          have jj0 : (0 : Int) ≤ (jj : Int) := by omega
          have HALL := hidB hall
          have P3 := hidB cp0
          clear hbw hall hAT cp0 cpa cps cdv hdn c8 c12 cc b1 b2 b3 hw3 hB3 hz2 hz
          by_cases hs : ia < ln
          · obtain ⟨rfl, hsb⟩ := SA.out (by omega)
            have csl : w3.cell? ⟨sb, so + ia, none⟩ = some (.int .u8 sk) := by
              rw [HALL.out.cell (p := ⟨sb, so + ia, none⟩) hsb, ← hsk]; exact CS.out ia hs
            have k3 : (ia : Int) < (ln : Int) := by omega
            by_cases hd : jj < ld
            · obtain ⟨rfl, hdb⟩ := DA.out (by omega)
              have cdd : w3.cell? ⟨dbk, dof + jj, none⟩ = some (.int .i32 v) := by
                rw [HALL.out.cell (p := ⟨dbk, dof + jj, none⟩) hdb, ← hv]; exact CD.out jj hd
              have k4 : (jj : Int) < (ld : Int) := by omega
              have HSA := hidB (show ∀ w', Below w3.heap.size w3 w' → Below w3.heap.size w3 w' ∧ w'.cell? ⟨pb, po + ia, none⟩ = some (.int .i32 ps) ∧ w'.cell? ⟨w.heap.size + 2 + 1 + 1, 0, none⟩ = some (.pointer (some ⟨w.heap.size + 2, 0, none⟩)) ∧ w'.cell? ⟨w.heap.size + 2 + 1 + 1, 1, none⟩ = some (.pointer (some ⟨w.heap.size + 2 + 1, 0, none⟩)) from fun w' hb => ⟨hb, SC.out _ _ hb P3.out, SC.out _ _ hb C0.out, SC.out _ _ hb C1.out⟩)
              go_wp2_with fail
              go_region_held3 (fun w' => Below w3.heap.size w3 w' ∧ w'.cell? ⟨pb, po + ia, none⟩ = some (.int .i32 ps) ∧ w'.cell? ⟨w.heap.size + 2 + 1 + 1, 0, none⟩ = some (.pointer (some ⟨w.heap.size + 2, 0, none⟩)) ∧ w'.cell? ⟨w.heap.size + 2 + 1 + 1, 1, none⟩ = some (.pointer (some ⟨w.heap.size + 2 + 1, 0, none⟩)))
                ((refine HSA.out _ ?_; first | exact Below.refl _ _ | exact (Below.refl _ _).drew | exact (Below.refl _ _).drew.trans (hb'.mono (by simp)) | (go_split_ands; exact Below.drew (by assumption)) | (go_split_ands; exact Below.trans (by assumption) (Below.mono hb' (Below.size (by assumption))))))
                ((go_at_call 9; refine (HBW.out _ (by first | exact Below.refl _ _ | exact (Below.refl _ _).drew | (go_split_ands; assumption))).mono ?_; rintro e w' ⟨rfl, hb'⟩))
              go_wp2
              go_ret
              exact ⟨by simp, HALL.out.trans ((((Below.refl w3.heap.size w3).drew).trans (hb'.mono (by simp))).mono HALL.out.size)⟩
            · have k4 : ¬ (jj : Int) < (ld : Int) := by omega
              have ev : v = 0 := by rw [← hv]; simp [show d.length ≤ jj by omega]
              subst ev
              have HSA := hidB (show ∀ w', Below w3.heap.size w3 w' → Below w3.heap.size w3 w' ∧ w'.cell? ⟨pb, po + ia, none⟩ = some (.int .i32 ps) ∧ w'.cell? ⟨w.heap.size + 2 + 1 + 1, 0, none⟩ = some (.pointer (some ⟨w.heap.size + 2, 0, none⟩)) ∧ w'.cell? ⟨w.heap.size + 2 + 1 + 1, 1, none⟩ = some (.pointer (some ⟨w.heap.size + 2 + 1, 0, none⟩)) from fun w' hb => ⟨hb, SC.out _ _ hb P3.out, SC.out _ _ hb C0.out, SC.out _ _ hb C1.out⟩)
              go_wp2_with fail
              go_region_held3 (fun w' => Below w3.heap.size w3 w' ∧ w'.cell? ⟨pb, po + ia, none⟩ = some (.int .i32 ps) ∧ w'.cell? ⟨w.heap.size + 2 + 1 + 1, 0, none⟩ = some (.pointer (some ⟨w.heap.size + 2, 0, none⟩)) ∧ w'.cell? ⟨w.heap.size + 2 + 1 + 1, 1, none⟩ = some (.pointer (some ⟨w.heap.size + 2 + 1, 0, none⟩)))
                ((refine HSA.out _ ?_; first | exact Below.refl _ _ | exact (Below.refl _ _).drew | exact (Below.refl _ _).drew.trans (hb'.mono (by simp)) | (go_split_ands; exact Below.drew (by assumption)) | (go_split_ands; exact Below.trans (by assumption) (Below.mono hb' (Below.size (by assumption))))))
                ((go_at_call 9; refine (HBW.out _ (by first | exact Below.refl _ _ | exact (Below.refl _ _).drew | (go_split_ands; assumption))).mono ?_; rintro e w' ⟨rfl, hb'⟩))
              go_wp2
              go_ret
              exact ⟨by simp, HALL.out.trans ((((Below.refl w3.heap.size w3).drew).trans (hb'.mono (by simp))).mono HALL.out.size)⟩
          · have k3 : ¬ (ia : Int) < (ln : Int) := by omega
            have e0 : sk = 0 := by rw [← hsk]; simp [show sls.length ≤ ia by omega]
            subst e0
            have e1 : r = 0 := by rw [← hr]; simp
            subst e1
            have e2 : jj = y := by omega
            subst e2
            clear y2 wsk wr1 r1
            by_cases hd : jj < ld
            · obtain ⟨rfl, hdb⟩ := DA.out (by omega)
              have cdd : w3.cell? ⟨dbk, dof + jj, none⟩ = some (.int .i32 v) := by
                rw [HALL.out.cell (p := ⟨dbk, dof + jj, none⟩) hdb, ← hv]; exact CD.out jj hd
              have k4 : (jj : Int) < (ld : Int) := by omega
              have HSA := hidB (show ∀ w', Below w3.heap.size w3 w' → Below w3.heap.size w3 w' ∧ w'.cell? ⟨pb, po + ia, none⟩ = some (.int .i32 ps) ∧ w'.cell? ⟨w.heap.size + 2 + 1 + 1, 0, none⟩ = some (.pointer (some ⟨w.heap.size + 2, 0, none⟩)) ∧ w'.cell? ⟨w.heap.size + 2 + 1 + 1, 1, none⟩ = some (.pointer (some ⟨w.heap.size + 2 + 1, 0, none⟩)) from fun w' hb => ⟨hb, SC.out _ _ hb P3.out, SC.out _ _ hb C0.out, SC.out _ _ hb C1.out⟩)
              go_wp2_with fail
              go_region_held3 (fun w' => Below w3.heap.size w3 w' ∧ w'.cell? ⟨pb, po + ia, none⟩ = some (.int .i32 ps) ∧ w'.cell? ⟨w.heap.size + 2 + 1 + 1, 0, none⟩ = some (.pointer (some ⟨w.heap.size + 2, 0, none⟩)) ∧ w'.cell? ⟨w.heap.size + 2 + 1 + 1, 1, none⟩ = some (.pointer (some ⟨w.heap.size + 2 + 1, 0, none⟩)))
                ((refine HSA.out _ ?_; first | exact Below.refl _ _ | exact (Below.refl _ _).drew | exact (Below.refl _ _).drew.trans (hb'.mono (by simp)) | (go_split_ands; exact Below.drew (by assumption)) | (go_split_ands; exact Below.trans (by assumption) (Below.mono hb' (Below.size (by assumption))))))
                ((go_at_call 9; refine (HBW.out _ (by first | exact Below.refl _ _ | exact (Below.refl _ _).drew | (go_split_ands; assumption))).mono ?_; rintro e w' ⟨rfl, hb'⟩))
              go_wp2
              go_ret
              exact ⟨by simp, HALL.out.trans ((((Below.refl w3.heap.size w3).drew).trans (hb'.mono (by simp))).mono HALL.out.size)⟩
            · have k4 : ¬ (jj : Int) < (ld : Int) := by omega
              have ev : v = 0 := by rw [← hv]; simp [show d.length ≤ jj by omega]
              subst ev
              have HSA := hidB (show ∀ w', Below w3.heap.size w3 w' → Below w3.heap.size w3 w' ∧ w'.cell? ⟨pb, po + ia, none⟩ = some (.int .i32 ps) ∧ w'.cell? ⟨w.heap.size + 2 + 1 + 1, 0, none⟩ = some (.pointer (some ⟨w.heap.size + 2, 0, none⟩)) ∧ w'.cell? ⟨w.heap.size + 2 + 1 + 1, 1, none⟩ = some (.pointer (some ⟨w.heap.size + 2 + 1, 0, none⟩)) from fun w' hb => ⟨hb, SC.out _ _ hb P3.out, SC.out _ _ hb C0.out, SC.out _ _ hb C1.out⟩)
              go_wp2_with fail
              go_region_held3 (fun w' => Below w3.heap.size w3 w' ∧ w'.cell? ⟨pb, po + ia, none⟩ = some (.int .i32 ps) ∧ w'.cell? ⟨w.heap.size + 2 + 1 + 1, 0, none⟩ = some (.pointer (some ⟨w.heap.size + 2, 0, none⟩)) ∧ w'.cell? ⟨w.heap.size + 2 + 1 + 1, 1, none⟩ = some (.pointer (some ⟨w.heap.size + 2 + 1, 0, none⟩)))
                ((refine HSA.out _ ?_; first | exact Below.refl _ _ | exact (Below.refl _ _).drew | exact (Below.refl _ _).drew.trans (hb'.mono (by simp)) | (go_split_ands; exact Below.drew (by assumption)) | (go_split_ands; exact Below.trans (by assumption) (Below.mono hb' (Below.size (by assumption))))))
                ((go_at_call 9; refine (HBW.out _ (by first | exact Below.refl _ _ | exact (Below.refl _ _).drew | (go_split_ands; assumption))).mono ?_; rintro e w' ⟨rfl, hb'⟩))
              go_wp2
              go_ret
              exact ⟨by simp, HALL.out.trans ((((Below.refl w3.heap.size w3).drew).trans (hb'.mono (by simp))).mono HALL.out.size)⟩
end Go.Proofs.Ybulkrce
