import Derived.Test.YbulkrceBUp
import Derived.Laws.CopyOwn
import Derived.Deep.AppendLies
namespace Go.Proofs.Ybulkrce
open Go.RowKit
set_option linter.unusedVariables false

theorem Yba.info21 : (Yba.prog.info? 21).map (fun i => (i.zero, i.size, i.bytes)) = some (some (.int .i32 0), 1, 4) := by kernel_rfl
theorem Yba.size21 : (Yba.prog.info? 21).map (·.size) = some 1 := by kernel_rfl

theorem Yba.make23 (n : Nat) (hn : n ≤ 2000) (w : World) : (Instr.makeSlice 23 (.int .i64 n) (.int .i64 n)).run Yba.prog w = .ok (.slice (some ⟨w.heap.size, 0, none⟩) n n) (w.alloc (.cells (fRow n fun _ => 0) 21)) := by
  obtain ⟨i0, hi0, hz0, hz1, hz2⟩ := info_parts Yba.info21
  have h := run_make (P := Yba.prog) w 23 21 i0 _ Yba.underlying23 hi0 hz0 .i64 .i64 (n : Int) (n : Int) (by omega) (by omega) (by rw [hz2]; omega) (by omega)
  rw [h, hz1]
  have e : madeCells (Value.cells (.int .i32 0)) ((n : Int).toNat * 1) = fRow n fun _ => 0 := by
    apply Array.ext'
    have := toList_madeCells_one (.int .i32 0) n
    simp only [Int.toNat_natCast, Nat.mul_one, Value.cells]
    rw [this]
    apply List.ext_getElem?
    intro j
    by_cases hj : j < n <;> simp [fRow, hj]
  rw [e]
  simp

theorem fRow_size (n : Nat) (f : Nat → Nat) : (fRow n f).size = n := by simp [fRow]
theorem fRow_one (n : Nat) (f : Nat → Nat) : ∀ v ∈ (fRow n f).toList, v.oneCell' = true := by
  intro v hv
  simp [fRow] at hv
  obtain ⟨j, _, rfl⟩ := hv
  rfl
theorem splice_all {α : Type} (L cs : List α) (h : cs.length = L.length) : splice L 0 cs = cs := by
  simp [splice, List.drop_of_length_le (by omega : L.length ≤ cs.length)]

theorem setRow_alloc (w : World) (c cs : Array Value) (t : TypeId) : (w.alloc (.cells c t)).setRow w.heap.size cs = w.alloc (.cells cs t) := by
  have e : ∀ (h : Array Obj) (f : Obj → Obj) (o : Obj), (h.push o).modify h.size f = h.push (f o) := fun h f o => by
    apply Array.ext (by simp)
    intro j h1 h2
    rw [Array.getElem_modify]
    by_cases hj : h.size = j
    · subst hj; simp
    · rw [if_neg hj, Array.getElem_push_lt (by simp at h1; omega), Array.getElem_push_lt (by simp at h1; omega)]
  unfold World.setRow
  show ({ w with heap := (w.heap.push _).modify w.heap.size _ } : World) = { w with heap := w.heap.push _ }
  rw [e]

theorem Yba.copy_new (w : World) (n bb : Nat) (f p : Nat → Nat) (hbb : w.heap[bb]? = some (.cells (fRow n p) 21 (0, 0))) :
    (Builtin.copy_ #[23, 23] 3 #[.slice (some ⟨w.heap.size, 0, none⟩) n n, .slice (some ⟨bb, 0, none⟩) n n]).run Yba.prog (w.alloc (.cells (fRow n f) 21)) = .ok (.int .i64 n) (w.alloc (.cells (fRow n p) 21)) := by
  have hbl := lt_of_block hbb
  have h := run_copy_row (P := Yba.prog) (w.alloc (.cells (fRow n f) 21)) 23 23 3 21 w.heap.size 0 n n ⟨bb, 0, none⟩ n n (fRow n f) 21 (fRow n p).toList Yba.underlying23 Yba.size21 (heap_alloc_new w _) (by simp [fRow_size])
    (World.news_of_block (by rw [Below.heap_alloc _ _ _ hbl]; exact hbb)) (by simp [fRow_size]) (fRow_one n p)
  rw [h]
  have e : ((fRow n f).toList.take 0 ++ (fRow n p).toList ++ (fRow n f).toList.drop (0 + (fRow n p).toList.length)).toArray = fRow n p := by
    rw [List.drop_of_length_le (by simp [fRow_size])]
    simp
  rw [e, setRow_alloc]
  simp [goInt, fRow_size]

/-- A quiet call behind other draws. -/
theorem quiet_at {P : Program} {f : FuncId} {args : Array Value} {w : World} {A x : Nat} {v : Value} (h : Calls P f args (w.drewN (A + x)) fun e w' => e = .returned v ∧ ∃ k, w' = (w.drewN (A + x)).drewN k) :
    Calls P f args (w.drewN (A + x)) fun e w'' => e = .returned v ∧ ∃ n, w'' = w.drewN (A + n) :=
  h.mono fun _ _ ⟨he, k, hk⟩ => ⟨he, x + k, by rw [hk, World.drewN_drewN, Nat.add_assoc]⟩

set_option maxRecDepth 100000 in
set_option maxHeartbeats 4000000 in
theorem check_any (W : World) (n : Nat) (a : Nat → Int) (p t : Nat → Nat) (i T bb : Nat) (w : World) (hi : i < n) (hn : n ≤ 2000) (hb : ∀ j, (a j).natAbs < 1048576) (hp : ∀ j, j < n → p j < n)
    (hs : HS W n a (pairsF p i T) t w) (hm : moved a p i T) (hst : stops a p i T) (hv : InvOk n (pairsF p i T) t) (hh : HeapOk a n (pairsF p i T))
    (hbb : w.heap[bb]? = some (.cells (fRow n p) 21 (0, 0))) :
    Calls Yba.prog 13 #[.pointer (some ⟨W.heap.size + 1, 0, none⟩), .slice (some ⟨bb, 0, none⟩) n n, .int .i64 i] w fun e w' => e = .returned (.bool true) ∧ Below W.heap.size W w' := by
  have hmk := Yba.make23 n hn
  have o6 : w.cell? ⟨W.heap.size + 1, 6, none⟩ = some (.slice (some ⟨W.heap.size, 0, none⟩) n n) := (cellB hs.obj).trans rfl
  have i0 : (0 : Int) ≤ (i : Int) := by omega
  have i1 : (i : Int) < (n : Int) := by omega
  have n0 : (n : Int) ≤ 2000 := by omega
  have hbl := lt_of_block hbb
  have hsz := hs.size
  have HB := hidB hb
  have HP := hidB hp
  have HH := hidB hs
  have HM := hidB hm
  have HT := hidB hst
  have HV := hidB hv
  have HO := hidB hh
  have HBB := hidB hbb
  clear hb hp hs hm hst hv hh hbb
  have hcp := Yba.copy_new w n bb (fun _ => 0) p HBB.out
  have HW2 := hidB (show Below w.heap.size w (w.alloc (.cells (fRow n p) 21)) ∧ (w.alloc (.cells (fRow n p) 21)).heap[w.heap.size]? = some (.cells (fRow n p) 21 (0, 0)) from ⟨(Below.refl _ _).alloc (Nat.le_refl _) _, heap_alloc_new _ _⟩)
  have cb : (w.alloc (.cells (fRow n p) 21)).cell? ⟨bb, i, none⟩ = some (.int .i32 (p i)) := by
    rw [HW2.out.1.cell (p := ⟨bb, i, none⟩) hbl]; exact (cellB HBB.out).trans (fRow_get n p i hi)
  go_enter Yba.func13, Yba.ntmps13
  go_wp2_with fail
  clear hcp cb o6
  go_loopw [10] (fun s wr => ∃ (S c : Nat), s = .int .i64 c ∧ parIter S i = c ∧ moved a p i S ∧ Below w.heap.size w wr ∧ wr.heap[w.heap.size]? = some (.cells (fRow n (expF p i S)) 21 (0, 0))) (fun s _ => (intOf s).toNat)
  case atStart => exact ⟨0, i, rfl, rfl, moved_zero a p i, HW2.out.1, HW2.out.2⟩
  case round =>
    clear HW2
    obtain ⟨S, c, rfl, hc, hmS, hB, hE⟩ := hrel
    have hci : c ≤ i := by rw [← hc]; exact parIter_le hmS
    have cE : wr.cell? ⟨w.heap.size, c, none⟩ = some (.int .i32 (expF p i S c)) := (cellB hE).trans (fRow_get n _ c (by omega))
    have fE : wr.frozen? ⟨w.heap.size, c, none⟩ = false := freeB hE
    have c0' : (0 : Int) ≤ (c : Int) := by omega
    have c1 : (c : Int) < (n : Int) := by omega
    by_cases hstop : stops a p i S
    · -- the model's last store
      have eST := stop_unique hmS hstop HM.out HT.out
      subst eST
      have eS : upd (expF p i S) c (p i) = pairsF p i S := by show _ = upd _ _ _; rw [hc]
      have hE2 := setB_same wr w.heap.size c _ 21 (.int .i32 (p i)) hE
      rw [fRow_set, eS] at hE2
      have hB2 := hB.setCell (p := ⟨w.heap.size, c, none⟩) (Nat.le_refl _) (.int .i32 (p i))
      have hH2 := HH.out.keep (hB2.mono (by omega))
      have o3 : (wr.setCell ⟨w.heap.size, c, none⟩ (.int .i32 (p i))).cell? ⟨W.heap.size + 1, 3, none⟩ = some (.slice (some ⟨W.heap.size + 2, 0, none⟩) n n) := (cellB hH2.obj).trans rfl
      have o4 : (wr.setCell ⟨w.heap.size, c, none⟩ (.int .i32 (p i))).cell? ⟨W.heap.size + 1, 4, none⟩ = some (.slice (some ⟨W.heap.size + 3, 0, none⟩) n n) := (cellB hH2.obj).trans rfl
      have HE2 := hidB (show _ ∧ _ ∧ _ ∧ _ from ⟨hE2, hH2, o3, o4⟩)
      clear hE2 hB2 hH2 o3 o4 eS
      have w3 : wr.cell? ⟨W.heap.size + 1, 3, none⟩ = some (.slice (some ⟨W.heap.size + 2, 0, none⟩) n n) := by
        rw [hB.cell (p := ⟨W.heap.size + 1, 3, none⟩) (by simp; omega)]; exact (cellB HH.out.obj).trans rfl
      have ne1 : ¬ (W.heap.size + 1 = w.heap.size) := by omega
      have ne2 : ¬ (w.heap.size = W.heap.size + 1) := by omega
      rcases Nat.eq_zero_or_pos c with h0 | h0
      · subst h0
        clear hmS hB hE hc hstop
        have G0 := hidB (show _ ∧ _ from ⟨HE2.out.2.1, HE2.out.1⟩)
        clear HE2
        generalize expF p i S 0 = ov at *
        go_wp2_with fail
        generalize wr.setCell ⟨w.heap.size, 0, none⟩ (.int .i32 (p i)) = W2 at *
        have G := G0
        clear G0 w3 cE fE ne1 ne2 HH HBB HM HT HP
        go_loopw [12] (fun s wq => ∃ (k m : Nat), k ≤ n ∧ s = .int .i64 k ∧ wq = W2.drewN m) (fun s _ => n - (intOf s).toNat)
        case atStart => exact ⟨0, 0, by omega, rfl, rfl⟩
        case round =>
          obtain ⟨k, m2, hk, rfl, rfl⟩ := hrel
          by_cases hkn : k < n
          · have pk := G.out.1.cp k hkn
            have ek : W2.cell? ⟨w.heap.size, k, none⟩ = some (.int .i32 (pairsF p i S k)) := (cellB G.out.2).trans (fRow_get n _ k hkn)
            have qn := HV.out.1 k hkn
            have tk := G.out.1.ct (pairsF p i S k) qn
            rw [HV.out.2 k hkn] at tk
            have o3 : W2.cell? ⟨W.heap.size + 1, 3, none⟩ = some (.slice (some ⟨W.heap.size + 2, 0, none⟩) n n) := (cellB G.out.1.obj).trans rfl
            have o4 : W2.cell? ⟨W.heap.size + 1, 4, none⟩ = some (.slice (some ⟨W.heap.size + 3, 0, none⟩) n n) := (cellB G.out.1.obj).trans rfl
            have k0 : (0 : Int) ≤ (k : Int) := by omega
            have k1 : (k : Int) < (n : Int) := by omega
            have x0 : (0 : Int) ≤ (pairsF p i S k : Int) := by omega
            have x1 : (pairsF p i S k : Int) < (n : Int) := by omega
            rcases Nat.eq_zero_or_pos k with e0 | e0
            · subst e0
              generalize pairsF p i S 0 = qk at *
              go_wp2_with fail
              go_quiet (fail)
              go_wp2_with fail
              go_quiet (fail)
              go_wp2_with fail
              go_quiet (fail)
              go_wp2
              go_roundw
              case rel => exact ⟨1, _, by omega, by simp, rfl⟩
              case measure => simp [intOf]; omega
            · obtain ⟨d, hd⟩ : ∃ d : Nat, d = (k - 1) / 2 := ⟨_, rfl⟩
              have hd' : ((k : Int) - 1) / 2 = (d : Int) := by omega
              have ed : W2.cell? ⟨w.heap.size, d, none⟩ = some (.int .i32 (pairsF p i S d)) := (cellB G.out.2).trans (fRow_get n _ d (by omega))
              have qd := HV.out.1 d (by omega)
              have hlt : ltB a (pairsF p i S k) (pairsF p i S d) = false := by rw [hd]; exact HO.out k e0 hkn
              have hbf : ∀ wx : World, wx.heap = W2.heap → Calls Yba.prog 17 #[.slice (some ⟨W.heap.size, 0, none⟩) n n, .int .i32 (pairsF p i S k), .int .i32 (pairsF p i S d)] wx fun e w' => e = .returned (.bool false) ∧ ∃ k, w' = wx.drewN k := fun wx hwx => by
                rw [← hlt]; exact before_any W.heap.size n n a _ _ wx qn qd hn HB.out (by rw [hwx]; exact G.out.1.ar)
              have HBF2 := hidB hbf
              have e0' : (0 : Int) < (k : Int) := by omega
              obtain ⟨e, he⟩ : ∃ e : Nat, (k : Int) - 1 = (e : Int) := ⟨k - 1, by omega⟩
              have he2 : (e : Int) / 2 = (d : Int) := by omega
              have he3 : (e : Int).tdiv 2 = (d : Int) := by rw [Int.tdiv_eq_ediv_of_nonneg (by omega)]; exact he2
              have he4 : IntKind.i64.wrap (e : Int) = (e : Int) := by simp [IntKind.wrap, IntKind.signed, IntKind.bits]; omega
              have he5 : IntKind.i64.wrap (d : Int) = (d : Int) := by simp [IntKind.wrap, IntKind.signed, IntKind.bits]; omega
              have d0 : (0 : Int) ≤ (d : Int) := by omega
              have d1 : (d : Int) < (n : Int) := by omega
              clear hbf hlt hd hd'
              generalize pairsF p i S k = qk at *
              generalize pairsF p i S d = qdv at *
              go_wp2_with fail
              go_quiet (fail)
              go_wp2_with fail
              go_quiet (fail)
              go_wp2_with fail
              go_quiet ((go_at_call 17; exact quiet_at (HBF2.out _ rfl)))
              go_wp2
              go_roundw
              case rel => exact ⟨k + 1, _, by omega, by go_num, rfl⟩
              case measure => simp [intOf]; omega
          · go_wp2
            go_ret
            exact ⟨by simp, below_drewN G.out.1.below _⟩
      · obtain ⟨d, hd⟩ : ∃ d : Nat, d = (c - 1) / 2 := ⟨_, rfl⟩
        have hds : parIter (S + 1) i = d := by show (parIter S i - 1) / 2 = d; rw [hc]; exact hd.symm
        have hlt : ltB a (p i) (p d) = false := by
          rcases hstop with h | h
          · omega
          · rw [hds] at h; exact h
        have hd' : ((c : Int) - 1) / 2 = (d : Int) := by omega
        have d0 : (0 : Int) ≤ (d : Int) := by omega
        have d1 : (d : Int) < (n : Int) := by omega
        have h0' : (0 : Int) < (c : Int) := by omega
        have cd : wr.cell? ⟨bb, d, none⟩ = some (.int .i32 (p d)) := by
          rw [hB.cell (p := ⟨bb, d, none⟩) hbl]; exact (cellB HBB.out).trans (fRow_get n p d (by omega))
        have hbf : Calls Yba.prog 17 #[.slice (some ⟨W.heap.size, 0, none⟩) n n, .int .i32 (p i), .int .i32 (p d)] wr fun e w' => e = .returned (.bool false) ∧ ∃ k, w' = wr.drewN k := by
          rw [← hlt]; exact before_any W.heap.size n n a (p i) (p d) wr (HP.out i hi) (HP.out d (by omega)) hn HB.out (by rw [hB.block _ (by omega)]; exact HH.out.ar)
        have HBF := hidB hbf
        clear hmS hB hE hc hstop h0 hbf hlt hds hd
        generalize expF p i S c = ov at *
        generalize p d = y at *
        go_wp2_with fail
        refine HBF.out.mono ?_
        rintro e w' ⟨rfl, m, rfl⟩
        have G0 : Hid (HS W n a (pairsF p i S) t ((wr.drewN m).setCell ⟨w.heap.size, c, none⟩ (.int .i32 (p i))) ∧ ((wr.drewN m).setCell ⟨w.heap.size, c, none⟩ (.int .i32 (p i))).heap[w.heap.size]? = some (.cells (fRow n (pairsF p i S)) 21 (0, 0))) := hidB ⟨HE2.out.2.1.drewN m, HE2.out.1⟩
        clear HE2
        go_wp2_with fail
        generalize (wr.drewN m).setCell ⟨w.heap.size, c, none⟩ (.int .i32 (p i)) = W2 at *
        have G := G0
        clear G0 w3 cE fE ne1 ne2 HH HBB HM HT HP cd HBF
        go_loopw [12] (fun s wq => ∃ (k m : Nat), k ≤ n ∧ s = .int .i64 k ∧ wq = W2.drewN m) (fun s _ => n - (intOf s).toNat)
        case atStart => exact ⟨0, 0, by omega, rfl, rfl⟩
        case round =>
          obtain ⟨k, m2, hk, rfl, rfl⟩ := hrel
          by_cases hkn : k < n
          · have pk := G.out.1.cp k hkn
            have ek : W2.cell? ⟨w.heap.size, k, none⟩ = some (.int .i32 (pairsF p i S k)) := (cellB G.out.2).trans (fRow_get n _ k hkn)
            have qn := HV.out.1 k hkn
            have tk := G.out.1.ct (pairsF p i S k) qn
            rw [HV.out.2 k hkn] at tk
            have o3 : W2.cell? ⟨W.heap.size + 1, 3, none⟩ = some (.slice (some ⟨W.heap.size + 2, 0, none⟩) n n) := (cellB G.out.1.obj).trans rfl
            have o4 : W2.cell? ⟨W.heap.size + 1, 4, none⟩ = some (.slice (some ⟨W.heap.size + 3, 0, none⟩) n n) := (cellB G.out.1.obj).trans rfl
            have k0 : (0 : Int) ≤ (k : Int) := by omega
            have k1 : (k : Int) < (n : Int) := by omega
            have x0 : (0 : Int) ≤ (pairsF p i S k : Int) := by omega
            have x1 : (pairsF p i S k : Int) < (n : Int) := by omega
            rcases Nat.eq_zero_or_pos k with e0 | e0
            · subst e0
              generalize pairsF p i S 0 = qk at *
              go_wp2_with fail
              go_quiet (fail)
              go_wp2_with fail
              go_quiet (fail)
              go_wp2_with fail
              go_quiet (fail)
              go_wp2
              go_roundw
              case rel => exact ⟨1, _, by omega, by simp, rfl⟩
              case measure => simp [intOf]; omega
            · obtain ⟨d, hd⟩ : ∃ d : Nat, d = (k - 1) / 2 := ⟨_, rfl⟩
              have hd' : ((k : Int) - 1) / 2 = (d : Int) := by omega
              have ed : W2.cell? ⟨w.heap.size, d, none⟩ = some (.int .i32 (pairsF p i S d)) := (cellB G.out.2).trans (fRow_get n _ d (by omega))
              have qd := HV.out.1 d (by omega)
              have hlt : ltB a (pairsF p i S k) (pairsF p i S d) = false := by rw [hd]; exact HO.out k e0 hkn
              have hbf : ∀ wx : World, wx.heap = W2.heap → Calls Yba.prog 17 #[.slice (some ⟨W.heap.size, 0, none⟩) n n, .int .i32 (pairsF p i S k), .int .i32 (pairsF p i S d)] wx fun e w' => e = .returned (.bool false) ∧ ∃ k, w' = wx.drewN k := fun wx hwx => by
                rw [← hlt]; exact before_any W.heap.size n n a _ _ wx qn qd hn HB.out (by rw [hwx]; exact G.out.1.ar)
              have HBF2 := hidB hbf
              have e0' : (0 : Int) < (k : Int) := by omega
              obtain ⟨e, he⟩ : ∃ e : Nat, (k : Int) - 1 = (e : Int) := ⟨k - 1, by omega⟩
              have he2 : (e : Int) / 2 = (d : Int) := by omega
              have he3 : (e : Int).tdiv 2 = (d : Int) := by rw [Int.tdiv_eq_ediv_of_nonneg (by omega)]; exact he2
              have he4 : IntKind.i64.wrap (e : Int) = (e : Int) := by simp [IntKind.wrap, IntKind.signed, IntKind.bits]; omega
              have he5 : IntKind.i64.wrap (d : Int) = (d : Int) := by simp [IntKind.wrap, IntKind.signed, IntKind.bits]; omega
              have d0 : (0 : Int) ≤ (d : Int) := by omega
              have d1 : (d : Int) < (n : Int) := by omega
              clear hbf hlt hd hd'
              generalize pairsF p i S k = qk at *
              generalize pairsF p i S d = qdv at *
              go_wp2_with fail
              go_quiet (fail)
              go_wp2_with fail
              go_quiet (fail)
              go_wp2_with fail
              go_quiet ((go_at_call 17; exact quiet_at (HBF2.out _ rfl)))
              go_wp2
              go_roundw
              case rel => exact ⟨k + 1, _, by omega, by go_num, rfl⟩
              case measure => simp [intOf]; omega
          · go_wp2
            go_ret
            exact ⟨by simp, below_drewN G.out.1.below _⟩
    · have h0 : 0 < c := by
        rcases Nat.eq_zero_or_pos c with e | e
        · exact absurd (Or.inl (by rw [hc]; exact e)) hstop
        · exact e
      obtain ⟨d, hd⟩ : ∃ d : Nat, d = (c - 1) / 2 := ⟨_, rfl⟩
      have hds : parIter (S + 1) i = d := by show (parIter S i - 1) / 2 = d; rw [hc]; exact hd.symm
      have hlt : ltB a (p i) (p d) = true := by
        cases hx : ltB a (p i) (p d) with
        | true => rfl
        | false => exact absurd (Or.inr (by rw [hds]; exact hx)) hstop
      have hmS2 := moved_succ hmS (by rw [hc]; exact h0) (by rw [hds]; exact hlt)
      have hd' : ((c : Int) - 1) / 2 = (d : Int) := by omega
      have d0 : (0 : Int) ≤ (d : Int) := by omega
      have d1 : (d : Int) < (n : Int) := by omega
      have cd : wr.cell? ⟨bb, d, none⟩ = some (.int .i32 (p d)) := by
        rw [hB.cell (p := ⟨bb, d, none⟩) hbl]; exact (cellB HBB.out).trans (fRow_get n p d (by omega))
      have hbf : Calls Yba.prog 17 #[.slice (some ⟨W.heap.size, 0, none⟩) n n, .int .i32 (p i), .int .i32 (p d)] wr fun e w' => e = .returned (.bool true) ∧ ∃ k, w' = wr.drewN k := by
        rw [← hlt]; exact before_any W.heap.size n n a (p i) (p d) wr (HP.out i hi) (HP.out d (by omega)) hn HB.out (by rw [hB.block _ (by omega)]; exact HH.out.ar)
      have HBF := hidB hbf
      have eS : upd (expF p i S) c (p d) = expF p i (S + 1) := by show _ = upd _ _ _; rw [hc, hds]
      have hE2 := setB_same wr w.heap.size c _ 21 (.int .i32 (p d)) hE
      rw [fRow_set, eS] at hE2
      have hB2 := hB.setCell (p := ⟨w.heap.size, c, none⟩) (Nat.le_refl _) (.int .i32 (p d))
      have HE2 := hidB (show _ ∧ _ ∧ _ ∧ _ from ⟨hE2, hB2, hmS2, hds⟩)
      clear hE2 hB2 hmS2 hbf hlt hmS hB hE hc hds hstop hd eS
      generalize expF p i S c = ov at *
      generalize p i = x at *
      generalize p d = y at *
      go_wp2_with fail
      refine HBF.out.mono ?_
      rintro e w' ⟨rfl, m, rfl⟩
      go_wp2
      go_roundw
      case rel => exact ⟨S + 1, d, by go_num, HE2.out.2.2.2, HE2.out.2.2.1, below_drewN HE2.out.2.1 m, HE2.out.1⟩
      case measure => simp [intOf]; omega
end Go.Proofs.Ybulkrce
