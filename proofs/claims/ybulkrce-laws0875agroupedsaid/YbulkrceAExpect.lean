import Derived.Test.YbulkrceAGroup
namespace Go.Proofs.Ybulkrce
open Go.RowKit
set_option linter.unusedVariables false

/-- One operation as it lies in the argument's row. -/
structure OpIn (w : World) (b o : Nat) (r : OpRec) (va : Option Addr) (vc vb vo : Nat) : Prop where
  c0 : w.cell? ⟨b, o, none⟩ = some (.int .i32 r.pos)
  c1 : w.cell? ⟨b, o + 1, none⟩ = some (.int .u8 (r.group : Nat))
  c2 : w.cell? ⟨b, o + 2, none⟩ = some (.int .u8 (r.slot : Nat))
  c3 : w.cell? ⟨b, o + 3, none⟩ = some (.int .u8 (r.mask : Nat))
  c4 : w.cell? ⟨b, o + 4, none⟩ = some (.bool r.loc)
  c5 : w.cell? ⟨b, o + 5, none⟩ = some (.bool r.spa)
  c6 : w.cell? ⟨b, o + 6, none⟩ = some (.bool r.fla)
  c7 : w.cell? ⟨b, o + 7, none⟩ = some (.slice va r.vz.length vc)
  v : 0 < r.vz.length → va = some ⟨vb, vo, none⟩
  vs : ∀ k, k < r.vz.length → w.cell? ⟨vb, vo + k, none⟩ = some (.int .i32 (r.val k))
  g255 : r.group ≤ 255
  s255 : r.slot ≤ 255
  m255 : r.mask ≤ 255

theorem OpIn.stays {w w' : World} {b o : Nat} {r : OpRec} {va : Option Addr} {vc vb vo : Nat} (h : OpIn w b o r va vc vb vo) (hs : Stays w w') : OpIn w' b o r va vc vb vo :=
  ⟨hs _ _ h.c0, hs _ _ h.c1, hs _ _ h.c2, hs _ _ h.c3, hs _ _ h.c4, hs _ _ h.c5, hs _ _ h.c6, hs _ _ h.c7, h.v, fun k hk => hs _ _ (h.vs k hk), h.g255, h.s255, h.m255⟩

theorem val_past (r : OpRec) (s : Nat) (h : ¬ s < r.vz.length) : r.val s = 0 := by simp [OpRec.val, show r.vz.length ≤ s by omega]

theorem mem_ks (r : OpRec) (s : Nat) (hs : s < 4) : s ∈ r.ks ↔ r.mask / 2 ^ s % 2 = 1 := by simp [OpRec.ks, OpRec.kss, hs]

theorem wrapI64 (x : Nat) (h : x < 2 ^ 62) : IntKind.i64.wrap (x : Int) = (x : Int) := by simp [IntKind.wrap, IntKind.signed, IntKind.bits]; omega
theorem wrapU64 (x : Nat) (h : x < 2 ^ 62) : IntKind.u64.wrap (x : Int) = (x : Int) := by simp [IntKind.wrap, IntKind.signed, IntKind.bits]; omega
theorem wrapI32 (x : Nat) (h : x < 2 ^ 30) : IntKind.i32.wrap (x : Int) = (x : Int) := by simp [IntKind.wrap, IntKind.signed, IntKind.bits]; omega
theorem wrapU8 (x : Nat) (h : x < 256) : IntKind.u8.wrap (x : Int) = (x : Int) := by simp [IntKind.wrap, IntKind.signed, IntKind.bits]; omega

theorem and_one : ∀ x : Nat, x < 256 → bits .and .u8 (x : Int) 1 = ((x % 2 : Nat) : Int) := by decide +kernel
theorem mask_bit (m s : Nat) (h : m ≤ 255) : bits .and .u8 ((m : Int) / 2 ^ s) 1 = ((m / 2 ^ s % 2 : Nat) : Int) := by
  have e : (m : Int) / 2 ^ s = ((m / 2 ^ s : Nat) : Int) := by simp
  rw [e]
  exact and_one _ (Nat.lt_of_le_of_lt (Nat.div_le_self _ _) (by omega))

set_option maxRecDepth 100000 in
set_option maxHeartbeats 1000000 in
theorem expect_any (ob oo n oc ld dc dbk dof a o : Nat) (da : Option Addr) (f : Nat → OpRec) (d : List Int) (w : World) (vaA vaO : Option Addr) (vcA vbA voA vcO vbO voO : Nat) (han : a < n) (hon : o < n) (hn : n ≤ 1024)
    (hA : OpIn w ob (oo + a * 8) (f a) vaA vcA vbA voA) (hO : OpIn w ob (oo + o * 8) (f o) vaO vcO vbO voO)
    (hda : 0 < ld → da = some ⟨dbk, dof, none⟩) (hld : d.length = ld) (hcd : ∀ j, j < ld → w.cell? ⟨dbk, dof + j, none⟩ = some (.int .i32 (d.getD j 0))) :
    Calls Yba.prog 10 #[.slice (some ⟨ob, oo, none⟩) n oc, .slice da ld dc, .int .i64 a, .int .i64 o] w fun e w' => e = .returned (.bool (beforeG f d a o)) ∧ Below w.heap.size w w' := by
  obtain ⟨res, hres⟩ : ∃ r : Bool, beforeG f d a o = r := ⟨_, rfl⟩
  rw [hres]
  unfold beforeG at hres
  have a0 : (0 : Int) ≤ (a : Int) := by omega
  have a1 : (a : Int) < (n : Int) := by omega
  have o0 : (0 : Int) ≤ (o : Int) := by omega
  have o1 : (o : Int) < (n : Int) := by omega
  obtain ⟨p0, p1, p2, p3, p4, p5, p6, p7, pv, pvs, pg, ps, pm⟩ := hA
  obtain ⟨q0, q1, q2, q3, q4, q5, q6, q7, qv, qvs, qg, qs, qm⟩ := hO
  have t1 : ((f a).group : Int).tmod 2 = ((f a).grp : Int) := by rw [Int.tmod_eq_emod_of_nonneg (by omega)]; unfold OpRec.grp; omega
  have t2 : ((f o).group : Int).tmod 2 = ((f o).grp : Int) := by rw [Int.tmod_eq_emod_of_nonneg (by omega)]; unfold OpRec.grp; omega
  have t3 : ((f a).slot : Int).tmod 4 = ((f a).slt : Int) := by rw [Int.tmod_eq_emod_of_nonneg (by omega)]; unfold OpRec.slt; omega
  have g1 : (f a).grp < 2 := Nat.mod_lt _ (by omega)
  have g2 : (f o).grp < 2 := Nat.mod_lt _ (by omega)
  have g3 : (f a).slt < 4 := Nat.mod_lt _ (by omega)
  have u1 := wrapU8 _ (show (f a).grp < 256 by omega)
  have u2 := wrapU8 _ (show (f o).grp < 256 by omega)
  have u3 := wrapU8 _ (show (f a).slt < 256 by omega)
  have u4 := wrapI64 _ (show (f a).slt < 2 ^ 62 by omega)
  have u5 := wrapU64 _ (show (f a).slt < 2 ^ 62 by omega)
  have QV := hidB qv
  have QS := hidB qvs
  have DA := hidB hda
  have CD := hidB hcd
  have GET := hidB (show (f o).get (f a).slt = if (f o).fla then (f o).val (f a).slt else if (f o).mask / 2 ^ (f a).slt % 2 = 1 then (f o).val (f a).slt else 0 by unfold OpRec.get sparseGet; simp only [mem_ks _ _ g3])
  have VP := hidB (val_past (f o) (f a).slt)
  clear qv qvs pv pvs hda hcd p3 p4 p5 p6 p7 q0 q2 q4
  by_cases hg : (f a).grp = (f o).grp
  · have s0 : (0 : Int) ≤ ((f a).slt : Int) := by omega
    cases hp : (f o).spa
    · rw [hp] at q5
      have HR := hidB (show res = decide ((f a).pos < d.getD (o * 4 + (f a).slt) 0) by rw [← hres, if_pos hg, hp]; rfl)
      clear hres GET
      rw [hg] at t1 u1
      obtain ⟨y, hy⟩ : ∃ y, o * 4 = y := ⟨_, rfl⟩
      obtain ⟨jj, hjj⟩ : ∃ jj, y + (f a).slt = jj := ⟨_, rfl⟩
      rw [hy, hjj] at HR
      have y1 : (o : Int) * 4 = (y : Int) := by omega
      have y2 : (y : Int) + ((f a).slt : Int) = (jj : Int) := by omega
      have wy := wrapI64 y (by omega)
      have wjj := wrapI64 jj (by omega)
      have jj0 : (0 : Int) ≤ (jj : Int) := by omega
      clear hy hjj
      generalize (f o).grp = gr at *
      generalize (f a).slt = s at *
      by_cases hd : jj < ld
      · have hda := DA.out (by omega)
        subst hda
        have cd := CD.out jj hd
        have k4 : (jj : Int) < (ld : Int) := by omega
        generalize d.getD jj 0 = v at *
        generalize (f a).pos = ps at *
        go_enter Yba.func10, Yba.ntmps10
        go_wp2_with fail
        go_quiet (fail)
        go_wp2_with fail
        go_quiet (fail)
        go_wp2
        go_ret
        exact ⟨by rw [HR.out]; simp, below_drewN (Below.refl _ _) _⟩
      · have k4 : ¬ (jj : Int) < (ld : Int) := by omega
        have ev : d.getD jj 0 = 0 := by simp [show d.length ≤ jj by omega]
        rw [ev] at HR
        generalize (f a).pos = ps at *
        go_enter Yba.func10, Yba.ntmps10
        go_wp2_with fail
        go_quiet (fail)
        go_wp2_with fail
        go_quiet (fail)
        go_wp2
        go_ret
        exact ⟨by rw [HR.out]; simp, below_drewN (Below.refl _ _) _⟩
    · rw [hp] at q5
      cases hf : (f o).fla
      · rw [hf] at q6
        have hbit := mask_bit (f o).mask (f a).slt (by omega)
        have HR := hidB (show res = decide ((f a).pos < (if (f o).mask / 2 ^ (f a).slt % 2 = 1 then (f o).val (f a).slt else 0)) by rw [← hres, if_pos hg, hp, if_pos rfl, GET.out, hf]; rfl)
        clear hres GET
        rw [hg] at t1 u1
        generalize (f o).grp = gr at *
        generalize (f a).slt = s at *
        by_cases hb : (f o).mask / 2 ^ s % 2 = 1
        · rw [if_pos hb] at HR
          rw [hb] at hbit
          by_cases hl : s < (f o).vz.length
          · have hva := QV.out (by omega)
            subst hva
            have cv := QS.out s hl
            have k4 : (s : Int) < ((f o).vz.length : Int) := by omega
            clear hb
            generalize (f o).vz.length = vl at *
            generalize (f o).val s = v at *
            generalize (f a).pos = ps at *
            generalize (f o).mask = mk at *
            go_enter Yba.func10, Yba.ntmps10
            go_wp2_with fail
            go_quiet (fail)
            go_wp2_with fail
            go_quiet (fail)
            go_wp2
            go_ret
            exact ⟨by rw [HR.out]; simp, below_drewN (Below.refl _ _) _⟩
          · rw [VP.out hl] at HR
            have k4 : ¬ (s : Int) < ((f o).vz.length : Int) := by omega
            clear hb hl
            generalize (f o).vz.length = vl at *
            generalize (f a).pos = ps at *
            generalize (f o).mask = mk at *
            go_enter Yba.func10, Yba.ntmps10
            go_wp2_with fail
            go_quiet (fail)
            go_wp2_with fail
            go_quiet (fail)
            go_wp2
            go_ret
            exact ⟨by rw [HR.out]; simp, below_drewN (Below.refl _ _) _⟩
        · rw [if_neg hb] at HR
          have hb0 : (f o).mask / 2 ^ s % 2 = 0 := by omega
          rw [hb0] at hbit
          clear hb hb0
          generalize (f a).pos = ps at *
          generalize (f o).mask = mk at *
          go_enter Yba.func10, Yba.ntmps10
          go_wp2_with fail
          go_quiet (fail)
          go_wp2_with fail
          go_quiet (fail)
          go_wp2
          go_ret
          exact ⟨by rw [HR.out]; simp, below_drewN (Below.refl _ _) _⟩
      · rw [hf] at q6
        have HR := hidB (show res = decide ((f a).pos < (f o).val (f a).slt) by rw [← hres, if_pos hg, hp, if_pos rfl, GET.out, hf]; rfl)
        clear hres GET
        rw [hg] at t1 u1
        generalize (f o).grp = gr at *
        generalize (f a).slt = s at *
        by_cases hl : s < (f o).vz.length
        · have hva := QV.out (by omega)
          subst hva
          have cv := QS.out s hl
          have k4 : (s : Int) < ((f o).vz.length : Int) := by omega
          generalize (f o).vz.length = vl at *
          generalize (f o).val s = v at *
          generalize (f a).pos = ps at *
          go_enter Yba.func10, Yba.ntmps10
          go_wp2_with fail
          go_quiet (fail)
          go_wp2_with fail
          go_quiet (fail)
          go_wp2
          go_ret
          exact ⟨by rw [HR.out]; simp, below_drewN (Below.refl _ _) _⟩
        · rw [VP.out hl] at HR
          have k4 : ¬ (s : Int) < ((f o).vz.length : Int) := by omega
          clear hl
          generalize (f o).vz.length = vl at *
          generalize (f a).pos = ps at *
          go_enter Yba.func10, Yba.ntmps10
          go_wp2_with fail
          go_quiet (fail)
          go_wp2_with fail
          go_quiet (fail)
          go_wp2
          go_ret
          exact ⟨by rw [HR.out]; simp, below_drewN (Below.refl _ _) _⟩
  · have HR := hidB (show res = false by rw [← hres, if_neg hg])
    have hgi : ¬ ((f a).grp : Int) = ((f o).grp : Int) := by omega
    clear hg hres GET
    generalize (f o).grp = gr at *
    generalize (f a).grp = gr2 at *
    go_enter Yba.func10, Yba.ntmps10
    go_wp2_with fail
    go_quiet (fail)
    go_wp2_with fail
    go_quiet (fail)
    go_wp2
    go_ret
    exact ⟨by rw [HR.out]; simp, below_drewN (below_drewN (Below.refl _ _) _) _⟩
end Go.Proofs.Ybulkrce
