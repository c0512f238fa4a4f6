import Derived.Test.YbulkrbqFmtLaws
namespace Go.Proofs.YbulkrbqFmt
open Go.RowKit

set_option maxRecDepth 100000 in
set_option maxHeartbeats 2000000 in
theorem repeat_any (nl dl n : Int) (kk : Nat) (w : World) (hkk : kk ≤ 255) (hn0 : -9223372036854775808 ≤ n) (hn1 : n ≤ 9223372036854775807) :
    Calls Ybaf.prog 4 #[.int .i64 nl, .int .i64 dl, .int .u8 kk, .int .i64 n] w fun e w' => e = .returned (.bool true) ∧ Below w.heap.size w w' := by
  have hnn := fun (w : World) => run_eql_nil_nil (P := Ybaf.prog) w 34 Ybaf.held34
  have hhn := fun (w : World) (u : TypeId) (x : Value) => run_eql_held_nil (P := Ybaf.prog) w 34 u x Ybaf.held34
  go_enter Ybaf.func4, Ybaf.ntmps4
  go_wp2_with fail
  go_loopw [11] (fun i wr => ∃ (q : Nat) (ov : Value) (ts : List ByteArray), q ≤ kk % 4 ∧ i = .int .i64 q ∧ St w nl dl n (q * missing nl dl) ov ts wr) (fun i _ => kk % 4 - (intOf i).toNat)
  case atStart =>
    refine ⟨0, .slice none 0 0, [], by omega, rfl, ?_⟩
    rw [Nat.zero_mul]
    exact St.start w nl dl n
  case round =>
    obtain ⟨q, ov, ts, hq, rfl, hst⟩ := hrel
    have hmi : missing nl dl ≤ 2 := by unfold missing; split <;> split <;> omega
    have hq3 : kk % 4 < 4 := by omega
    have HS : Hid (St w nl dl n (q * missing nl dl) ov ts wr) := hst
    clear hst
    by_cases hlt : q < kk % 4
    · go_wp2_with fail
      refine (header_any w nl dl n _ ov (q * missing nl dl) ts _ HS.out (Nat.le_trans (Nat.mul_le_mul (show q ≤ 3 by omega) hmi) (by decide))).mono ?_
      rintro e w1 ⟨rfl, ov1, ts1, hst1⟩
      have HS1 : Hid (St w nl dl n ((q + 1) * missing nl dl) ov1 ts1 w1) := by rw [Nat.succ_mul]; exact hst1
      clear hst1
      go_wp2
      go_roundw
      case rel => exact ⟨q + 1, ov1, ts1, by omega, by go_num, HS1.out⟩
      case measure => simp [intOf]; omega
    · by_cases hc : kk % 4 = 0
      · have hz : ((kk : Int) % 4 == 0) = true := by simp; omega
        have HS0 : Hid (St w nl dl n 0 ov ts wr) := by
          have e : q = 0 := by omega
          have := HS.out
          rw [e, Nat.zero_mul] at this
          exact this
        go_wp2_with fail
        refine (finish_none w nl dl n ov ts wr HS0.out).mono ?_
        rintro e w2 ⟨rfl, hb2⟩
        go_wp2
        go_ret
        exact ⟨by simp, hb2⟩
      · have hz : ((kk : Int) % 4 == 0) = false := by simp; omega
        by_cases h1 : nl = 0
        · by_cases h2 : dl = 0
          · have c1 : (nl != 0) = false := by simp [h1]
            have c2 : (dl != 0) = false := by simp [h2]
            have hpos : 0 < q * missing nl dl := by
              have : missing nl dl = 2 := by simp [missing, h1, h2]
              rw [this]; omega
            have hsm : q * missing nl dl < 20 := Nat.lt_of_le_of_lt (Nat.mul_le_mul (show q ≤ 3 by omega) hmi) (by decide)
            have HS0 := HS
            clear h1 h2
            go_wp2_with fail
            refine (finish_some w nl dl n _ ov ts wr HS0.out hpos hsm).mono ?_
            rintro e w2 ⟨a, rfl, hb2⟩
            go_wp2
            go_ret
            exact ⟨by simp, hb2⟩
          · have c1 : (nl != 0) = false := by simp [h1]
            have c2 : (dl != 0) = true := by simp [h2]
            have hpos : 0 < q * missing nl dl := by
              have : missing nl dl = 1 := by simp [missing, h1, h2]
              rw [this]; omega
            have hsm : q * missing nl dl < 20 := Nat.lt_of_le_of_lt (Nat.mul_le_mul (show q ≤ 3 by omega) hmi) (by decide)
            have HS0 := HS
            clear h1 h2
            go_wp2_with fail
            refine (finish_some w nl dl n _ ov ts wr HS0.out hpos hsm).mono ?_
            rintro e w2 ⟨a, rfl, hb2⟩
            go_wp2
            go_ret
            exact ⟨by simp, hb2⟩
        · by_cases h2 : dl = 0
          · have c1 : (nl != 0) = true := by simp [h1]
            have c2 : (dl != 0) = false := by simp [h2]
            have hpos : 0 < q * missing nl dl := by
              have : missing nl dl = 1 := by simp [missing, h1, h2]
              rw [this]; omega
            have hsm : q * missing nl dl < 20 := Nat.lt_of_le_of_lt (Nat.mul_le_mul (show q ≤ 3 by omega) hmi) (by decide)
            have HS0 := HS
            clear h1 h2
            go_wp2_with fail
            refine (finish_some w nl dl n _ ov ts wr HS0.out hpos hsm).mono ?_
            rintro e w2 ⟨a, rfl, hb2⟩
            go_wp2
            go_ret
            exact ⟨by simp, hb2⟩
          · have c1 : (nl != 0) = true := by simp [h1]
            have c2 : (dl != 0) = true := by simp [h2]
            have HS0 : Hid (St w nl dl n 0 ov ts wr) := by
              have e : missing nl dl = 0 := by simp [missing, h1, h2]
              have := HS.out
              rw [e, Nat.mul_zero] at this
              exact this
            clear h1 h2
            go_wp2_with fail
            refine (finish_none w nl dl n ov ts wr HS0.out).mono ?_
            rintro e w2 ⟨rfl, hb2⟩
            go_wp2
            go_ret
            exact ⟨by simp, hb2⟩
end Go.Proofs.YbulkrbqFmt
