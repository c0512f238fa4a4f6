import Derived.Test.YbulkrceRows
import Derived.WalkKit
import Derived.ProofKit
import Derived.OpenShut
import Derived.ShutString
import Derived.ChangeOld
import Derived.Below
namespace Go.Proofs.Ybulkrce
open Go.ChangeShapes Go.WideShapes Go.ChangeAt Go.RowKit

theorem own : ownKnob Yba.prog.godebug = none := by kernel_rfl
theorem laidOut : laidOutB Yba.prog = true := by kernel_rfl

section
variable {H : Type} {enc : TypeId × Value → H} {P : Program} {W W' : World}

/-- All arguments read behind the call as they did, where below the heap's old size nothing has turned. -/
theorem trodAll_below (hl : laidOutB P = true) (hb : Below W.heap.size W W') : ∀ (ts : List TypeId) (vs : List Value) (ds : List (DataW H)) (ps : List MemPlace),
    (ts.all fun t => P.readableRec t && decide (t < P.types.size)) = true → DataW.TrodAll enc P W 0 (fun _ => true) true ts vs ds ps → DataW.TrodAll enc P W' 0 (fun b => decide (b < W.heap.size)) true ts vs ds ps
  | [], vs, ds, ps, _, h => by
    obtain ⟨rfl, rfl, rfl⟩ := trodAll_nil h
    exact trodAll_mk0
  | t :: ts, vs, ds, ps, hr, h => by
    obtain ⟨v, vs', d, ds', p, q, rfl, rfl, rfl, h0, h1⟩ := trodAll_cons h
    simp only [List.all_cons, Bool.and_eq_true] at hr
    have lt : ∀ x ∈ p, x.block < W.heap.size := by obtain ⟨m, hm⟩ := h0; exact DataW.trod_lt m _ _ _ hm
    exact trodAll_cons_mk (Below.trod hl hr.1.1 (of_decide_eq_true hr.1.2) h0 hb lt) (trodAll_below hl hb ts vs' ds' q hr.2 h1)

/-- A slice of integers that came in. -/
theorem open_row {t e : TypeId} {k : IntKind} {a : Option Addr} {len cap : Nat} {d : DataW H} {ps : List MemPlace} (ht : P.underlying t = some (.slice e)) (he : P.underlying e = some (.int k)) (hc : P.cellsOf e = 1)
    (h : DataW.Trod enc P W 0 (fun _ => true) true t (.slice a len cap) d ps) :
    ∃ (rb ro : Nat) (zs : List Int), zs.length = len ∧ (0 < len → a = some ⟨rb, ro, none⟩ ∧ rb < W.heap.size) ∧ (∀ j, j < len → W.cell? ⟨rb, ro + j, none⟩ = some (.int k (zs.getD j 0))) ∧ (∀ n ∈ zs, (Lit.int k n).wf = true) ∧ len ≤ cap ∧ cap ≤ maxLen := by
  obtain ⟨fuel, hf⟩ := h
  rcases open_ints ht he hc hf with ⟨hcs, _⟩ | ⟨x, l, c, zs, hcs, _, hl, hm, hz, _, hcell, hwz⟩
  · simp [Value.cells] at hcs
    obtain ⟨rfl, rfl, rfl⟩ := hcs
    exact ⟨0, 0, [], rfl, fun h => by omega, fun j h => by omega, fun n hn => (by cases hn), by omega, by simp [maxLen]⟩
  · simp [Value.cells] at hcs
    obtain ⟨rfl, rfl, rfl⟩ := hcs
    simp only [if_true] at hz
    by_cases h0 : len = 0
    · subst h0
      exact ⟨0, 0, [], rfl, fun h => by omega, fun j h => by omega, fun n hn => (by cases hn), hl, hm⟩
    · obtain ⟨b, off, spot⟩ := x
      have hspot : spot = none := by simpa [Addr.add] using World.cell?_spot (hcell 0 (by omega))
      subst hspot
      have hbW : b < W.heap.size := by
        have := World.block_lt_of_cell? W _ (hcell 0 (by omega))
        simpa [Addr.add] using this
      refine ⟨b, off, zs.take len, by simp; omega, fun _ => ⟨rfl, hbW⟩, fun j hj => ?_, fun n hn => hwz n (List.mem_of_mem_take hn), hl, hm⟩
      have e1 := hcell j (by omega)
      rw [add_plain] at e1
      rw [e1]
      simp [hj]

theorem okWide_array {r : Reach} {base : Nat} {t e : TypeId} {n : Nat} {v : Value} (ht : P.underlying t = some (.array n e)) (h : Value.okWide P W r base t v) : ∃ cs, v = .agg cs ∧ cs.size = P.cellsOf t := by
  simp only [Value.okWide, ht] at h
  obtain ⟨cs, h1, h2, _⟩ := h
  exact ⟨cs, h1, h2⟩

/-- The truth value in a cell. -/
def boolOf : Value → Bool | .bool b => b | _ => false

theorem one_of (cs : List Value) (i : Nat) (x : Value) (h : (cs.drop i).take 1 = [x]) : cs[i]? = some x := by
  have : ((cs.drop i).take 1)[0]? = some x := by rw [h]; rfl
  simpa [List.getElem?_take, List.getElem?_drop] using this

theorem open_array {t e : TypeId} {n : Nat} {cs : Array Value} {d : DataW H} {ps : List MemPlace} (ht : P.underlying t = some (.array n e)) (hc : P.cellsOf e = 1)
    (h : DataW.Trod enc P W 0 (fun _ => true) true t (.agg cs) d ps) : ∀ i, i < n → ∃ m x, DataW.trod enc P W 0 (fun _ => true) true m e ((cs.toList.drop i).take 1) = some x := by
  obtain ⟨fuel, hf⟩ := h
  obtain ⟨xs, m, _, _, _, hl, he⟩ := DataW.trod_array ht hf
  intro i hi
  have := he i hi
  rw [hc, Nat.mul_one] at this
  rw [List.getElem?_eq_getElem (by omega)] at this
  exact ⟨m, _, by simpa [Value.cells] using this⟩

theorem open_bools {t e : TypeId} {n : Nat} {cs : Array Value} {d : DataW H} {ps : List MemPlace} (ht : P.underlying t = some (.array n e)) (he : P.underlying e = some .bool) (hc : P.cellsOf e = 1) (hs : cs.size = n)
    (h : DataW.Trod enc P W 0 (fun _ => true) true t (.agg cs) d ps) : ∃ l : List Bool, l.length = n ∧ ∀ j, j < n → cs[j]? = some (.bool (l.getD j false)) := by
  refine ⟨cs.toList.map boolOf, by simpa using hs, fun j hj => ?_⟩
  obtain ⟨m, x, hx⟩ := open_array ht hc h j hj
  obtain ⟨b, hb, _⟩ := DataW.trod_bool he hx
  have := one_of _ _ _ hb
  have e2 : cs[j]? = some (.bool b) := by simpa using this
  rw [e2]
  simp [e2, boolOf]

theorem open_intsA {t e : TypeId} {n : Nat} {k : IntKind} {cs : Array Value} {d : DataW H} {ps : List MemPlace} (ht : P.underlying t = some (.array n e)) (he : P.underlying e = some (.int k)) (hc : P.cellsOf e = 1) (hs : cs.size = n)
    (h : DataW.Trod enc P W 0 (fun _ => true) true t (.agg cs) d ps) : ∃ l : List Int, l.length = n ∧ (∀ j, j < n → cs[j]? = some (.int k (l.getD j 0))) ∧ ∀ j, j < n → (Lit.int k (l.getD j 0)).wf = true := by
  have key : ∀ j, j < n → cs[j]? = some (.int k ((cs.toList.map intOf).getD j 0)) ∧ (Lit.int k ((cs.toList.map intOf).getD j 0)).wf = true := fun j hj => by
    obtain ⟨m, x, hx⟩ := open_array ht hc h j hj
    obtain ⟨b, hb, _, hw⟩ := DataW.trod_int he hx
    have := one_of _ _ _ hb
    have e2 : cs[j]? = some (.int k b) := by simpa using this
    rw [e2]
    simp [e2, intOf, hw]
  exact ⟨cs.toList.map intOf, by simpa using hs, fun j hj => (key j hj).1, fun j hj => (key j hj).2⟩
end
end Go.Proofs.Ybulkrce
