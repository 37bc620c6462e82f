import Derived.Test.Qxb6615639aParts
import Derived.OpenShut
namespace Go.Proofs.Qxb6615639a
set_option linter.unusedVariables false
set_option linter.unusedSimpArgs false
open Go.RowKit

/-- A slice of integers that came in: it is nil; or it leads to a row of 'cap' cells, the numbers 'zs' (the first 'len' are its elements), each fitting its kind. -/
def IsRow (k : IntKind) (w : World) (a : Option Addr) (len cap : Nat) (zs : List Int) : Prop :=
  (a = none ∧ len = 0 ∧ cap = 0 ∧ zs = []) ∨
  ∃ x, a = some x ∧ len ≤ cap ∧ cap ≤ maxLen ∧ zs.length = cap ∧ (∀ i, i < zs.length → w.cell? (x.add i) = some (.int k (zs.getD i 0))) ∧ ∀ n ∈ zs, (Lit.int k n).wf = true

theorem lt_of_cell {w : World} {b o : Nat} {v : Value} (h : w.cell? ⟨b, o, none⟩ = some v) : b < w.heap.size := by
  rcases Nat.lt_or_ge b w.heap.size with h' | h'
  · exact h'
  · simp [World.cell?, Array.getElem?_eq_none h'] at h

theorem isRow_view {w : World} {a : Option Addr} {len cap : Nat} {zs : List Int} (h : IsRow .i64 w a len cap zs) : Hid (len = (zs.take len).length) ∧ Row w a (ints (zs.take len)) ∧ ∀ (q : Nat) x, (zs.take len)[q]? = some x → x ≤ top := by
  rcases h with ⟨rfl, rfl, rfl, rfl⟩ | ⟨x, rfl, hl, hm, hz, hc, hw⟩
  · exact ⟨rfl, .inl rfl, fun q x h => by simp at h⟩
  · refine ⟨by show _ = _; simp; omega, ?_, fun q y h => ?_⟩
    · by_cases h0 : len = 0
      · subst h0; exact .inl rfl
      · obtain ⟨b, off, spot⟩ := x
        have hspot : spot = none := by simpa [Addr.add] using World.cell?_spot (hc 0 (by omega))
        subst hspot
        have hc' : ∀ i, i < zs.length → w.cell? ⟨b, off + i, none⟩ = some (.int .i64 (zs.getD i 0)) := fun i hi => by have := hc i hi; rwa [Addr.add_lit] at this
        refine .inr ⟨b, off, rfl, lt_of_cell (hc' 0 (by omega)), fun i u hu => ?_⟩
        have hi := at_lt hu
        rw [ints_length] at hi
        simp at hi
        rw [hc' i (by omega)]
        have e : (ints (zs.take len))[i]? = some (.int .i64 (zs.getD i 0)) := by
          have hi2 : i < zs.length := by omega
          simp [ints, show i < len by omega, hi2]
        rw [e] at hu
        exact hu
    · have hy : y ∈ zs := List.mem_of_mem_take (List.mem_of_getElem? h)
      have := (bounds_i64 (hw y hy)).2
      unfold top
      omega
end Go.Proofs.Qxb6615639a
