import Derived.Test.Qxb6615788aRows
import Derived.WalkKit
import Derived.Deep.LoopGhost
import Derived.WalkSpells
import Derived.WalkLawsBesides
import Derived.Laws.LoneSync
import Derived.Deep.RegionWith
import Derived.Deep.RegionLaw
import Derived.Deep.QuietTactic
import Derived.BigQuiet
namespace Go.Proofs.Qxb6615788a
set_option linter.unusedVariables false
set_option linter.unusedSimpArgs false
open Go.RowKit

/-- The slice value at 'a' reads, in w, as the cells 'cs'. -/
def Row (w : World) (a : Option Addr) (cs : List Value) : Prop :=
  cs = [] ∨ ∃ b off, a = some ⟨b, off, none⟩ ∧ b < w.heap.size ∧ ∀ i u, cs[i]? = some u → w.cell? ⟨b, off + i, none⟩ = some u

def ints (xs : List Int) : List Value := xs.map (Value.int .i64)
def bools (xs : List Bool) : List Value := xs.map Value.bool

theorem ints_length (xs : List Int) : (ints xs).length = xs.length := by simp [ints]
theorem bools_length (xs : List Bool) : (bools xs).length = xs.length := by simp [bools]

theorem Row.keep {w w' : World} {a : Option Addr} {cs : List Value} (h : Row w a cs) (hb : Below w.heap.size w w') : Row w' a cs := by
  rcases h with h | ⟨b, off, ha, hlt, hc⟩
  · exact .inl h
  · refine .inr ⟨b, off, ha, Nat.lt_of_lt_of_le hlt hb.size, fun i u hu => ?_⟩
    rw [hb.cell (p := ⟨b, off + i, none⟩) hlt]
    exact hc i u hu

/-- One element: its number by a name, and its cell. -/
theorem Row.int {w : World} {a : Option Addr} {xs : List Int} (h : Row w a (ints xs)) {k : Nat} (hk : k < xs.length) :
    ∃ b off x, a = some ⟨b, off, none⟩ ∧ xs[k]? = some x ∧ w.cell? ⟨b, off + k, none⟩ = some (.int .i64 x) := by
  rcases h with h | ⟨b, off, ha, _, hc⟩
  · have := congrArg List.length h; simp [ints] at this; subst this; simp at hk
  · refine ⟨b, off, xs[k], ha, by simp [hk], hc k _ (by simp [ints, hk])⟩

theorem Row.bool {w : World} {a : Option Addr} {xs : List Bool} (h : Row w a (bools xs)) {k : Nat} (hk : k < xs.length) :
    ∃ b off x, a = some ⟨b, off, none⟩ ∧ xs[k]? = some x ∧ w.cell? ⟨b, off + k, none⟩ = some (.bool x) := by
  rcases h with h | ⟨b, off, ha, _, hc⟩
  · have := congrArg List.length h; simp [bools] at this; subst this; simp at hk
  · refine ⟨b, off, xs[k], ha, by simp [hk], hc k _ (by simp [bools, hk])⟩

/-! ### A block of the call's own, known whole -/
/-- Block g holds just the cells 'cs', none of them frozen. -/
def Arr (w : World) (g : Nat) (t : TypeId) (cs : List Value) : Prop := w.heap[g]? = some (.cells cs.toArray t (0, 0))

theorem Arr.lt {w : World} {g : Nat} {t : TypeId} {cs : List Value} (h : Arr w g t cs) : g < w.heap.size := lt_of_block h

theorem Arr.cell {w : World} {g : Nat} {t : TypeId} {cs : List Value} (h : Arr w g t cs) {i : Nat} {u : Value} (hu : cs[i]? = some u) : w.cell? ⟨g, i, none⟩ = some u := by
  unfold Arr at h
  simp [World.cell?, h, hu]

theorem Arr.free {w : World} {g : Nat} {t : TypeId} {cs : List Value} (h : Arr w g t cs) (i : Nat) : w.frozen? ⟨g, i, none⟩ = false := by
  unfold Arr at h
  simp [World.frozen?, h]

theorem Arr.set {w : World} {g : Nat} {t : TypeId} {cs : List Value} (h : Arr w g t cs) (i : Nat) (u : Value) : Arr (w.setCell ⟨g, i, none⟩ u) g t (cs.set i u) := by
  have hlt := h.lt
  have h' : w.heap[g] = .cells cs.toArray t (0, 0) := by simpa [Arr, Array.getElem?_eq_getElem hlt] using h
  show (w.heap.modify g _)[g]? = _
  rw [Array.getElem?_eq_getElem (by simpa using hlt), Array.getElem_modify_self, h']
  simp

theorem Arr.other {w : World} {g : Nat} {t : TypeId} {cs : List Value} (h : Arr w g t cs) {p : Addr} (hp : g ≠ p.block) (u : Value) : Arr (w.setCell p u) g t cs := by
  unfold Arr
  rw [Below.heap_setCell _ _ _ _ hp]
  exact h

theorem Arr.keep {w w' : World} {g : Nat} {t : TypeId} {cs : List Value} (h : Arr w g t cs) {B : Nat} (hb : Below B w w') (hB : g < B) : Arr w' g t cs := by
  unfold Arr
  rw [hb.block g hB]
  exact h

theorem Arr.draws {w : World} {g : Nat} {t : TypeId} {cs : List Value} (h : Arr w g t cs) (n : Nat) : Arr (w.drewN n) g t cs := h

theorem Arr.draw {w : World} {g : Nat} {t : TypeId} {cs : List Value} (h : Arr w g t cs) : Arr w.drew g t cs := h

theorem Arr.alloc {w : World} {g : Nat} {t : TypeId} {cs : List Value} (h : Arr w g t cs) (o : Obj) : Arr (w.alloc o) g t cs := by
  unfold Arr
  rw [Below.heap_alloc _ _ _ h.lt]
  exact h

theorem Arr.row {w : World} {g : Nat} {t : TypeId} {cs : List Value} (h : Arr w g t cs) : Row w (some ⟨g, 0, none⟩) cs :=
  .inr ⟨g, 0, rfl, h.lt, fun i u hu => by rw [Nat.zero_add]; exact h.cell hu⟩

theorem ints_set (xs : List Int) (i : Nat) (v : Int) : (ints xs).set i (.int .i64 v) = ints (xs.set i v) := by simp [ints, List.map_set]
theorem bools_set (xs : List Bool) (i : Nat) (v : Bool) : (bools xs).set i (.bool v) = bools (xs.set i v) := by simp [bools, List.map_set]
theorem ints_at {xs : List Int} {i : Nat} {x : Int} (h : xs[i]? = some x) : (ints xs)[i]? = some (.int .i64 x) := by simp [ints, h]
theorem bools_at {xs : List Bool} {i : Nat} {x : Bool} (h : xs[i]? = some x) : (bools xs)[i]? = some (.bool x) := by simp [bools, h]
theorem some_at {α : Type} {xs : List α} {k : Nat} (h : k < xs.length) : ∃ x, xs[k]? = some x := ⟨xs[k], by simp [h]⟩
theorem at_lt {α : Type} {xs : List α} {k : Nat} {x : α} (h : xs[k]? = some x) : k < xs.length := by
  rcases Nat.lt_or_ge k xs.length with h' | h'
  · exact h'
  · simp [h'] at h

theorem below_drewN {B : Nat} {a w : World} (h : Below B a w) (n : Nat) : Below B a (w.drewN n) := h.trans ⟨rfl, rfl, rfl, Nat.le_refl _, fun _ _ => rfl⟩

theorem made_one (z : Value) (n : Nat) : (madeCells #[z] n).toList = List.replicate n z := by
  apply List.ext_getElem
  · simp [madeCells]
  · intro i h1 h2
    simp [madeCells, Nat.mod_one]

/-- 'make([]T, n)', T of one cell: a new block, known whole, under a name of its own. -/
theorem wpList_make_arr {P : Program} (w : World) {ops : Array Oper} {rest : List Oper} {o : Oper} {a : Act} {Q : Exit → Act → World → Prop}
    (hg : o.guard = none) (l c : Operand) (t : TypeId) (hop : o.op = Op.makeSlice t l c)
    (e : TypeId) (i : TypeInfo) (z : Value) (bytes : Nat) (h1 : P.underlying t = some (.slice e)) (h2 : P.info? e = some i) (h3 : i.zero = some z) (h4 : i.size = 1) (h5 : i.bytes = bytes) (hz : z.cells = #[z])
    (kl kc : IntKind) (L C : Int) (n : Nat) (hl : a.eval l = .int kl L) (hc : a.eval c = .int kc C) (hL : L = (n : Int)) (hC : C = (n : Int)) (b2 : bytes * n ≤ 281474976710656) (b3 : n ≤ maxLen)
    (hK : ∀ w' g, Hid (g = w.heap.size) → Arr w' g e (List.replicate n z) → Below w.heap.size w w' → wpList P ops Q rest (a.put o.dst (.slice (some ⟨g, 0, none⟩) n n)) w') :
    wpList P ops Q (o :: rest) a w := by
  refine wpList_plain hg fun K hK' => ?_
  subst hL
  subst hC
  have hrun := run_make (P := P) (w := w) t e i z h1 h2 h3 kl kc n n (by omega) (by omega) (by rw [h5, ← Int.natCast_mul]; omega) (by unfold maxLen at b3; omega)
  unfold Oper.wp
  simp [execOp, hop, hl, hc, hrun, Result.andThen]
  refine hK' _ _ (hK _ w.heap.size rfl ?_ ((Below.refl _ _).alloc (Nat.le_refl _) _))
  have e1 := made_one z n
  show (w.heap.push _)[w.heap.size]? = _
  rw [Array.getElem?_push, if_pos rfl, h4, Nat.mul_one, hz, ← e1]

theorem Row.setCell {w : World} {a : Option Addr} {cs : List Value} (h : Row w a cs) {q : Addr} (hq : ∀ b off, a = some ⟨b, off, none⟩ → b ≠ q.block) (u : Value) : Row (w.setCell q u) a cs := by
  rcases h with h | ⟨b, off, ha, hlt, hc⟩
  · exact .inl h
  · refine .inr ⟨b, off, ha, by simpa [World.setCell] using hlt, fun i v hv => ?_⟩
    rw [World.cell?_of_block (w := w) (Below.heap_setCell _ _ _ _ (hq b off ha))]
    exact hc i v hv

/-- One cell. -/
theorem Row.at {w : World} {a : Option Addr} {cs : List Value} (h : Row w a cs) {k : Nat} (hk : k < cs.length) :
    ∃ b off x, a = some ⟨b, off, none⟩ ∧ cs[k]? = some x ∧ w.cell? ⟨b, off + k, none⟩ = some x := by
  rcases h with h | ⟨b, off, ha, _, hc⟩
  · subst h; simp at hk
  · exact ⟨b, off, cs[k], ha, by simp [hk], hc k _ (by simp [hk])⟩

/-! ### Numbers of 64 bits without sign -/
def u64s (xs : List Int) : List Value := xs.map (Value.int .u64)
theorem u64s_length (xs : List Int) : (u64s xs).length = xs.length := by simp [u64s]
theorem u64s_at {xs : List Int} {i : Nat} {x : Int} (h : xs[i]? = some x) : (u64s xs)[i]? = some (.int .u64 x) := by simp [u64s, h]
theorem u64s_set (xs : List Int) (i : Nat) (v : Int) : (u64s xs).set i (.int .u64 v) = u64s (xs.set i v) := by simp [u64s, List.map_set]
theorem Row.u64 {w : World} {a : Option Addr} {xs : List Int} (h : Row w a (u64s xs)) {k : Nat} (hk : k < xs.length) :
    ∃ b off x, a = some ⟨b, off, none⟩ ∧ xs[k]? = some x ∧ w.cell? ⟨b, off + k, none⟩ = some (.int .u64 x) := by
  rcases h with h | ⟨b, off, ha, _, hc⟩
  · have := congrArg List.length h; simp [u64s] at this; subst this; simp at hk
  · refine ⟨b, off, xs[k], ha, by simp [hk], hc k _ (by simp [u64s, hk])⟩

theorem lt_of_cell {w : World} {b o : Nat} {v : Value} (h : w.cell? ⟨b, o, none⟩ = some v) : b < w.heap.size := by
  rcases Nat.lt_or_ge b w.heap.size with h' | h'
  · exact h'
  · simp [World.cell?, Array.getElem?_eq_none h'] at h

theorem Try.info22 : (Try.prog.info? 22).map (fun i => (i.zero, i.size, i.bytes)) = some (some (.int .u64 0), 1, 8) := by kernel_rfl
theorem Try.info87 : (Try.prog.info? 87).map (fun i => (i.zero, i.size, i.bytes)) = some (some (.pointer none), 1, 8) := by kernel_rfl

/-! ### The two great structs, their cells by a letter -/
/-- A Scheduler: its cells behind procs. -/
theorem sched_made : ∃ cs : List Value, (∃ x, cs[0]? = some x) ∧ (∀ (a : Option Addr) (n c : Nat) (w : World), (Instr.build 85 #[(0, .slice a n c)]).run Try.prog w = .ok (.agg (.slice a n c :: cs).toArray) w) ∧
    ∀ (a : Option Addr) (n c : Nat) (w : World), (Instr.box 85 (.agg (.slice a n c :: cs).toArray)).run Try.prog w = .ok (.pointer (some ⟨w.heap.size, 0, none⟩)) (w.alloc (.cells (.slice a n c :: cs).toArray 85)) :=
  ⟨(match (Try.prog.info? 85).bind (·.zero) with | some v => v.cells.toList.tail | none => []), ⟨.int .u64 0, by kernel_rfl⟩, fun a n c w => by kernel_rfl, fun a n c w => by kernel_rfl⟩
/-- A proc: its cells behind index. -/
theorem proc_made : ∃ cs : List Value, (∃ x, cs[650]? = some x) ∧ (∃ x, cs[652]? = some x) ∧ (∀ (i : Int) (w : World), (Instr.build 98 #[(0, .int .i64 i)]).run Try.prog w = .ok (.agg (.int .i64 i :: cs).toArray) w) ∧
    ∀ (i : Int) (w : World), (Instr.box 98 (.agg (.int .i64 i :: cs).toArray)).run Try.prog w = .ok (.pointer (some ⟨w.heap.size, 0, none⟩)) (w.alloc (.cells (.int .i64 i :: cs).toArray 98)) :=
  ⟨(match (Try.prog.info? 98).bind (·.zero) with | some v => v.cells.toList.tail | none => []), ⟨.int .u64 0, by kernel_rfl⟩, ⟨.int .u64 0, by kernel_rfl⟩, fun i w => by kernel_rfl, fun i w => by kernel_rfl⟩
end Go.Proofs.Qxb6615788a
