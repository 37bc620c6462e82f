import Derived.Test.Qxb6615622aProg
import Derived.Test.Qxb6615622aBase
import Derived.WalkKit
import Derived.WalkSpells
import Derived.Deep.LoopGhost
namespace Go.Proofs.Qxb6615622a
open Go.RowKit
set_option linter.unusedVariables false
set_option linter.unusedSimpArgs false

theorem Try.info5 : (Try.prog.info? 5).map (fun i => (i.zero, i.size, i.bytes)) = some (some (.int .u8 0), 1, 1) := by kernel_rfl
theorem Try.info35 : (Try.prog.info? 35).map (fun i => (i.zero, i.size, i.bytes)) = some (some (.pointer none), 1, 8) := by kernel_rfl
theorem Try.info29 : (Try.prog.info? 29).map (fun i => (i.zero, i.size, i.bytes)) = some (some (.slice none 0 0), 1, 24) := by kernel_rfl
theorem Try.info4 : (Try.prog.info? 4).map (fun i => (i.zero, i.size, i.bytes)) = some (some (.bool false), 1, 1) := by kernel_rfl

/-- The first k cells of F are those of bs. -/
def Same (bs F : List Int) (k : Nat) : Prop := ∀ (j : Nat), j < k → F[j]? = bs[j]?
theorem Same.next {bs F : List Int} {k : Nat} {x : Int} (h : Same bs F k) (hx : bs[k]? = some x) (hl : k < F.length) : Same bs (F.set k x) (k + 1) := by
  intro j hj
  rw [List.getElem?_set]
  split
  · rename_i e; subst e; simp [hl, hx]
  · exact h j (by omega)
theorem Same.all {bs F : List Int} (h : Same bs F bs.length) (hl : F.length = bs.length) : F = bs := by
  apply List.ext_getElem?
  intro i
  rcases Nat.lt_or_ge i bs.length with h' | h'
  · exact h i h'
  · rw [List.getElem?_eq_none (by omega), List.getElem?_eq_none h']

set_option maxHeartbeats 400000 in
theorem clone_any (v : Value) (bs : List Int) (B : Nat) (w : World) (h : IsBytes w B v bs) (hl : bs.length ≤ 1048576) :
    Calls Try.prog 11 #[v] w fun e w' => ∃ v', e = .returned v' ∧ IsBytes w' w.heap.size v' bs ∧ Below w.heap.size w w' := by
  obtain ⟨a, c, rfl, hr, _⟩ := h
  obtain ⟨n, hn⟩ : ∃ n, n = bs.length := ⟨_, rfl⟩
  rw [← hn] at hl ⊢
  have HN : Hid (n = bs.length) := hn
  clear hn
  have hnil := fun (W : World) (a : Option Addr) (m c m' c' : Nat) => Lib.run_eql_slice_nil (P := Try.prog) W 36 5 a m c m' c' Try.underlying36
  obtain ⟨i0, hi, hz0, hz1, hz2⟩ := info_parts Try.info5
  cases a with
  | none =>
    have e0 : bs = [] := by
      rcases hr with h | ⟨b, off, h, _⟩
      · simpa [u8s] using h
      · cases h
    subst e0
    have : n = 0 := HN.out
    subst this
    go_enter Try.func11, Try.ntmps11
    go_wp2_with fail
    go_ret
    exact ⟨_, rfl, ⟨none, 0, rfl, .inl rfl, fun b off h => by cases h⟩, Below.refl _ _⟩
  | some x =>
    go_enter Try.func11, Try.ntmps11
    go_wp2_with (at_make; refine wpList_make_arr _ rfl _ _ 36 rfl 5 i0 (.int .u8 0) 1 Try.underlying36 hi hz0 hz1 hz2 rfl _ _ _ _ n (by rfl) (by rfl) rfl rfl (by omega) (by unfold maxLen; omega) ?_; intro w1 g hg hA hB1)
    clear hi hz0 hz1 hz2
    have hgw : w.heap.size ≤ g := by have := hg.out; omega
    go_loopg [4] n (fun gk i wr => ∃ (k : Nat) (F : List Int), gk = n - k ∧ k ≤ n ∧ i = .int .i64 k ∧ F.length = n ∧ Same bs F k ∧ Arr wr g 5 (u8s F) ∧ Below w.heap.size w wr)
    case atStart => exact ⟨0, List.replicate n 0, by omega, by omega, rfl, by simp, fun j h => by omega, by simpa [u8s] using hA, hB1⟩
    case round =>
      clear hA hB1
      obtain ⟨k, F, hgk, hk, rfl, hF, hS, hA, hB⟩ := hrel
      have HGK : Hid (gk = n - k) := hgk
      clear hgk
      by_cases hlt : k < n
      · obtain ⟨b, off, u, ha, hu, hc⟩ := (hr.keep hB).at (k := k) (by rw [u8s_length, ← HN.out]; exact hlt)
        obtain ⟨y, hy⟩ := some_at (xs := bs) (k := k) (by rw [← HN.out]; exact hlt)
        rw [u8s_at hy] at hu
        cases hu
        simp only [Option.some.injEq] at ha
        subst ha
        obtain ⟨m, hm⟩ := some_at (xs := F) (k := k) (by omega)
        have c1 := hA.cell (u8s_at hm)
        have f1 := hA.free k
        have HY : Hid (bs[k]? = some y) := hy
        clear hy hm
        go_wp2_with fail
        go_roundg (n - (k + 1))
        case measure => rw [HGK.out]; omega
        case rel => exact ⟨k + 1, F.set k y, rfl, by omega, by go_num, by simpa using hF, hS.next HY.out (by omega), by rw [← u8s_set]; exact hA.set k _, hB.setCell (by simpa using hgw) _⟩
      · have hkn : n = k := by omega
        subst hkn
        obtain rfl : F = bs := by
          have := HN.out
          subst this
          exact hS.all hF
        go_wp2_with fail
        go_ret
        exact ⟨_, rfl, ⟨_, _, by rw [← HN.out]; rfl, hA.row, fun b off h => by cases h; exact hgw⟩, hB⟩
end Go.Proofs.Qxb6615622a
