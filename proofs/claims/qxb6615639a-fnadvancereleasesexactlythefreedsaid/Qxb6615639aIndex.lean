import Derived.Test.Qxb6615639aProg
import Derived.Test.Qxb6615639aBase
import Derived.WalkKit
namespace Go.Proofs.Qxb6615639a
set_option linter.unusedVariables false
set_option linter.unusedSimpArgs false
open Go.RowKit

theorem take_not {xs : List Int} {k : Nat} {x v : Int} (h : v ∉ xs.take k) (hx : xs[k]? = some x) (e : ¬ x = v) : v ∉ xs.take (k + 1) := by
  rw [List.take_add_one, hx]
  simp [h]
  exact fun h' => e h'.symm

set_option maxHeartbeats 400000 in
theorem index_any (a : Option Addr) (c : Nat) (xs : List Int) (v : Int) (w : World) (hl : xs.length ≤ 1000000) (h : Row w a (ints xs)) :
    Calls Try.prog 11 #[.slice a xs.length c, .int .i64 v] w fun e w' => (∃ k : Int, e = .returned (.int .i64 k) ∧ ((k = -1 ∧ v ∉ xs) ∨ ∃ j : Nat, k = j ∧ xs[j]? = some v)) ∧ w' = w := by
  obtain ⟨n, hn⟩ : ∃ n, n = xs.length := ⟨_, rfl⟩
  rw [← hn] at hl ⊢
  have HN : Hid (n = xs.length) := hn
  clear hn
  go_enter Try.func11, Try.ntmps11
  go_wp2
  go_loop [5] (fun i => ∃ k : Nat, k ≤ n ∧ i = .int .i64 k ∧ v ∉ xs.take k) (fun i => n - (intOf i).toNat)
  case atStart => exact ⟨0, Nat.zero_le _, rfl, by simp⟩
  case round =>
    obtain ⟨k, hk, rfl, hno⟩ := hrel
    by_cases hlt : k < n
    · obtain ⟨b, off, x, ha, hx, hc⟩ := h.int (k := k) (by rw [← HN.out]; exact hlt)
      subst ha
      have HX : Hid (xs[k]? = some x) := hx
      clear hx
      go_wp2
      · have hxv : (x == v) = true := by assumption
        have e : x = v := by simpa using hxv
        go_ret
        exact ⟨⟨_, rfl, .inr ⟨k, rfl, e ▸ HX.out⟩⟩, rfl⟩
      · have hxv : (x == v) = false := by assumption
        have e : ¬ x = v := by simpa using hxv
        go_round
        case rel => exact ⟨k + 1, by omega, by go_num, take_not hno HX.out e⟩
        case measure => simp [intOf]; omega
    · go_wp2
      go_ret
      have : k = n := by omega
      subst this
      refine ⟨⟨_, rfl, .inl ⟨rfl, ?_⟩⟩, rfl⟩
      rw [HN.out] at hno
      simpa using hno
end Go.Proofs.Qxb6615639a
