import Derived.Test.Qxb6615788aLeaf
namespace Go.Proofs.Qxb6615788a
set_option linter.unusedVariables false
set_option linter.unusedSimpArgs false
open Go.RowKit

/-- The sum of the first k numbers. -/
def tot (xs : List Int) : Nat → Int
  | 0 => 0
  | k + 1 => tot xs k + xs.getD k 0
theorem tot_next {xs : List Int} {k : Nat} {x : Int} (h : xs[k]? = some x) : tot xs (k + 1) = tot xs k + x := by simp [tot, h]

/-- Every number fits in 64 bits without sign. -/
def Fits (xs : List Int) : Prop := ∀ (i : Nat) x, xs[i]? = some x → 0 ≤ x ∧ x ≤ 18446744073709551615

/-- What zzCountTotals leaves. -/
def CountPost (h : Int) (xs ys : List Int) (n : Nat) (w : World) (e : Ending) (w' : World) : Prop :=
  ∃ s f ok, e = .returned (.tuple #[.int .u64 s, .int .u64 f, .bool ok]) ∧ (ok = true → s = h + tot xs n ∧ f = tot ys n ∧ 0 ≤ f ∧ f ≤ s ∧ s ≤ 18446744073709551615) ∧ w' = w

set_option maxRecDepth 100000 in
set_option maxHeartbeats 1000000 in
theorem count_any (h : Int) (a1 a2 : Option Addr) (c1 c2 n : Nat) (xs ys : List Int) (w : World) (h0 : 0 ≤ h) (h1 : h ≤ 18446744073709551615) (ex : Hid (n = xs.length)) (ey : Hid (n = ys.length)) (ln : n ≤ 65536)
    (r1 : Row w a1 (u64s xs)) (r2 : Row w a2 (u64s ys)) (fx : Hid (Fits xs)) (fy : Hid (Fits ys)) :
    Calls Try.prog 6 #[.int .u64 h, .slice a1 n c1, .slice a2 n c2] w (CountPost h xs ys n w) := by
  go_enter Try.func6, Try.ntmps6
  go_wp2_with fail
  go_loopg [6, 7, 9] n (fun gk sv fv iv wr => ∃ (i : Nat) (T : Int), gk = n - i ∧ i ≤ n ∧ iv = .int .i64 i ∧ sv = .int .u64 T ∧ fv = .int .u64 0 ∧ 0 ≤ T ∧ T ≤ 18446744073709551615 ∧ T = h + tot xs i ∧ wr = w)
  case atStart => exact ⟨0, h, by omega, by omega, rfl, rfl, rfl, h0, h1, by simp [tot], rfl⟩
  case round =>
    obtain ⟨i, T, hgk, hi, rfl, rfl, rfl, hT0, hT1, hT, hw⟩ := hrel
    have hw := hw.symm
    subst hw
    have HGK : Hid (gk = n - i) := hgk
    have HT : Hid (T = h + tot xs i) := hT
    clear hgk hT
    by_cases hlt : i < n
    · obtain ⟨b, o, x, ha, hx, hc⟩ := r1.u64 (k := i) (by rw [← ex.out]; exact hlt)
      obtain ⟨x0, x1⟩ := fx.out i x hx
      have HX : Hid (tot xs (i + 1) = tot xs i + x) := tot_next hx
      subst ha
      clear hx
      by_cases hov : 18446744073709551615 - x < T
      · go_wp2_with fail
        go_ret3
        exact ⟨0, 0, false, rfl, by simp, rfl⟩
      · go_wp2_with fail
        go_roundg (n - (i + 1))
        case measure => rw [HGK.out]; omega
        case rel => exact ⟨i + 1, T + x, rfl, by omega, by go_num, by go_num, rfl, by omega, by omega, by rw [HX.out, HT.out]; omega, rfl⟩
    · have hin : n = i := by omega
      subst hin
      clear hi hlt HGK
      go_wp2_with fail
      go_loopg [6, 7, 10] n (fun gk tv sv iv wr => ∃ (i : Nat) (F : Int), gk = n - i ∧ i ≤ n ∧ iv = .int .i64 i ∧ sv = .int .u64 F ∧ tv = .int .u64 T ∧ 0 ≤ F ∧ F ≤ 18446744073709551615 ∧ F = tot ys i ∧ wr = w)
      case atStart => exact ⟨0, 0, by omega, by omega, rfl, rfl, rfl, by omega, by omega, rfl, rfl⟩
      case round =>
        obtain ⟨i, F, hgk, hi, rfl, rfl, rfl, hF0, hF1, hF, hw⟩ := hrel
        have hw := hw.symm
        subst hw
        have HGK : Hid (gk = n - i) := hgk
        have HF : Hid (F = tot ys i) := hF
        clear hgk hF
        by_cases hlt : i < n
        · obtain ⟨b, o, x, ha, hx, hc⟩ := r2.u64 (k := i) (by rw [← ey.out]; exact hlt)
          obtain ⟨x0, x1⟩ := fy.out i x hx
          have HX : Hid (tot ys (i + 1) = tot ys i + x) := tot_next hx
          subst ha
          clear hx
          by_cases hov : 18446744073709551615 - x < F
          · go_wp2_with fail
            go_ret3
            exact ⟨0, 0, false, rfl, by simp, rfl⟩
          · go_wp2_with fail
            go_roundg (n - (i + 1))
            case measure => rw [HGK.out]; omega
            case rel => exact ⟨i + 1, F + x, rfl, by omega, by go_num, by go_num, rfl, by omega, by omega, by rw [HX.out, HF.out], rfl⟩
        · have hin : n = i := by omega
          subst hin
          go_wp2_with fail
          go_ret3
          exact ⟨T, F, decide (F ≤ T), rfl, fun h => ⟨HT.out, HF.out, hF0, by simpa using h, hT1⟩, rfl⟩
end Go.Proofs.Qxb6615788a
