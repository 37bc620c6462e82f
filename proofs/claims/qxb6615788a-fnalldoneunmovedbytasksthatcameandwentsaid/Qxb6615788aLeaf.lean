import Derived.Test.Qxb6615788aBase
namespace Go.Proofs.Qxb6615788a
set_option linter.unusedVariables false
set_option linter.unusedSimpArgs false
open Go.RowKit

/-- (*atomic.Uint64).Store -/
theorem store_any (b o : Nat) (y : Int) (u : Value) (w : World) (hc : w.cell? ⟨b, o, none⟩ = some u) (hz : w.frozen? ⟨b, o, none⟩ = false) :
    Calls Try.prog 11 #[.pointer (some ⟨b, o, none⟩), .int .u64 y] w fun e w' => e = .returned (.tuple #[]) ∧ w' = w.setCell ⟨b, o, none⟩ (.int .u64 y) := by
  have hst := run_call_store (P := Try.prog) Try.func14 (by kernel_rfl) (by kernel_rfl) (by kernel_rfl) (by kernel_rfl) (k := .u64) (y := y) hc hz
  go_enter Try.func11, Try.ntmps11
  go_wp2_with fail
  go_end0
  exact ⟨rfl, rfl⟩

/-- (*atomic.Uint64).Load -/
theorem load_any (b o : Nat) (y : Int) (w : World) (hc : w.cell? ⟨b, o, none⟩ = some (.int .u64 y)) :
    Calls Try.prog 12 #[.pointer (some ⟨b, o, none⟩)] w fun e w' => e = .returned (.int .u64 y) ∧ w' = w := by
  have hl := run_call_load (P := Try.prog) Try.func15 (by kernel_rfl) (by kernel_rfl) (by kernel_rfl) .u64 (by kernel_rfl) hc
  go_enter Try.func12, Try.ntmps12
  go_wp2_with fail
  go_ret
  exact ⟨rfl, rfl⟩

/-- What zzBytes leaves. -/
def AnyPost (w : World) (e : Ending) (w' : World) : Prop := ∃ b, e = .returned (.bool b) ∧ w' = w

theorem bytes_any (v0 : Value) (a1 a2 : Option Addr) (n1 c1 n2 c2 : Nat) (v3 v4 v5 : Value) (w : World) :
    Calls Try.prog 9 #[v0, .slice a1 n1 c1, .slice a2 n2 c2, v3, v4, v5] w (AnyPost w) := by
  go_enter Try.func9, Try.ntmps9
  by_cases h1 : n1 ≤ 1048576
  · by_cases h2 : n2 ≤ 1048576
    · by_cases h3 : (n1 : Int) + n2 ≤ 1048576
      · go_wp2_with fail
        go_ret
        exact ⟨_, rfl, rfl⟩
      · go_wp2_with fail
        go_ret
        exact ⟨_, rfl, rfl⟩
    · go_wp2_with fail
      go_ret
      exact ⟨_, rfl, rfl⟩
  · go_wp2_with fail
    go_ret
    exact ⟨_, rfl, rfl⟩
end Go.Proofs.Qxb6615788a
