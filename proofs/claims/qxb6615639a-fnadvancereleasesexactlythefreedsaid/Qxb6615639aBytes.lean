import Derived.Test.Qxb6615639aProg
import Derived.WalkKit
namespace Go.Proofs.Qxb6615639a
set_option linter.unusedVariables false
set_option linter.unusedSimpArgs false
open Go.RowKit

theorem bytes10_any (a0 : Int) (s1 s2 s3 s4 s5 s6 s7 : Option Addr) (n1 n2 n3 n4 n5 n6 n7 c1 c2 c3 c4 c5 c6 c7 : Nat) (w : World) :
    Calls Try.prog 10 #[.int .i64 a0, .slice s1 n1 c1, .slice s2 n2 c2, .slice s3 n3 c3, .slice s4 n4 c4, .slice s5 n5 c5, .slice s6 n6 c6, .slice s7 n7 c7] w
      fun e w' => (∃ b, e = .returned (.bool b)) ∧ w' = w := by
  go_enter Try.func10, Try.ntmps10
  go_wp2
  all_goals (go_ret; exact ⟨⟨_, rfl⟩, rfl⟩)
end Go.Proofs.Qxb6615639a
