import Derived.Test.Qxb6615622aLeaf
import Derived.Laws.BytesArg
import Derived.Deep.QuietTactic
import Derived.BigQuiet
namespace Go.Proofs.Qxb6615622a
open Go.RowKit
set_option linter.unusedVariables false
set_option linter.unusedSimpArgs false

/-- The two read as the same string. -/
def eqB (a b : List Int) : Bool := (strOfNums a).toList == (strOfNums b).toList
theorem eqB_self (a : List Int) : eqB a a = true := by simp [eqB]

theorem conv_any {w : World} {B : Nat} {v : Value} {bs : List Int} (h : IsBytes w B v bs) : (convert 36 9 v).run Try.prog w = .ok (.string (strOfNums bs)) w := by
  obtain ⟨a, c, rfl, hr, _⟩ := h
  rcases hr with hr | ⟨b, off, rfl, _, hc⟩
  · have e : bs = [] := by simpa [u8s] using hr
    subst e
    show (convert 36 9 (.slice a 0 c)).run Try.prog w = _
    rw [run_convert_bytes_string w 36 9 5 _ 0 c Try.underlying36 Try.underlying5 Try.underlying9]
    cases a <;> simp [Conv.bytesToString, loadCells]
    all_goals rfl
  · refine run_convert_bytes_arg w 36 5 Try.underlying36 Try.underlying5 b off bs.length c bs rfl (fun i hi => ?_) 9 Try.underlying9
    refine hc i _ ?_
    simp [u8s, hi]

set_option maxHeartbeats 400000 in
theorem bytesEqual_any (v1 v2 : Value) (b1 b2 : List Int) (B : Nat) (w : World) (h1 : IsBytes w B v1 b1) (h2 : IsBytes w B v2 b2) :
    Calls Try.prog 16 #[v1, v2] w fun e w' => e = .returned (.bool (eqB b1 b2)) ∧ w' = w := by
  have c1 := conv_any h1
  have c2 := conv_any h2
  clear h1 h2
  go_enter Try.func16, Try.ntmps16
  go_wp2
  go_ret
  exact ⟨rfl, rfl⟩

set_option maxHeartbeats 400000 in
theorem equal_any (p q : Value) (b1 b2 : List Int) (B : Nat) (w : World) (h1 : IsCert w B p b1) (h2 : IsCert w B q b2) :
    Calls Try.prog 14 #[p, q] w fun e w' => e = .returned (.bool (eqB b1 b2)) ∧ ∃ d, w' = w.drewN d := by
  obtain ⟨g1, v1, rfl, _, hc1, hv1⟩ := h1
  obtain ⟨g2, v2, rfl, _, hc2, hv2⟩ := h2
  go_enter Try.func14, Try.ntmps14
  go_wp2_with fail
  go_quiet ((go_at_call 16; refine (bytesEqual_any v1 v2 b1 b2 B _ (hv1.keep (below_drewN (Below.refl _ _) _)) (hv2.keep (below_drewN (Below.refl _ _) _))).mono ?_; rintro e w' ⟨rfl, rfl⟩; exact ⟨rfl, _, rfl⟩))
  go_wp2_with fail
  go_ret
  exact ⟨rfl, _, rfl⟩
end Go.Proofs.Qxb6615622a
