/-
  'Rows.FnEndingAtCutsAndKeepsAllOrNoneSaid', proved. The frame is after the guide's own (its proof skeleton); the walk is put together from the groups of statements in the other texts.
-/
import Derived.Test.Qxb6615622aRows
import Derived.Test.Qxb6615622aOpen
namespace Go.Proofs.Qxb6615622a.fnEndingAtCutsAndKeepsAllOrNone
open Go.ChangeShapes Go.WideShapes Go.ChangeAt Go.RowKit
set_option linter.unusedVariables false
set_option linter.unusedSimpArgs false

theorem own : ownKnob Try.prog.godebug = none := by kernel_rfl
theorem laidOut : laidOutB Try.prog = true := by kernel_rfl

set_option maxRecDepth 100000 in
set_option maxHeartbeats 1000000 in
theorem walk (v0 v1 : Value) (k0 : Int) (b3 : List (List (List Int))) (css : List (List Int)) (w : World) (h0 : Strss w v0 b3) (h1 : Strs w v1 css) :
    Calls Try.prog 3 #[v0, v1, .int .i64 k0] w fun e w' => e = .returned (.bool true) ∧ Below w.heap.size w w' := by
  refine calls_of_wp (c := Try.f3.body.getD .skip) Try.func3 (by kernel_rfl) ?_
  simp only [Try.ntmps3, List.size_toArray, List.length_cons, List.length_nil, Nat.reduceAdd, Nat.reduceSub, Array.replicate_succ, Array.replicate_zero, List.push_toArray, List.append_toArray, List.nil_append, List.cons_append]
  have g0 : Try.f3.body.getD .skip = grp 5 (tlN 0 (Try.f3.body.getD .skip)) (tlN 5 (Try.f3.body.getD .skip)) := by kernel_rfl
  have g5 : tlN 5 (Try.f3.body.getD .skip) = grp 2 (tlN 5 (Try.f3.body.getD .skip)) (tlN 7 (Try.f3.body.getD .skip)) := by kernel_rfl
  have g7 : tlN 7 (Try.f3.body.getD .skip) = grp 1 (tlN 7 (Try.f3.body.getD .skip)) (tlN 8 (Try.f3.body.getD .skip)) := by kernel_rfl
  have g8 : tlN 8 (Try.f3.body.getD .skip) = grp 1 (tlN 8 (Try.f3.body.getD .skip)) (tlN 9 (Try.f3.body.getD .skip)) := by kernel_rfl
  have g9 : tlN 9 (Try.f3.body.getD .skip) = grp 1 (tlN 9 (Try.f3.body.getD .skip)) (tlN 10 (Try.f3.body.getD .skip)) := by kernel_rfl
  have g10 : tlN 10 (Try.f3.body.getD .skip) = grp 2 (tlN 10 (Try.f3.body.getD .skip)) (tlN 12 (Try.f3.body.getD .skip)) := by kernel_rfl
  have g12 : tlN 12 (Try.f3.body.getD .skip) = grp 2 (tlN 12 (Try.f3.body.getD .skip)) (tlN 14 (Try.f3.body.getD .skip)) := by kernel_rfl
  have g14 : tlN 14 (Try.f3.body.getD .skip) = grp 3 (tlN 14 (Try.f3.body.getD .skip)) (tlN 17 (Try.f3.body.getD .skip)) := by kernel_rfl
  show Code.wp Try.prog (Try.f3.body.getD .skip) (Q3 w) _ w
  rw [g0]
  refine head3 w _ k0 b3 css (by rfl) rfl (by exact h0) (by exact h1) (by rfl) _ fun n m k a w' D I => ?_
  rw [g5]
  refine made3 w w' a n m k b3 css D I _ fun B vs ps G a w' I => ?_
  rw [g7]
  refine whole3 w w' a n m k B b3 css vs ps G D I _ fun a w' I s9 s10 => ?_
  rw [g8]
  refine left3 w w' a n m k B b3 css vs ps G D ⟨I, s9, s10⟩ _ fun a w' I s11 s12 => ?_
  rw [g9]
  refine right3 w w' a n m k B b3 css vs ps G D ⟨I, s11, s12⟩ _ fun a w' I s13 s14 => ?_
  rw [g10]
  refine cmp3 w w' a n m k B b3 css vs ps G D I s13 s14 _ fun a w' I => ?_
  rw [g12]
  refine lasts3 w w' a n m k B b3 css vs G D I _ fun B ps G a w' I s16 hcc => ?_
  rw [g14]
  refine fin3 w w' a n m k B b3 css vs ps G D I s16 hcc _ fun a w' I => ?_
  exact last3 w w' a n m k B b3 css vs G D I

set_option maxRecDepth 100000 in
theorem lifted (os : Os) (started : os.Started) (H : Type) (enc : TypeId × Value → H) :
    ReturnsInHanded {} Try.checked os 3 .any (Rows.fnEndingAtCutsAndKeepsAllOrNoneSpec.pre6 enc Try.prog Try.f3 Rows.fnEndingAtCutsAndKeepsAllOrNoneRow.domain false) (Rows.fnEndingAtCutsAndKeepsAllOrNoneSpec.post enc Try.prog Try.f3 false true false false) := by
  refine returnsInHanded_of_change (C := Try.checked) own started (by kernel_rfl) Try.func3
    (ChangeSpec.witness6 (enc := enc) (C := Try.checked) false ⟨#[], #[.slice none 0 0, .slice none 0 0, .int .i64 0], []⟩ 8 (by kernel_rfl) (by kernel_rfl) (by kernel_rfl) (by kernel_rfl)) ?_
  intro W base args ds gs before hval0 hW hcnd _
  have hval : ∀ (j : Nat) t v, Try.f3.params[j]? = some t → args[j]? = some v → Value.okWide Try.prog W .any base t v := hval0
  have hW' := hW
  obtain ⟨p, q, hA0, hV, rfl, hfz, hnd⟩ := hW
  have hA : DataW.TrodAll enc Try.prog W 0 (fun _ => true) true Try.f3.params.toList args.toList ds p := hA0
  rw [Try.params3] at hA hval
  obtain ⟨v0, vs0, d0, ds0, p0, q0, hargs, rfl, rfl, h0, r0⟩ := trodAll_cons hA
  obtain ⟨v1, vs1, d1, ds1, p1, q1, rfl, rfl, rfl, h1, r1⟩ := trodAll_cons r0
  obtain ⟨v2, vs2, d2, ds2, p2, q2, rfl, rfl, rfl, h2, r2⟩ := trodAll_cons r1
  obtain ⟨rfl, rfl, rfl⟩ := trodAll_nil r2
  obtain rfl : args = #[v0, v1, v2] := by cases args; simp_all
  obtain ⟨rfl, rfl⟩ := trodVars_none hV
  obtain ⟨a0, len0, cap0, rfl⟩ := okWide_slice Try.underlying22 (hval 0 22 v0 rfl rfl)
  have k0 := h0
  have lt0 : ∀ x ∈ p0, x.block < W.heap.size := by obtain ⟨m, hm⟩ := k0; exact DataW.trod_lt m _ _ _ hm
  obtain ⟨b3, w0⟩ : ∃ b3, Strss W (.slice a0 len0 cap0) b3 := by
    obtain ⟨fuel, hf⟩ := h0
    exact strss_of fuel _ _ hf
  obtain ⟨a1, len1, cap1, rfl⟩ := okWide_slice Try.underlying23 (hval 1 23 v1 rfl rfl)
  have k1 := h1
  have lt1 : ∀ x ∈ p1, x.block < W.heap.size := by obtain ⟨m, hm⟩ := k1; exact DataW.trod_lt m _ _ _ hm
  obtain ⟨css, w1⟩ : ∃ css, Strs W (.slice a1 len1 cap1) css := by
    obtain ⟨fuel, hf⟩ := h1
    exact strs_of fuel _ _ hf
  obtain ⟨a2, rfl, rfl, rfl, w2⟩ := open_int Try.underlying3 (hval 2 3 v2 rfl rfl) h2
  clear hA0 hval0
  refine (walk (.slice a0 len0 cap0) (.slice a1 len1 cap1) a2 b3 css W w0 w1).mono fun e W' ⟨he, bel⟩ => ?_
  subst he
  exact ⟨_, rfl, _, _, _, [], _, [], hW', trodAll_mk1 (shut_bool Try.underlying4 _), (trodAll_cons_mk (Below.trod laidOut (by kernel_rfl) (of_decide_eq_true (by kernel_rfl)) k0 bel lt0) (trodAll_cons_mk (Below.trod laidOut (by kernel_rfl) (of_decide_eq_true (by kernel_rfl)) k1 bel lt1) (trodAll_cons_mk (shut_int Try.underlying3 w2) trodAll_mk0))), rfl, bel.frame _, fun h => by cases h⟩

theorem over : Rows.fnEndingAtCutsAndKeepsAllOrNoneRow.holds Try.pinned (OpenSpec.ofChange Rows.fnEndingAtCutsAndKeepsAllOrNoneSpec) :=
  OpenClaim.holds_of_wide 3 Try.f3 rfl rfl rfl rfl rfl rfl rfl ⟨rfl, rfl, rfl, rfl, rfl⟩ rfl rfl rfl rfl rfl (by kernel_rfl) Try.func3 (by kernel_rfl)
    (of_decide_eq_true (by kernel_rfl)) (by unfold Func.isWrapper; first | (rw [if_pos (by decide +kernel)]; kernel_rfl) | (rw [if_neg (by decide +kernel)]; exact ⟨rfl, rfl⟩))
    (fun os started H enc _ => lifted os started H enc)

/-- THE STATEMENT. -/
theorem proved : Rows.FnEndingAtCutsAndKeepsAllOrNoneSaid := over
end Go.Proofs.Qxb6615622a.fnEndingAtCutsAndKeepsAllOrNone
