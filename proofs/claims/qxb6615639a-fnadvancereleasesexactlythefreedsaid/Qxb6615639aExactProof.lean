/-
  'Rows.FnAdvanceReleasesExactlyTheFreedSaid', proved. The frame is after the guide's own (its proof skeleton); the walk is put together from the groups of statements in the other texts.
-/
import Derived.Test.Qxb6615639aRows
import Derived.Test.Qxb6615639aHead3
import Derived.Test.Qxb6615639aDups
import Derived.Test.Qxb6615639aLast3
import Derived.Test.Qxb6615639aView
import Derived.WalkKit
import Derived.ProofKit
import Derived.OpenShut
import Derived.ShutString
import Derived.ChangeOld
import Derived.Below
import Derived.Deep.Grids
namespace Go.Proofs.Qxb6615639a.fnAdvanceReleasesExactlyTheFreed
open Go.ChangeShapes Go.WideShapes Go.ChangeAt Go.RowKit
set_option linter.unusedVariables false
set_option linter.unusedSimpArgs false

theorem own : ownKnob Try.prog.godebug = none := by kernel_rfl
theorem laidOut : laidOutB Try.prog = true := by kernel_rfl

/-- A slice of bools that came in. -/
def IsRowB (w : World) (a : Option Addr) (len cap : Nat) (B : Nat → Bool) : Prop :=
  (a = none ∧ len = 0 ∧ cap = 0) ∨ ∃ x, a = some x ∧ len ≤ cap ∧ ∀ i, i < cap → w.cell? (x.add i) = some (.bool (B i))

theorem isRowB_view {w : World} {a : Option Addr} {len cap : Nat} {B : Nat → Bool} (h : IsRowB w a len cap B) : Hid (len = ((List.range len).map B).length) ∧ Row w a (bools ((List.range len).map B)) := by
  refine ⟨by show _ = _; simp, ?_⟩
  rcases h with ⟨rfl, rfl, rfl⟩ | ⟨x, rfl, hl, hc⟩
  · exact .inl rfl
  · by_cases h0 : len = 0
    · subst h0; exact .inl rfl
    · obtain ⟨b, off, spot⟩ := x
      have hspot : spot = none := by simpa [Addr.add] using World.cell?_spot (hc 0 (by omega))
      subst hspot
      have hc' : ∀ i, i < cap → w.cell? ⟨b, off + i, none⟩ = some (.bool (B i)) := fun i hi => by have := hc i hi; rwa [Addr.add_lit] at this
      refine .inr ⟨b, off, rfl, lt_of_cell (hc' 0 (by omega)), fun i u hu => ?_⟩
      have hi := at_lt hu
      rw [bools_length] at hi
      simp at hi
      rw [hc' i (by omega)]
      have e : (bools ((List.range len).map B))[i]? = some (.bool (B i)) := by simp [bools, hi]
      rw [e] at hu
      exact hu

set_option maxRecDepth 100000 in
set_option maxHeartbeats 1000000 in
theorem walk (a0 a1 a2 : Int) (a3 : Option Addr) (len3 cap3 : Nat) (z3 : List Int) (a4 : Option Addr) (len4 cap4 : Nat) (z4 : List Int) (a5 : Option Addr) (len5 cap5 : Nat) (z5 : List Int) (a6 : Option Addr) (len6 cap6 : Nat) (z6 : List Int) (a7 : Option Addr) (len7 cap7 : Nat) (z7 : List Int) (a8 : Option Addr) (len8 cap8 : Nat) (z8 : List Int) (a9 : Option Addr) (len9 cap9 : Nat) (z9 : Nat → Bool) (w : World) (w0 : (Lit.int .i64 a0).wf = true) (w1 : (Lit.int .i64 a1).wf = true) (w2 : (Lit.int .i64 a2).wf = true) (w3 : IsRow .i64 w a3 len3 cap3 z3) (w4 : IsRow .i64 w a4 len4 cap4 z4) (w5 : IsRow .i64 w a5 len5 cap5 z5) (w6 : IsRow .i64 w a6 len6 cap6 z6) (w7 : IsRow .i64 w a7 len7 cap7 z7) (w8 : IsRow .i64 w a8 len8 cap8 z8) (w9 : IsRowB w a9 len9 cap9 z9) :
    Calls Try.prog 3 #[.int .i64 a0, .int .i64 a1, .int .i64 a2, .slice a3 len3 cap3, .slice a4 len4 cap4, .slice a5 len5 cap5, .slice a6 len6 cap6, .slice a7 len7 cap7, .slice a8 len8 cap8, .slice a9 len9 cap9] w fun e w' => e = .returned (.bool true) ∧ Below w.heap.size w w' := by
  obtain ⟨e3, r3, t3⟩ := isRow_view w3
  obtain ⟨e4, r4, t4⟩ := isRow_view w4
  obtain ⟨e5, r5, t5⟩ := isRow_view w5
  obtain ⟨e6, r6, t6⟩ := isRow_view w6
  obtain ⟨e7, r7, t7⟩ := isRow_view w7
  obtain ⟨e8, r8, t8⟩ := isRow_view w8
  obtain ⟨e9, r9⟩ := isRowB_view w9
  refine calls_of_wp (c := Try.f3.body.getD .skip) Try.func3 (by kernel_rfl) ?_
  simp only [Try.ntmps3, List.size_toArray, List.length_cons, List.length_nil, Nat.reduceAdd, Nat.reduceSub, Array.replicate_succ, Array.replicate_zero, List.push_toArray, List.append_toArray, List.nil_append, List.cons_append]
  have g0 : Try.f3.body.getD .skip = grp 7 (tlN 0 (Try.f3.body.getD .skip)) (tlN 7 (Try.f3.body.getD .skip)) := by kernel_rfl
  have g7 : tlN 7 (Try.f3.body.getD .skip) = grp 1 (tlN 7 (Try.f3.body.getD .skip)) (tlN 8 (Try.f3.body.getD .skip)) := by kernel_rfl
  have g8 : tlN 8 (Try.f3.body.getD .skip) = grp 1 (tlN 8 (Try.f3.body.getD .skip)) (tlN 9 (Try.f3.body.getD .skip)) := by kernel_rfl
  have g9 : tlN 9 (Try.f3.body.getD .skip) = grp 1 (tlN 9 (Try.f3.body.getD .skip)) (tlN 10 (Try.f3.body.getD .skip)) := by kernel_rfl
  have g10 : tlN 10 (Try.f3.body.getD .skip) = grp 1 (tlN 10 (Try.f3.body.getD .skip)) (tlN 11 (Try.f3.body.getD .skip)) := by kernel_rfl
  have g11 : tlN 11 (Try.f3.body.getD .skip) = grp 1 (tlN 11 (Try.f3.body.getD .skip)) (tlN 12 (Try.f3.body.getD .skip)) := by kernel_rfl
  have g12 : tlN 12 (Try.f3.body.getD .skip) = grp 1 (tlN 12 (Try.f3.body.getD .skip)) (tlN 13 (Try.f3.body.getD .skip)) := by kernel_rfl
  have g13 : tlN 13 (Try.f3.body.getD .skip) = grp 1 (tlN 13 (Try.f3.body.getD .skip)) (tlN 14 (Try.f3.body.getD .skip)) := by kernel_rfl
  have g14 : tlN 14 (Try.f3.body.getD .skip) = grp 5 (tlN 14 (Try.f3.body.getD .skip)) (tlN 19 (Try.f3.body.getD .skip)) := by kernel_rfl
  have g19 : tlN 19 (Try.f3.body.getD .skip) = grp 7 (tlN 19 (Try.f3.body.getD .skip)) (tlN 26 (Try.f3.body.getD .skip)) := by kernel_rfl
  show Code.wp Try.prog (Try.f3.body.getD .skip) (Q3 w) _ w
  rw [g0]
  refine head3 w _ a0 a1 a2 a3 a4 a5 a6 a7 a8 a9 cap3 cap4 cap5 cap6 cap7 cap8 cap9 len3 len4 len5 len6 len7 len8 len9 (z3.take len3) (z4.take len4) (z5.take len5) (z6.take len6) (z7.take len7) (z8.take len8) ((List.range len9).map z9) e3 e4 e5 e6 e7 e8 e9 r3 r4 r5 r6 r7 r8 r9 (fun q x h => t6 q x h) (bounds_i64 w1).1 (bounds_i64 w2).2 (by rfl) rfl (by rfl) (by rfl) (by rfl) (by rfl) (by rfl) (by rfl) (by rfl) (by rfl) (by rfl) (by rfl) _ ?_
  intro first second cleared a w' D i
  rw [g7]
  refine dup3 w w' a first second cleared _ _ _ _ _ _ _ _ _ _ D i _ fun a w' i => ?_
  rw [g8]
  refine dup4 w w' a first second cleared _ _ _ _ _ _ _ _ _ _ D i _ fun a w' i => ?_
  rw [g9]
  refine dup5 w w' a first second cleared _ _ _ _ _ _ _ _ _ _ D i _ fun a w' i => ?_
  rw [g10]
  refine dup6 w w' a first second cleared _ _ _ _ _ _ _ _ _ _ D i _ fun a w' i => ?_
  rw [g11]
  refine dup7 w w' a first second cleared _ _ _ _ _ _ _ _ _ _ D i _ fun a w' i => ?_
  rw [g12]
  refine dup8 w w' a first second cleared _ _ _ _ _ _ _ _ _ _ D i _ fun a w' i => ?_
  rw [g13]
  refine dup9 w w' a first second cleared _ _ _ _ _ _ _ _ _ _ D i _ fun a w' i => ?_
  rw [g14]
  refine call3 w w' a first second cleared _ _ _ _ _ _ _ _ _ _ D i _ fun f s c u1 u2 rel a w' i => ?_
  rw [g19]
  refine count3 w w' a first second cleared _ _ _ _ _ _ _ _ _ _ f s c u1 u2 rel D i _ fun a w' i => ?_
  exact last3 w w' a first second cleared _ _ _ _ _ _ _ _ _ _ f s c rel D i

set_option maxRecDepth 100000 in
theorem lifted (os : Os) (started : os.Started) (H : Type) (enc : TypeId × Value → H) :
    ReturnsInHanded {} Try.checked os 3 .any (Rows.fnAdvanceReleasesExactlyTheFreedSpec.pre6 enc Try.prog Try.f3 Rows.fnAdvanceReleasesExactlyTheFreedRow.domain false) (Rows.fnAdvanceReleasesExactlyTheFreedSpec.post enc Try.prog Try.f3 false true false false) := by
  refine returnsInHanded_of_change (C := Try.checked) own started (by kernel_rfl) Try.func3
    (ChangeSpec.witness6 (enc := enc) (C := Try.checked) false ⟨#[], #[.int .i64 0, .int .i64 0, .int .i64 0, .slice none 0 0, .slice none 0 0, .slice none 0 0, .slice none 0 0, .slice none 0 0, .slice none 0 0, .slice none 0 0], []⟩ 8 (by kernel_rfl) (by kernel_rfl) (by kernel_rfl) (by kernel_rfl)) ?_
  intro W base args ds gs before hval0 hW hcnd _
  have hval : ∀ (j : Nat) t v, Try.f3.params[j]? = some t → args[j]? = some v → Value.okWide Try.prog W .any base t v := hval0
  have hW' := hW
  obtain ⟨p, q, hA0, hV, rfl, hfz, hnd⟩ := hW
  have hA : DataW.TrodAll enc Try.prog W 0 (fun _ => true) true Try.f3.params.toList args.toList ds p := hA0
  rw [Try.params3] at hA hval
  obtain ⟨v0, vs0, d0, ds0, p0, q0, hargs, rfl, rfl, h0, r0⟩ := trodAll_cons hA
  obtain ⟨v1, vs1, d1, ds1, p1, q1, rfl, rfl, rfl, h1, r1⟩ := trodAll_cons r0
  obtain ⟨v2, vs2, d2, ds2, p2, q2, rfl, rfl, rfl, h2, r2⟩ := trodAll_cons r1
  obtain ⟨v3, vs3, d3, ds3, p3, q3, rfl, rfl, rfl, h3, r3⟩ := trodAll_cons r2
  obtain ⟨v4, vs4, d4, ds4, p4, q4, rfl, rfl, rfl, h4, r4⟩ := trodAll_cons r3
  obtain ⟨v5, vs5, d5, ds5, p5, q5, rfl, rfl, rfl, h5, r5⟩ := trodAll_cons r4
  obtain ⟨v6, vs6, d6, ds6, p6, q6, rfl, rfl, rfl, h6, r6⟩ := trodAll_cons r5
  obtain ⟨v7, vs7, d7, ds7, p7, q7, rfl, rfl, rfl, h7, r7⟩ := trodAll_cons r6
  obtain ⟨v8, vs8, d8, ds8, p8, q8, rfl, rfl, rfl, h8, r8⟩ := trodAll_cons r7
  obtain ⟨v9, vs9, d9, ds9, p9, q9, rfl, rfl, rfl, h9, r9⟩ := trodAll_cons r8
  obtain ⟨rfl, rfl, rfl⟩ := trodAll_nil r9
  obtain rfl : args = #[v0, v1, v2, v3, v4, v5, v6, v7, v8, v9] := by cases args; simp_all
  obtain ⟨rfl, rfl⟩ := trodVars_none hV
  obtain ⟨a0, rfl, rfl, rfl, w0⟩ := open_int Try.underlying3 (hval 0 3 v0 rfl rfl) h0
  obtain ⟨a1, rfl, rfl, rfl, w1⟩ := open_int Try.underlying3 (hval 1 3 v1 rfl rfl) h1
  obtain ⟨a2, rfl, rfl, rfl, w2⟩ := open_int Try.underlying3 (hval 2 3 v2 rfl rfl) h2
  obtain ⟨a3, len3, cap3, rfl⟩ := okWide_slice Try.underlying22 (hval 3 22 v3 rfl rfl)
  have k3 := h3
  have lt3 : ∀ x ∈ p3, x.block < W.heap.size := by obtain ⟨m, hm⟩ := k3; exact DataW.trod_lt m _ _ _ hm
  obtain ⟨z3, w3⟩ : ∃ zs, IsRow .i64 W a3 len3 cap3 zs := by
    obtain ⟨fuel, hf⟩ := h3
    rcases open_ints Try.underlying22 Try.underlying3 (by kernel_rfl) hf with ⟨hcs, _⟩ | ⟨x, l, c, zs, hcs, _, hl, hm, hz, _, hcell, hwz⟩
    · simp [Value.cells] at hcs
      obtain ⟨rfl, rfl, rfl⟩ := hcs
      exact ⟨[], .inl ⟨rfl, rfl, rfl, rfl⟩⟩
    · simp [Value.cells] at hcs
      obtain ⟨rfl, rfl, rfl⟩ := hcs
      exact ⟨zs, .inr ⟨_, rfl, hl, hm, by simpa using hz, hcell, hwz⟩⟩
  obtain ⟨a4, len4, cap4, rfl⟩ := okWide_slice Try.underlying22 (hval 4 22 v4 rfl rfl)
  have k4 := h4
  have lt4 : ∀ x ∈ p4, x.block < W.heap.size := by obtain ⟨m, hm⟩ := k4; exact DataW.trod_lt m _ _ _ hm
  obtain ⟨z4, w4⟩ : ∃ zs, IsRow .i64 W a4 len4 cap4 zs := by
    obtain ⟨fuel, hf⟩ := h4
    rcases open_ints Try.underlying22 Try.underlying3 (by kernel_rfl) hf with ⟨hcs, _⟩ | ⟨x, l, c, zs, hcs, _, hl, hm, hz, _, hcell, hwz⟩
    · simp [Value.cells] at hcs
      obtain ⟨rfl, rfl, rfl⟩ := hcs
      exact ⟨[], .inl ⟨rfl, rfl, rfl, rfl⟩⟩
    · simp [Value.cells] at hcs
      obtain ⟨rfl, rfl, rfl⟩ := hcs
      exact ⟨zs, .inr ⟨_, rfl, hl, hm, by simpa using hz, hcell, hwz⟩⟩
  obtain ⟨a5, len5, cap5, rfl⟩ := okWide_slice Try.underlying22 (hval 5 22 v5 rfl rfl)
  have k5 := h5
  have lt5 : ∀ x ∈ p5, x.block < W.heap.size := by obtain ⟨m, hm⟩ := k5; exact DataW.trod_lt m _ _ _ hm
  obtain ⟨z5, w5⟩ : ∃ zs, IsRow .i64 W a5 len5 cap5 zs := by
    obtain ⟨fuel, hf⟩ := h5
    rcases open_ints Try.underlying22 Try.underlying3 (by kernel_rfl) hf with ⟨hcs, _⟩ | ⟨x, l, c, zs, hcs, _, hl, hm, hz, _, hcell, hwz⟩
    · simp [Value.cells] at hcs
      obtain ⟨rfl, rfl, rfl⟩ := hcs
      exact ⟨[], .inl ⟨rfl, rfl, rfl, rfl⟩⟩
    · simp [Value.cells] at hcs
      obtain ⟨rfl, rfl, rfl⟩ := hcs
      exact ⟨zs, .inr ⟨_, rfl, hl, hm, by simpa using hz, hcell, hwz⟩⟩
  obtain ⟨a6, len6, cap6, rfl⟩ := okWide_slice Try.underlying22 (hval 6 22 v6 rfl rfl)
  have k6 := h6
  have lt6 : ∀ x ∈ p6, x.block < W.heap.size := by obtain ⟨m, hm⟩ := k6; exact DataW.trod_lt m _ _ _ hm
  obtain ⟨z6, w6⟩ : ∃ zs, IsRow .i64 W a6 len6 cap6 zs := by
    obtain ⟨fuel, hf⟩ := h6
    rcases open_ints Try.underlying22 Try.underlying3 (by kernel_rfl) hf with ⟨hcs, _⟩ | ⟨x, l, c, zs, hcs, _, hl, hm, hz, _, hcell, hwz⟩
    · simp [Value.cells] at hcs
      obtain ⟨rfl, rfl, rfl⟩ := hcs
      exact ⟨[], .inl ⟨rfl, rfl, rfl, rfl⟩⟩
    · simp [Value.cells] at hcs
      obtain ⟨rfl, rfl, rfl⟩ := hcs
      exact ⟨zs, .inr ⟨_, rfl, hl, hm, by simpa using hz, hcell, hwz⟩⟩
  obtain ⟨a7, len7, cap7, rfl⟩ := okWide_slice Try.underlying22 (hval 7 22 v7 rfl rfl)
  have k7 := h7
  have lt7 : ∀ x ∈ p7, x.block < W.heap.size := by obtain ⟨m, hm⟩ := k7; exact DataW.trod_lt m _ _ _ hm
  obtain ⟨z7, w7⟩ : ∃ zs, IsRow .i64 W a7 len7 cap7 zs := by
    obtain ⟨fuel, hf⟩ := h7
    rcases open_ints Try.underlying22 Try.underlying3 (by kernel_rfl) hf with ⟨hcs, _⟩ | ⟨x, l, c, zs, hcs, _, hl, hm, hz, _, hcell, hwz⟩
    · simp [Value.cells] at hcs
      obtain ⟨rfl, rfl, rfl⟩ := hcs
      exact ⟨[], .inl ⟨rfl, rfl, rfl, rfl⟩⟩
    · simp [Value.cells] at hcs
      obtain ⟨rfl, rfl, rfl⟩ := hcs
      exact ⟨zs, .inr ⟨_, rfl, hl, hm, by simpa using hz, hcell, hwz⟩⟩
  obtain ⟨a8, len8, cap8, rfl⟩ := okWide_slice Try.underlying22 (hval 8 22 v8 rfl rfl)
  have k8 := h8
  have lt8 : ∀ x ∈ p8, x.block < W.heap.size := by obtain ⟨m, hm⟩ := k8; exact DataW.trod_lt m _ _ _ hm
  obtain ⟨z8, w8⟩ : ∃ zs, IsRow .i64 W a8 len8 cap8 zs := by
    obtain ⟨fuel, hf⟩ := h8
    rcases open_ints Try.underlying22 Try.underlying3 (by kernel_rfl) hf with ⟨hcs, _⟩ | ⟨x, l, c, zs, hcs, _, hl, hm, hz, _, hcell, hwz⟩
    · simp [Value.cells] at hcs
      obtain ⟨rfl, rfl, rfl⟩ := hcs
      exact ⟨[], .inl ⟨rfl, rfl, rfl, rfl⟩⟩
    · simp [Value.cells] at hcs
      obtain ⟨rfl, rfl, rfl⟩ := hcs
      exact ⟨zs, .inr ⟨_, rfl, hl, hm, by simpa using hz, hcell, hwz⟩⟩
  obtain ⟨a9, len9, cap9, rfl⟩ := okWide_slice Try.underlying23 (hval 9 23 v9 rfl rfl)
  have k9 := h9
  have lt9 : ∀ x ∈ p9, x.block < W.heap.size := by obtain ⟨m, hm⟩ := k9; exact DataW.trod_lt m _ _ _ hm
  obtain ⟨z9, w9⟩ : ∃ B, IsRowB W a9 len9 cap9 B := by
    obtain ⟨fuel, hf⟩ := h9
    rcases Go.Deep.open_bools Try.underlying23 Try.underlying4 (by kernel_rfl) hf with ⟨hcs, _⟩ | ⟨x, l, c, B, hcs, _, hl, hm, _, hcell⟩
    · simp [Value.cells] at hcs
      obtain ⟨rfl, rfl, rfl⟩ := hcs
      exact ⟨fun _ => false, .inl ⟨rfl, rfl, rfl⟩⟩
    · simp [Value.cells] at hcs
      obtain ⟨rfl, rfl, rfl⟩ := hcs
      exact ⟨B, .inr ⟨_, rfl, hl, hcell⟩⟩
  clear hA0 hval0
  refine (walk a0 a1 a2 a3 len3 cap3 z3 a4 len4 cap4 z4 a5 len5 cap5 z5 a6 len6 cap6 z6 a7 len7 cap7 z7 a8 len8 cap8 z8 a9 len9 cap9 z9 W w0 w1 w2 w3 w4 w5 w6 w7 w8 w9).mono fun e W' ⟨he, bel⟩ => ?_
  subst he
  exact ⟨_, rfl, _, _, _, [], _, [], hW', trodAll_mk1 (shut_bool Try.underlying4 _), (trodAll_cons_mk (shut_int Try.underlying3 w0) (trodAll_cons_mk (shut_int Try.underlying3 w1) (trodAll_cons_mk (shut_int Try.underlying3 w2) (trodAll_cons_mk (Below.trod laidOut (by kernel_rfl) (of_decide_eq_true (by kernel_rfl)) k3 bel lt3) (trodAll_cons_mk (Below.trod laidOut (by kernel_rfl) (of_decide_eq_true (by kernel_rfl)) k4 bel lt4) (trodAll_cons_mk (Below.trod laidOut (by kernel_rfl) (of_decide_eq_true (by kernel_rfl)) k5 bel lt5) (trodAll_cons_mk (Below.trod laidOut (by kernel_rfl) (of_decide_eq_true (by kernel_rfl)) k6 bel lt6) (trodAll_cons_mk (Below.trod laidOut (by kernel_rfl) (of_decide_eq_true (by kernel_rfl)) k7 bel lt7) (trodAll_cons_mk (Below.trod laidOut (by kernel_rfl) (of_decide_eq_true (by kernel_rfl)) k8 bel lt8) (trodAll_cons_mk (Below.trod laidOut (by kernel_rfl) (of_decide_eq_true (by kernel_rfl)) k9 bel lt9) trodAll_mk0)))))))))), rfl, bel.frame _, fun h => by cases h⟩

theorem over : Rows.fnAdvanceReleasesExactlyTheFreedRow.holds Try.pinned (OpenSpec.ofChange Rows.fnAdvanceReleasesExactlyTheFreedSpec) :=
  OpenClaim.holds_of_wide 3 Try.f3 rfl rfl rfl rfl rfl rfl rfl ⟨rfl, rfl, rfl, rfl, rfl⟩ rfl rfl rfl rfl rfl (by kernel_rfl) Try.func3 (by kernel_rfl)
    (of_decide_eq_true (by kernel_rfl)) (by unfold Func.isWrapper; first | (rw [if_pos (by decide +kernel)]; kernel_rfl) | (rw [if_neg (by decide +kernel)]; exact ⟨rfl, rfl⟩))
    (fun os started H enc _ => lifted os started H enc)

/-- THE STATEMENT. -/
theorem proved : Rows.FnAdvanceReleasesExactlyTheFreedSaid := over
end Go.Proofs.Qxb6615639a.fnAdvanceReleasesExactlyTheFreed
