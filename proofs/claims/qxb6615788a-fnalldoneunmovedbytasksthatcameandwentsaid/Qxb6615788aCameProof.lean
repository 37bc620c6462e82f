/-
  'Rows.FnAllDoneUnmovedByTasksThatCameAndWentSaid', proved. The frame is the seat's own shell; the walk is put together from the groups of statements in the other texts.
-/
import Derived.Test.Qxb6615788aRows
import Derived.WalkKit
import Derived.ProofKit
import Derived.OpenShut
import Derived.ShutString
import Derived.ChangeOld
import Derived.Below
import Derived.Test.Qxb6615788aEnd
namespace Go.Proofs.Qxb6615788a.fnAllDoneUnmovedByTasksThatCameAndWent
open Go.ChangeShapes Go.WideShapes Go.ChangeAt Go.RowKit
open Go.ChangeMaps (open_string shut_string)
set_option linter.unusedVariables false
set_option linter.unusedSimpArgs false

theorem own : ownKnob Try.prog.godebug = none := by kernel_rfl
theorem laidOut : laidOutB Try.prog = true := by kernel_rfl

/-- WHAT THE WALK IS TOLD OF A SLICE OF INTEGERS THAT CAME IN: it is nil; or it leads to a row of 'cap' cells, the numbers 'zs' (the first 'len' are its elements, the rest its spare room), each fitting its kind. -/
def IsRow (k : IntKind) (w : World) (a : Option Addr) (len cap : Nat) (zs : List Int) : Prop :=
  (a = none ∧ len = 0 ∧ cap = 0 ∧ zs = []) ∨
  ∃ x, a = some x ∧ len ≤ cap ∧ cap ≤ maxLen ∧ zs.length = cap ∧ (∀ i, i < zs.length → w.cell? (x.add i) = some (.int k (zs.getD i 0))) ∧ ∀ n ∈ zs, (Lit.int k n).wf = true

theorem fit_u64 {n : Int} (h : (Lit.int .u64 n).wf = true) : 0 ≤ n ∧ n ≤ 18446744073709551615 := bounds_u64 h

theorem isRow_view {w : World} {a : Option Addr} {len cap : Nat} {zs : List Int} (h : IsRow .u64 w a len cap zs) : Hid (len = (zs.take len).length) ∧ Row w a (u64s (zs.take len)) ∧ Hid (Fits (zs.take len)) := by
  rcases h with ⟨rfl, rfl, rfl, rfl⟩ | ⟨x, rfl, hl, hm, hz, hc, hw⟩
  · exact ⟨rfl, .inl rfl, fun q x h => by simp at h⟩
  · refine ⟨by show _ = _; simp; omega, ?_, fun q y h => ?_⟩
    · by_cases h0 : len = 0
      · subst h0; exact .inl rfl
      · obtain ⟨b, off, spot⟩ := x
        have hspot : spot = none := by simpa [Addr.add] using World.cell?_spot (hc 0 (by omega))
        subst hspot
        have hc' : ∀ i, i < zs.length → w.cell? ⟨b, off + i, none⟩ = some (.int .u64 (zs.getD i 0)) := fun i hi => by have := hc i hi; rwa [Addr.add_lit] at this
        refine .inr ⟨b, off, rfl, lt_of_cell (hc' 0 (by omega)), fun i u hu => ?_⟩
        have hi := at_lt hu
        rw [u64s_length] at hi
        simp at hi
        rw [hc' i (by omega)]
        have e : (u64s (zs.take len))[i]? = some (.int .u64 (zs.getD i 0)) := by
          have hi2 : i < zs.length := by omega
          simp [u64s, show i < len by omega, hi2]
        rw [e] at hu
        exact hu
    · have hy : y ∈ zs := List.mem_of_mem_take (List.mem_of_getElem? h)
      exact fit_u64 (hw y hy)

set_option maxRecDepth 100000 in
set_option maxHeartbeats 1000000 in
theorem walk (a0 : Int) (a1 : Option Addr) (len1 cap1 : Nat) (z1 : List Int) (a2 : Option Addr) (len2 cap2 : Nat) (z2 : List Int) (a3 : Int) (a4 : Int) (a5 : Int) (w : World) (w0 : (Lit.int .u64 a0).wf = true) (w1 : IsRow .u64 w a1 len1 cap1 z1) (w2 : IsRow .u64 w a2 len2 cap2 z2) (w3 : (Lit.int .i64 a3).wf = true) (w4 : (Lit.int .i64 a4).wf = true) (w5 : (Lit.int .u64 a5).wf = true) :
    Calls Try.prog 4 #[.int .u64 a0, .slice a1 len1 cap1, .slice a2 len2 cap2, .int .i64 a3, .int .i64 a4, .int .u64 a5] w fun e w' => e = .returned (.bool true) ∧ Below w.heap.size w w' := by
  obtain ⟨e1, r1, f1⟩ := isRow_view w1
  obtain ⟨e2, r2, f2⟩ := isRow_view w2
  obtain ⟨h0, h1⟩ := fit_u64 w0
  obtain ⟨k0, k1⟩ := fit_u64 w5
  refine calls_of_wp (c := Try.f4.body.getD .skip) Try.func4 (by kernel_rfl) ?_
  simp only [Try.ntmps4, List.size_toArray, List.length_cons, List.length_nil, Nat.reduceAdd, Nat.reduceSub, Array.replicate_succ, Array.replicate_zero, List.push_toArray, List.append_toArray, List.nil_append, List.cons_append]
  have g0 : Try.f4.body.getD .skip = grp 4 (tlN 0 (Try.f4.body.getD .skip)) (tlN 4 (Try.f4.body.getD .skip)) := by kernel_rfl
  have g4 : tlN 4 (Try.f4.body.getD .skip) = grp 1 (tlN 4 (Try.f4.body.getD .skip)) (tlN 5 (Try.f4.body.getD .skip)) := by kernel_rfl
  have g5 : tlN 5 (Try.f4.body.getD .skip) = grp 1 (tlN 5 (Try.f4.body.getD .skip)) (tlN 6 (Try.f4.body.getD .skip)) := by kernel_rfl
  have g6 : tlN 6 (Try.f4.body.getD .skip) = grp 3 (tlN 6 (Try.f4.body.getD .skip)) (tlN 9 (Try.f4.body.getD .skip)) := by kernel_rfl
  have g9 : tlN 9 (Try.f4.body.getD .skip) = grp 3 (tlN 9 (Try.f4.body.getD .skip)) (tlN 12 (Try.f4.body.getD .skip)) := by kernel_rfl
  have g12 : tlN 12 (Try.f4.body.getD .skip) = grp 3 (tlN 12 (Try.f4.body.getD .skip)) (tlN 15 (Try.f4.body.getD .skip)) := by kernel_rfl
  have g15 : tlN 15 (Try.f4.body.getD .skip) = grp 1 (tlN 15 (Try.f4.body.getD .skip)) (tlN 16 (Try.f4.body.getD .skip)) := by kernel_rfl
  have g16 : tlN 16 (Try.f4.body.getD .skip) = grp 1 (tlN 16 (Try.f4.body.getD .skip)) (tlN 17 (Try.f4.body.getD .skip)) := by kernel_rfl
  have g17 : tlN 17 (Try.f4.body.getD .skip) = grp 1 (tlN 17 (Try.f4.body.getD .skip)) (tlN 18 (Try.f4.body.getD .skip)) := by kernel_rfl
  show Code.wp Try.prog (Try.f4.body.getD .skip) (Q4 w) _ w
  rw [g0]
  refine head4 w _ a0 a5 a3 a4 a1 a2 cap1 cap2 len1 len2 (z1.take len1) (z2.take len2) e1 e2 r1 r2 f1 f2 h0 h1 k0 k1 (by rfl) rfl (by rfl) (by rfl) (by rfl) (by rfl) (by rfl) (by rfl) _ fun i j n a w' D I => ?_
  rw [g4]
  refine dup1 w w' a a0 a5 i j n _ _ D I _ fun a w' I => ?_
  rw [g5]
  refine dup2 w w' a a0 a5 i j n _ _ D I _ fun a w' I => ?_
  rw [g6]
  refine tots4 w w' a a0 a5 i j n _ _ D I _ fun a w' T I s18 => ?_
  rw [g9]
  refine more1 w w' a a0 a5 i j n _ _ D T I s18 _ fun xs2 a w' M1 I s18 s19 => ?_
  rw [g12]
  refine more2 w w' a a0 a5 i j n _ _ D T xs2 I s18 s19 _ fun ys2 a w' M2 I s18 s19 s20 => ?_
  have sk := T.sk
  have fs := T.fs
  have t1 := M1.tot
  have t2 := M2.tot
  have k0 := D.k0
  rw [g15]
  refine before4 w w' a a0 a5 n _ _ xs2 ys2 D.ex D.ey D.ln D.h0 D.fx D.fy (show _ ≤ _ by omega) (show _ ≤ _ by omega) ⟨I.sz, I.df, I.s0, I.s1, I.s2, I.s5, s18, s19, s20, I.b⟩ _ fun a w' I s21 => ?_
  rw [g16]
  refine only4 w w' a a0 a5 n _ _ xs2 ys2 M1.len D.ey D.ln D.h0 M1.fits D.fy (show _ ≤ _ by omega) (show _ ≤ _ by omega) I s21 _ fun a w' I s21 s22 => ?_
  rw [g17]
  refine went4 w w' a a0 a5 n _ _ xs2 ys2 M1.len M2.len D.ln D.h0 M1.fits M2.fits (show _ ≤ _ by omega) (show _ ≤ _ by omega) I s21 s22 _ fun a w' I s21 s22 s23 => ?_
  exact end4 w w' a a0 a5 n _ _ xs2 ys2 D.k0 T M1 M2 I s21 s22 s23

set_option maxRecDepth 100000 in
theorem lifted (os : Os) (started : os.Started) (H : Type) (enc : TypeId × Value → H) :
    ReturnsInHanded {} Try.checked os 4 .any (Rows.fnAllDoneUnmovedByTasksThatCameAndWentSpec.pre6 enc Try.prog Try.f4 Rows.fnAllDoneUnmovedByTasksThatCameAndWentRow.domain false) (Rows.fnAllDoneUnmovedByTasksThatCameAndWentSpec.post enc Try.prog Try.f4 false true false false) := by
  refine returnsInHanded_of_change (C := Try.checked) own started (by kernel_rfl) Try.func4
    (ChangeSpec.witness6 (enc := enc) (C := Try.checked) false ⟨#[], #[.int .u64 0, .slice none 0 0, .slice none 0 0, .int .i64 0, .int .i64 0, .int .u64 0], []⟩ 8 (by kernel_rfl) (by kernel_rfl) (by kernel_rfl) (by kernel_rfl)) ?_
  intro W base args ds gs before hval0 hW hcnd _
  have hval : ∀ (j : Nat) t v, Try.f4.params[j]? = some t → args[j]? = some v → Value.okWide Try.prog W .any base t v := hval0
  have hW' := hW
  obtain ⟨p, q, hA0, hV, rfl, hfz, hnd⟩ := hW
  have hA : DataW.TrodAll enc Try.prog W 0 (fun _ => true) true Try.f4.params.toList args.toList ds p := hA0
  rw [Try.params4] at hA hval
  obtain ⟨v0, vs0, d0, ds0, p0, q0, hargs, rfl, rfl, h0, r0⟩ := trodAll_cons hA
  obtain ⟨v1, vs1, d1, ds1, p1, q1, rfl, rfl, rfl, h1, r1⟩ := trodAll_cons r0
  obtain ⟨v2, vs2, d2, ds2, p2, q2, rfl, rfl, rfl, h2, r2⟩ := trodAll_cons r1
  obtain ⟨v3, vs3, d3, ds3, p3, q3, rfl, rfl, rfl, h3, r3⟩ := trodAll_cons r2
  obtain ⟨v4, vs4, d4, ds4, p4, q4, rfl, rfl, rfl, h4, r4⟩ := trodAll_cons r3
  obtain ⟨v5, vs5, d5, ds5, p5, q5, rfl, rfl, rfl, h5, r5⟩ := trodAll_cons r4
  obtain ⟨rfl, rfl, rfl⟩ := trodAll_nil r5
  obtain rfl : args = #[v0, v1, v2, v3, v4, v5] := by cases args; simp_all
  obtain ⟨rfl, rfl⟩ := trodVars_none hV
  obtain ⟨a0, rfl, rfl, rfl, w0⟩ := open_int Try.underlying22 (hval 0 22 v0 rfl rfl) h0
  obtain ⟨a1, len1, cap1, rfl⟩ := okWide_slice Try.underlying23 (hval 1 23 v1 rfl rfl)
  have k1 := h1
  have lt1 : ∀ x ∈ p1, x.block < W.heap.size := by obtain ⟨m, hm⟩ := k1; exact DataW.trod_lt m _ _ _ hm
  obtain ⟨z1, w1⟩ : ∃ zs, IsRow .u64 W a1 len1 cap1 zs := by
    obtain ⟨fuel, hf⟩ := h1
    rcases open_ints Try.underlying23 Try.underlying22 (by kernel_rfl) hf with ⟨hcs, _⟩ | ⟨x, l, c, zs, hcs, _, hl, hm, hz, _, hcell, hwz⟩
    · simp [Value.cells] at hcs
      obtain ⟨rfl, rfl, rfl⟩ := hcs
      exact ⟨[], .inl ⟨rfl, rfl, rfl, rfl⟩⟩
    · simp [Value.cells] at hcs
      obtain ⟨rfl, rfl, rfl⟩ := hcs
      exact ⟨zs, .inr ⟨_, rfl, hl, hm, by simpa using hz, hcell, hwz⟩⟩
  obtain ⟨a2, len2, cap2, rfl⟩ := okWide_slice Try.underlying23 (hval 2 23 v2 rfl rfl)
  have k2 := h2
  have lt2 : ∀ x ∈ p2, x.block < W.heap.size := by obtain ⟨m, hm⟩ := k2; exact DataW.trod_lt m _ _ _ hm
  obtain ⟨z2, w2⟩ : ∃ zs, IsRow .u64 W a2 len2 cap2 zs := by
    obtain ⟨fuel, hf⟩ := h2
    rcases open_ints Try.underlying23 Try.underlying22 (by kernel_rfl) hf with ⟨hcs, _⟩ | ⟨x, l, c, zs, hcs, _, hl, hm, hz, _, hcell, hwz⟩
    · simp [Value.cells] at hcs
      obtain ⟨rfl, rfl, rfl⟩ := hcs
      exact ⟨[], .inl ⟨rfl, rfl, rfl, rfl⟩⟩
    · simp [Value.cells] at hcs
      obtain ⟨rfl, rfl, rfl⟩ := hcs
      exact ⟨zs, .inr ⟨_, rfl, hl, hm, by simpa using hz, hcell, hwz⟩⟩
  obtain ⟨a3, rfl, rfl, rfl, w3⟩ := open_int Try.underlying3 (hval 3 3 v3 rfl rfl) h3
  obtain ⟨a4, rfl, rfl, rfl, w4⟩ := open_int Try.underlying3 (hval 4 3 v4 rfl rfl) h4
  obtain ⟨a5, rfl, rfl, rfl, w5⟩ := open_int Try.underlying22 (hval 5 22 v5 rfl rfl) h5
  clear hA0 hval0
  refine (walk a0 a1 len1 cap1 z1 a2 len2 cap2 z2 a3 a4 a5 W w0 w1 w2 w3 w4 w5).mono fun e W' ⟨he, bel⟩ => ?_
  subst he
  exact ⟨_, rfl, _, _, _, [], _, [], hW', trodAll_mk1 (shut_bool Try.underlying4 _), (trodAll_cons_mk (shut_int Try.underlying22 w0) (trodAll_cons_mk (Below.trod laidOut (by kernel_rfl) (of_decide_eq_true (by kernel_rfl)) k1 bel lt1) (trodAll_cons_mk (Below.trod laidOut (by kernel_rfl) (of_decide_eq_true (by kernel_rfl)) k2 bel lt2) (trodAll_cons_mk (shut_int Try.underlying3 w3) (trodAll_cons_mk (shut_int Try.underlying3 w4) (trodAll_cons_mk (shut_int Try.underlying22 w5) trodAll_mk0)))))), rfl, bel.frame _, fun h => by cases h⟩

theorem over : Rows.fnAllDoneUnmovedByTasksThatCameAndWentRow.holds Try.pinned (OpenSpec.ofChange Rows.fnAllDoneUnmovedByTasksThatCameAndWentSpec) :=
  OpenClaim.holds_of_wide 4 Try.f4 rfl rfl rfl rfl rfl rfl rfl ⟨rfl, rfl, rfl, rfl, rfl⟩ rfl rfl rfl rfl rfl (by kernel_rfl) Try.func4 (by kernel_rfl)
    (of_decide_eq_true (by kernel_rfl)) (by unfold Func.isWrapper; first | (rw [if_pos (by decide +kernel)]; kernel_rfl) | (rw [if_neg (by decide +kernel)]; exact ⟨rfl, rfl⟩))
    (fun os started H enc _ => lifted os started H enc)

/-- THE STATEMENT. -/
theorem proved : Rows.FnAllDoneUnmovedByTasksThatCameAndWentSaid := over
end Go.Proofs.Qxb6615788a.fnAllDoneUnmovedByTasksThatCameAndWent
