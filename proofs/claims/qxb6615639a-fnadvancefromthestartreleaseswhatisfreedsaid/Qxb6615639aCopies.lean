import Derived.Test.Qxb6615639aParts
namespace Go.Proofs.Qxb6615639a
set_option linter.unusedVariables false
set_option linter.unusedSimpArgs false
open Go.RowKit

set_option maxRecDepth 100000 in
set_option maxHeartbeats 1000000 in
theorem copy1 (w0 wx : World) (a : Act) (n n1 n4 n7 : Nat) (fAt fTxn fMate lAt lTxn lMate order : List Int) (D : Dom n n1 n4 n7 fAt fTxn fMate lAt lTxn lMate order) (h : InvA w0 wx a n n1 n4 n7 fAt fTxn fMate lAt lTxn lMate order)
    (rest : Code) (hrest : ∀ a' w', InvA w0 w' a' n n1 n4 n7 fAt fTxn fMate lAt lTxn lMate order → rest.wp Try.prog (Q4 w0) a' w') : (grp 1 (tlN 7 (Try.f4.body.getD .skip)) rest).wp Try.prog (Q4 w0) a wx := by
  obtain ⟨u, hu, ha⟩ := frame4 a h.sz h.df
  obtain ⟨x, c, e1, R⟩ := h.s1
  have h0 := h.s0
  have h1 := h.s1
  have h2 := h.s2
  have h3 := h.s3
  have h4 := h.s4
  have h5 := h.s5
  have h6 := h.s6
  have h7 := h.s7
  have hB := h.b
  clear h
  simp only [hu] at e1 h0 h1 h2 h3 h4 h5 h6 h7
  subst ha
  clear hu
  rw [e1]
  clear h1
  have HL : Hid ((ints fAt).length = n1) := by rw [ints_length]; exact D.e1.symm
  have hl1 := D.l1
  have hl4 := D.l4
  have hnil := fun (W : World) (a : Option Addr) (m c m' c' : Nat) => run_neq_slice_nil_any (P := Try.prog) W 22 3 a m c m' c' Try.underlying22
  obtain ⟨i0, hi, hz0, hz1, hz2⟩ := info_parts Try.info3
  clear e1
  conv => arg 2; whnf
  simp only [grp]
  cases x with
  | none =>
    go_wp2_with fail
    refine hrest _ _ ⟨rfl, rfl, (by first | exact h0 | rfl), ⟨none, c, rfl, R⟩, h2, h3, h4, h5, h6, h7, hB⟩
  | some x =>
    go_wp2_with (first | (at_make; refine wpList_make_arr _ rfl _ _ 22 rfl 3 i0 (.int .i64 0) 8 Try.underlying22 hi hz0 hz1 hz2 rfl _ _ _ _ n1 (by rfl) (by rfl) rfl rfl (by omega) (by unfold maxLen; omega) ?_; intro wm g hg hA hBm) | (refine wpList_copy_arr rfl (.tmp 104) (.tmp 105) 22 rfl 3 Try.underlying22 Try.size3 g (some x) n1 n1 c (by rfl) (by rfl) _ (ints fAt) hA (by simp) HL.out (R.keep hBm) (ints_one _) wx.heap.size (by have := hg.out; omega) ?_; intro wn hAn hBn))
    have hK := hBm.trans hBn
    refine hrest _ _ ⟨rfl, rfl, (by first | exact h0 | rfl), ⟨_, _, rfl, hAn.row⟩, h2.keep hK, h3.keep hK, h4.keep hK, h5.keep hK, h6.keep hK, h7.keep hK, hB.trans (hK.mono hB.size)⟩

set_option maxRecDepth 100000 in
set_option maxHeartbeats 1000000 in
theorem copy2 (w0 wx : World) (a : Act) (n n1 n4 n7 : Nat) (fAt fTxn fMate lAt lTxn lMate order : List Int) (D : Dom n n1 n4 n7 fAt fTxn fMate lAt lTxn lMate order) (h : InvA w0 wx a n n1 n4 n7 fAt fTxn fMate lAt lTxn lMate order)
    (rest : Code) (hrest : ∀ a' w', InvA w0 w' a' n n1 n4 n7 fAt fTxn fMate lAt lTxn lMate order → rest.wp Try.prog (Q4 w0) a' w') : (grp 1 (tlN 8 (Try.f4.body.getD .skip)) rest).wp Try.prog (Q4 w0) a wx := by
  obtain ⟨u, hu, ha⟩ := frame4 a h.sz h.df
  obtain ⟨x, c, e2, R⟩ := h.s2
  have h0 := h.s0
  have h1 := h.s1
  have h2 := h.s2
  have h3 := h.s3
  have h4 := h.s4
  have h5 := h.s5
  have h6 := h.s6
  have h7 := h.s7
  have hB := h.b
  clear h
  simp only [hu] at e2 h0 h1 h2 h3 h4 h5 h6 h7
  subst ha
  clear hu
  rw [e2]
  clear h2
  have HL : Hid ((ints fTxn).length = n1) := by rw [ints_length]; exact (D.well.lf1.trans D.e1.symm)
  have hl1 := D.l1
  have hl4 := D.l4
  have hnil := fun (W : World) (a : Option Addr) (m c m' c' : Nat) => run_neq_slice_nil_any (P := Try.prog) W 22 3 a m c m' c' Try.underlying22
  obtain ⟨i0, hi, hz0, hz1, hz2⟩ := info_parts Try.info3
  clear e2
  conv => arg 2; whnf
  simp only [grp]
  cases x with
  | none =>
    go_wp2_with fail
    refine hrest _ _ ⟨rfl, rfl, (by first | exact h0 | rfl), h1, ⟨none, c, rfl, R⟩, h3, h4, h5, h6, h7, hB⟩
  | some x =>
    go_wp2_with (first | (at_make; refine wpList_make_arr _ rfl _ _ 22 rfl 3 i0 (.int .i64 0) 8 Try.underlying22 hi hz0 hz1 hz2 rfl _ _ _ _ n1 (by rfl) (by rfl) rfl rfl (by omega) (by unfold maxLen; omega) ?_; intro wm g hg hA hBm) | (refine wpList_copy_arr rfl (.tmp 113) (.tmp 114) 22 rfl 3 Try.underlying22 Try.size3 g (some x) n1 n1 c (by rfl) (by rfl) _ (ints fTxn) hA (by simp) HL.out (R.keep hBm) (ints_one _) wx.heap.size (by have := hg.out; omega) ?_; intro wn hAn hBn))
    have hK := hBm.trans hBn
    refine hrest _ _ ⟨rfl, rfl, (by first | exact h0 | rfl), h1.keep hK, ⟨_, _, rfl, hAn.row⟩, h3.keep hK, h4.keep hK, h5.keep hK, h6.keep hK, h7.keep hK, hB.trans (hK.mono hB.size)⟩

set_option maxRecDepth 100000 in
set_option maxHeartbeats 1000000 in
theorem copy3 (w0 wx : World) (a : Act) (n n1 n4 n7 : Nat) (fAt fTxn fMate lAt lTxn lMate order : List Int) (D : Dom n n1 n4 n7 fAt fTxn fMate lAt lTxn lMate order) (h : InvA w0 wx a n n1 n4 n7 fAt fTxn fMate lAt lTxn lMate order)
    (rest : Code) (hrest : ∀ a' w', InvA w0 w' a' n n1 n4 n7 fAt fTxn fMate lAt lTxn lMate order → rest.wp Try.prog (Q4 w0) a' w') : (grp 1 (tlN 9 (Try.f4.body.getD .skip)) rest).wp Try.prog (Q4 w0) a wx := by
  obtain ⟨u, hu, ha⟩ := frame4 a h.sz h.df
  obtain ⟨x, c, e3, R⟩ := h.s3
  have h0 := h.s0
  have h1 := h.s1
  have h2 := h.s2
  have h3 := h.s3
  have h4 := h.s4
  have h5 := h.s5
  have h6 := h.s6
  have h7 := h.s7
  have hB := h.b
  clear h
  simp only [hu] at e3 h0 h1 h2 h3 h4 h5 h6 h7
  subst ha
  clear hu
  rw [e3]
  clear h3
  have HL : Hid ((ints fMate).length = n1) := by rw [ints_length]; exact (D.well.lf2.trans D.e1.symm)
  have hl1 := D.l1
  have hl4 := D.l4
  have hnil := fun (W : World) (a : Option Addr) (m c m' c' : Nat) => run_neq_slice_nil_any (P := Try.prog) W 22 3 a m c m' c' Try.underlying22
  obtain ⟨i0, hi, hz0, hz1, hz2⟩ := info_parts Try.info3
  clear e3
  conv => arg 2; whnf
  simp only [grp]
  cases x with
  | none =>
    go_wp2_with fail
    refine hrest _ _ ⟨rfl, rfl, (by first | exact h0 | rfl), h1, h2, ⟨none, c, rfl, R⟩, h4, h5, h6, h7, hB⟩
  | some x =>
    go_wp2_with (first | (at_make; refine wpList_make_arr _ rfl _ _ 22 rfl 3 i0 (.int .i64 0) 8 Try.underlying22 hi hz0 hz1 hz2 rfl _ _ _ _ n1 (by rfl) (by rfl) rfl rfl (by omega) (by unfold maxLen; omega) ?_; intro wm g hg hA hBm) | (refine wpList_copy_arr rfl (.tmp 122) (.tmp 123) 22 rfl 3 Try.underlying22 Try.size3 g (some x) n1 n1 c (by rfl) (by rfl) _ (ints fMate) hA (by simp) HL.out (R.keep hBm) (ints_one _) wx.heap.size (by have := hg.out; omega) ?_; intro wn hAn hBn))
    have hK := hBm.trans hBn
    refine hrest _ _ ⟨rfl, rfl, (by first | exact h0 | rfl), h1.keep hK, h2.keep hK, ⟨_, _, rfl, hAn.row⟩, h4.keep hK, h5.keep hK, h6.keep hK, h7.keep hK, hB.trans (hK.mono hB.size)⟩

set_option maxRecDepth 100000 in
set_option maxHeartbeats 1000000 in
theorem copy4 (w0 wx : World) (a : Act) (n n1 n4 n7 : Nat) (fAt fTxn fMate lAt lTxn lMate order : List Int) (D : Dom n n1 n4 n7 fAt fTxn fMate lAt lTxn lMate order) (h : InvA w0 wx a n n1 n4 n7 fAt fTxn fMate lAt lTxn lMate order)
    (rest : Code) (hrest : ∀ a' w', InvA w0 w' a' n n1 n4 n7 fAt fTxn fMate lAt lTxn lMate order → rest.wp Try.prog (Q4 w0) a' w') : (grp 1 (tlN 10 (Try.f4.body.getD .skip)) rest).wp Try.prog (Q4 w0) a wx := by
  obtain ⟨u, hu, ha⟩ := frame4 a h.sz h.df
  obtain ⟨x, c, e4, R⟩ := h.s4
  have h0 := h.s0
  have h1 := h.s1
  have h2 := h.s2
  have h3 := h.s3
  have h4 := h.s4
  have h5 := h.s5
  have h6 := h.s6
  have h7 := h.s7
  have hB := h.b
  clear h
  simp only [hu] at e4 h0 h1 h2 h3 h4 h5 h6 h7
  subst ha
  clear hu
  rw [e4]
  clear h4
  have HL : Hid ((ints lAt).length = n4) := by rw [ints_length]; exact D.e4.symm
  have hl1 := D.l1
  have hl4 := D.l4
  have hnil := fun (W : World) (a : Option Addr) (m c m' c' : Nat) => run_neq_slice_nil_any (P := Try.prog) W 22 3 a m c m' c' Try.underlying22
  obtain ⟨i0, hi, hz0, hz1, hz2⟩ := info_parts Try.info3
  clear e4
  conv => arg 2; whnf
  simp only [grp]
  cases x with
  | none =>
    go_wp2_with fail
    refine hrest _ _ ⟨rfl, rfl, (by first | exact h0 | rfl), h1, h2, h3, ⟨none, c, rfl, R⟩, h5, h6, h7, hB⟩
  | some x =>
    go_wp2_with (first | (at_make; refine wpList_make_arr _ rfl _ _ 22 rfl 3 i0 (.int .i64 0) 8 Try.underlying22 hi hz0 hz1 hz2 rfl _ _ _ _ n4 (by rfl) (by rfl) rfl rfl (by omega) (by unfold maxLen; omega) ?_; intro wm g hg hA hBm) | (refine wpList_copy_arr rfl (.tmp 131) (.tmp 132) 22 rfl 3 Try.underlying22 Try.size3 g (some x) n4 n4 c (by rfl) (by rfl) _ (ints lAt) hA (by simp) HL.out (R.keep hBm) (ints_one _) wx.heap.size (by have := hg.out; omega) ?_; intro wn hAn hBn))
    have hK := hBm.trans hBn
    refine hrest _ _ ⟨rfl, rfl, (by first | exact h0 | rfl), h1.keep hK, h2.keep hK, h3.keep hK, ⟨_, _, rfl, hAn.row⟩, h5.keep hK, h6.keep hK, h7.keep hK, hB.trans (hK.mono hB.size)⟩

set_option maxRecDepth 100000 in
set_option maxHeartbeats 1000000 in
theorem copy5 (w0 wx : World) (a : Act) (n n1 n4 n7 : Nat) (fAt fTxn fMate lAt lTxn lMate order : List Int) (D : Dom n n1 n4 n7 fAt fTxn fMate lAt lTxn lMate order) (h : InvA w0 wx a n n1 n4 n7 fAt fTxn fMate lAt lTxn lMate order)
    (rest : Code) (hrest : ∀ a' w', InvA w0 w' a' n n1 n4 n7 fAt fTxn fMate lAt lTxn lMate order → rest.wp Try.prog (Q4 w0) a' w') : (grp 1 (tlN 11 (Try.f4.body.getD .skip)) rest).wp Try.prog (Q4 w0) a wx := by
  obtain ⟨u, hu, ha⟩ := frame4 a h.sz h.df
  obtain ⟨x, c, e5, R⟩ := h.s5
  have h0 := h.s0
  have h1 := h.s1
  have h2 := h.s2
  have h3 := h.s3
  have h4 := h.s4
  have h5 := h.s5
  have h6 := h.s6
  have h7 := h.s7
  have hB := h.b
  clear h
  simp only [hu] at e5 h0 h1 h2 h3 h4 h5 h6 h7
  subst ha
  clear hu
  rw [e5]
  clear h5
  have HL : Hid ((ints lTxn).length = n4) := by rw [ints_length]; exact (D.well.ll1.trans D.e4.symm)
  have hl1 := D.l1
  have hl4 := D.l4
  have hnil := fun (W : World) (a : Option Addr) (m c m' c' : Nat) => run_neq_slice_nil_any (P := Try.prog) W 22 3 a m c m' c' Try.underlying22
  obtain ⟨i0, hi, hz0, hz1, hz2⟩ := info_parts Try.info3
  clear e5
  conv => arg 2; whnf
  simp only [grp]
  cases x with
  | none =>
    go_wp2_with fail
    refine hrest _ _ ⟨rfl, rfl, (by first | exact h0 | rfl), h1, h2, h3, h4, ⟨none, c, rfl, R⟩, h6, h7, hB⟩
  | some x =>
    go_wp2_with (first | (at_make; refine wpList_make_arr _ rfl _ _ 22 rfl 3 i0 (.int .i64 0) 8 Try.underlying22 hi hz0 hz1 hz2 rfl _ _ _ _ n4 (by rfl) (by rfl) rfl rfl (by omega) (by unfold maxLen; omega) ?_; intro wm g hg hA hBm) | (refine wpList_copy_arr rfl (.tmp 140) (.tmp 141) 22 rfl 3 Try.underlying22 Try.size3 g (some x) n4 n4 c (by rfl) (by rfl) _ (ints lTxn) hA (by simp) HL.out (R.keep hBm) (ints_one _) wx.heap.size (by have := hg.out; omega) ?_; intro wn hAn hBn))
    have hK := hBm.trans hBn
    refine hrest _ _ ⟨rfl, rfl, (by first | exact h0 | rfl), h1.keep hK, h2.keep hK, h3.keep hK, h4.keep hK, ⟨_, _, rfl, hAn.row⟩, h6.keep hK, h7.keep hK, hB.trans (hK.mono hB.size)⟩

set_option maxRecDepth 100000 in
set_option maxHeartbeats 1000000 in
theorem copy6 (w0 wx : World) (a : Act) (n n1 n4 n7 : Nat) (fAt fTxn fMate lAt lTxn lMate order : List Int) (D : Dom n n1 n4 n7 fAt fTxn fMate lAt lTxn lMate order) (h : InvA w0 wx a n n1 n4 n7 fAt fTxn fMate lAt lTxn lMate order)
    (rest : Code) (hrest : ∀ a' w', InvA w0 w' a' n n1 n4 n7 fAt fTxn fMate lAt lTxn lMate order → rest.wp Try.prog (Q4 w0) a' w') : (grp 1 (tlN 12 (Try.f4.body.getD .skip)) rest).wp Try.prog (Q4 w0) a wx := by
  obtain ⟨u, hu, ha⟩ := frame4 a h.sz h.df
  obtain ⟨x, c, e6, R⟩ := h.s6
  have h0 := h.s0
  have h1 := h.s1
  have h2 := h.s2
  have h3 := h.s3
  have h4 := h.s4
  have h5 := h.s5
  have h6 := h.s6
  have h7 := h.s7
  have hB := h.b
  clear h
  simp only [hu] at e6 h0 h1 h2 h3 h4 h5 h6 h7
  subst ha
  clear hu
  rw [e6]
  clear h6
  have HL : Hid ((ints lMate).length = n4) := by rw [ints_length]; exact (D.well.ll2.trans D.e4.symm)
  have hl1 := D.l1
  have hl4 := D.l4
  have hnil := fun (W : World) (a : Option Addr) (m c m' c' : Nat) => run_neq_slice_nil_any (P := Try.prog) W 22 3 a m c m' c' Try.underlying22
  obtain ⟨i0, hi, hz0, hz1, hz2⟩ := info_parts Try.info3
  clear e6
  conv => arg 2; whnf
  simp only [grp]
  cases x with
  | none =>
    go_wp2_with fail
    refine hrest _ _ ⟨rfl, rfl, (by first | exact h0 | rfl), h1, h2, h3, h4, h5, ⟨none, c, rfl, R⟩, h7, hB⟩
  | some x =>
    go_wp2_with (first | (at_make; refine wpList_make_arr _ rfl _ _ 22 rfl 3 i0 (.int .i64 0) 8 Try.underlying22 hi hz0 hz1 hz2 rfl _ _ _ _ n4 (by rfl) (by rfl) rfl rfl (by omega) (by unfold maxLen; omega) ?_; intro wm g hg hA hBm) | (refine wpList_copy_arr rfl (.tmp 149) (.tmp 150) 22 rfl 3 Try.underlying22 Try.size3 g (some x) n4 n4 c (by rfl) (by rfl) _ (ints lMate) hA (by simp) HL.out (R.keep hBm) (ints_one _) wx.heap.size (by have := hg.out; omega) ?_; intro wn hAn hBn))
    have hK := hBm.trans hBn
    refine hrest _ _ ⟨rfl, rfl, (by first | exact h0 | rfl), h1.keep hK, h2.keep hK, h3.keep hK, h4.keep hK, h5.keep hK, ⟨_, _, rfl, hAn.row⟩, h7.keep hK, hB.trans (hK.mono hB.size)⟩
end Go.Proofs.Qxb6615639a
