import Derived.Test.Qxb6615639aParts3
namespace Go.Proofs.Qxb6615639a
open Go.RowKit
set_option linter.unusedVariables false
set_option linter.unusedSimpArgs false

set_option maxRecDepth 100000 in
set_option maxHeartbeats 1000000 in
theorem dup3 (w0 wx : World) (a : Act) (first : Nat) (second : Int) (cleared n n1 n4 : Nat) (fAt fTxn fMate lAt lTxn lMate : List Int) (placed : List Bool) (D : Dom3 first second cleared n n1 n4 fAt fTxn fMate lAt lTxn lMate placed) (h : InvX w0 wx a first second cleared n n1 n4 fAt fTxn fMate lAt lTxn lMate placed)
    (rest : Code) (hrest : ∀ a' w', InvX w0 w' a' first second cleared n n1 n4 fAt fTxn fMate lAt lTxn lMate placed → rest.wp Try.prog (Q3 w0) a' w') : (grp 1 (tlN 7 (Try.f3.body.getD .skip)) rest).wp Try.prog (Q3 w0) a wx := by
  obtain ⟨u, hu, ha⟩ := frame3 a h.sz h.df
  obtain ⟨x, c, e3, R⟩ := h.s3
  have h0 := h.s0
  have h1 := h.s1
  have h2 := h.s2
  have h3 := h.s3
  have h4 := h.s4
  have h5 := h.s5
  have h6 := h.s6
  have h7 := h.s7
  have h8 := h.s8
  have h9 := h.s9
  have hB := h.b
  clear h
  simp only [hu] at e3 h0 h1 h2 h3 h4 h5 h6 h7 h8 h9
  subst ha
  clear hu
  rw [e3]
  clear h3
  have HL : Hid ((ints fAt).length = n1) := by rw [ints_length]; exact D.e1.symm
  have hl1 := D.l1
  have hl4 := D.l4
  have hln := D.ln
  have hnil := fun (W : World) (a : Option Addr) (m c m' c' : Nat) => run_neq_slice_nil_any (P := Try.prog) W 22 3 a m c m' c' Try.underlying22
  obtain ⟨i0, hi, hz0, hz1, hz2⟩ := info_parts Try.info3
  have H0 : Hid (u 0 = .int .i64 first) := h0
  have H1 : Hid (u 1 = .int .i64 second) := h1
  have H2 : Hid (u 2 = .int .i64 cleared) := h2
  clear e3 h0 h1 h2
  conv => arg 2; whnf
  simp only [grp]
  cases x with
  | none =>
    go_wp2_with fail
    refine hrest _ _ ⟨rfl, rfl, H0.out, H1.out, H2.out, ⟨none, c, rfl, R⟩, h4, h5, h6, h7, h8, h9, hB⟩
  | some x =>
    go_wp2_with (first | (at_make; refine wpList_make_arr _ rfl _ _ 22 rfl 3 i0 (.int .i64 0) 8 Try.underlying22 hi hz0 hz1 hz2 rfl _ _ _ _ n1 (by rfl) (by rfl) rfl rfl (by omega) (by unfold maxLen; omega) ?_; intro wm g hg hA hBm) | (refine wpList_copy_arr rfl (.tmp 106) (.tmp 107) 22 rfl 3 Try.underlying22 Try.size3 g (some x) n1 n1 c (by rfl) (by rfl) _ (ints fAt) hA (by simp) HL.out (R.keep hBm) (ints_one _) wx.heap.size (by have := hg.out; omega) ?_; intro wn hAn hBn))
    have hK := hBm.trans hBn
    refine hrest _ _ ⟨rfl, rfl, H0.out, H1.out, H2.out, ⟨_, _, rfl, hAn.row⟩, h4.keep hK, h5.keep hK, h6.keep hK, h7.keep hK, h8.keep hK, h9.keep hK, hB.trans (hK.mono hB.size)⟩

set_option maxRecDepth 100000 in
set_option maxHeartbeats 1000000 in
theorem dup4 (w0 wx : World) (a : Act) (first : Nat) (second : Int) (cleared n n1 n4 : Nat) (fAt fTxn fMate lAt lTxn lMate : List Int) (placed : List Bool) (D : Dom3 first second cleared n n1 n4 fAt fTxn fMate lAt lTxn lMate placed) (h : InvX w0 wx a first second cleared n n1 n4 fAt fTxn fMate lAt lTxn lMate placed)
    (rest : Code) (hrest : ∀ a' w', InvX w0 w' a' first second cleared n n1 n4 fAt fTxn fMate lAt lTxn lMate placed → rest.wp Try.prog (Q3 w0) a' w') : (grp 1 (tlN 8 (Try.f3.body.getD .skip)) rest).wp Try.prog (Q3 w0) a wx := by
  obtain ⟨u, hu, ha⟩ := frame3 a h.sz h.df
  obtain ⟨x, c, e4, R⟩ := h.s4
  have h0 := h.s0
  have h1 := h.s1
  have h2 := h.s2
  have h3 := h.s3
  have h4 := h.s4
  have h5 := h.s5
  have h6 := h.s6
  have h7 := h.s7
  have h8 := h.s8
  have h9 := h.s9
  have hB := h.b
  clear h
  simp only [hu] at e4 h0 h1 h2 h3 h4 h5 h6 h7 h8 h9
  subst ha
  clear hu
  rw [e4]
  clear h4
  have HL : Hid ((ints fTxn).length = n1) := by rw [ints_length]; exact (D.well.lf1.trans D.e1.symm)
  have hl1 := D.l1
  have hl4 := D.l4
  have hln := D.ln
  have hnil := fun (W : World) (a : Option Addr) (m c m' c' : Nat) => run_neq_slice_nil_any (P := Try.prog) W 22 3 a m c m' c' Try.underlying22
  obtain ⟨i0, hi, hz0, hz1, hz2⟩ := info_parts Try.info3
  have H0 : Hid (u 0 = .int .i64 first) := h0
  have H1 : Hid (u 1 = .int .i64 second) := h1
  have H2 : Hid (u 2 = .int .i64 cleared) := h2
  clear e4 h0 h1 h2
  conv => arg 2; whnf
  simp only [grp]
  cases x with
  | none =>
    go_wp2_with fail
    refine hrest _ _ ⟨rfl, rfl, H0.out, H1.out, H2.out, h3, ⟨none, c, rfl, R⟩, h5, h6, h7, h8, h9, hB⟩
  | some x =>
    go_wp2_with (first | (at_make; refine wpList_make_arr _ rfl _ _ 22 rfl 3 i0 (.int .i64 0) 8 Try.underlying22 hi hz0 hz1 hz2 rfl _ _ _ _ n1 (by rfl) (by rfl) rfl rfl (by omega) (by unfold maxLen; omega) ?_; intro wm g hg hA hBm) | (refine wpList_copy_arr rfl (.tmp 115) (.tmp 116) 22 rfl 3 Try.underlying22 Try.size3 g (some x) n1 n1 c (by rfl) (by rfl) _ (ints fTxn) hA (by simp) HL.out (R.keep hBm) (ints_one _) wx.heap.size (by have := hg.out; omega) ?_; intro wn hAn hBn))
    have hK := hBm.trans hBn
    refine hrest _ _ ⟨rfl, rfl, H0.out, H1.out, H2.out, h3.keep hK, ⟨_, _, rfl, hAn.row⟩, h5.keep hK, h6.keep hK, h7.keep hK, h8.keep hK, h9.keep hK, hB.trans (hK.mono hB.size)⟩

set_option maxRecDepth 100000 in
set_option maxHeartbeats 1000000 in
theorem dup5 (w0 wx : World) (a : Act) (first : Nat) (second : Int) (cleared n n1 n4 : Nat) (fAt fTxn fMate lAt lTxn lMate : List Int) (placed : List Bool) (D : Dom3 first second cleared n n1 n4 fAt fTxn fMate lAt lTxn lMate placed) (h : InvX w0 wx a first second cleared n n1 n4 fAt fTxn fMate lAt lTxn lMate placed)
    (rest : Code) (hrest : ∀ a' w', InvX w0 w' a' first second cleared n n1 n4 fAt fTxn fMate lAt lTxn lMate placed → rest.wp Try.prog (Q3 w0) a' w') : (grp 1 (tlN 9 (Try.f3.body.getD .skip)) rest).wp Try.prog (Q3 w0) a wx := by
  obtain ⟨u, hu, ha⟩ := frame3 a h.sz h.df
  obtain ⟨x, c, e5, R⟩ := h.s5
  have h0 := h.s0
  have h1 := h.s1
  have h2 := h.s2
  have h3 := h.s3
  have h4 := h.s4
  have h5 := h.s5
  have h6 := h.s6
  have h7 := h.s7
  have h8 := h.s8
  have h9 := h.s9
  have hB := h.b
  clear h
  simp only [hu] at e5 h0 h1 h2 h3 h4 h5 h6 h7 h8 h9
  subst ha
  clear hu
  rw [e5]
  clear h5
  have HL : Hid ((ints fMate).length = n1) := by rw [ints_length]; exact (D.well.lf2.trans D.e1.symm)
  have hl1 := D.l1
  have hl4 := D.l4
  have hln := D.ln
  have hnil := fun (W : World) (a : Option Addr) (m c m' c' : Nat) => run_neq_slice_nil_any (P := Try.prog) W 22 3 a m c m' c' Try.underlying22
  obtain ⟨i0, hi, hz0, hz1, hz2⟩ := info_parts Try.info3
  have H0 : Hid (u 0 = .int .i64 first) := h0
  have H1 : Hid (u 1 = .int .i64 second) := h1
  have H2 : Hid (u 2 = .int .i64 cleared) := h2
  clear e5 h0 h1 h2
  conv => arg 2; whnf
  simp only [grp]
  cases x with
  | none =>
    go_wp2_with fail
    refine hrest _ _ ⟨rfl, rfl, H0.out, H1.out, H2.out, h3, h4, ⟨none, c, rfl, R⟩, h6, h7, h8, h9, hB⟩
  | some x =>
    go_wp2_with (first | (at_make; refine wpList_make_arr _ rfl _ _ 22 rfl 3 i0 (.int .i64 0) 8 Try.underlying22 hi hz0 hz1 hz2 rfl _ _ _ _ n1 (by rfl) (by rfl) rfl rfl (by omega) (by unfold maxLen; omega) ?_; intro wm g hg hA hBm) | (refine wpList_copy_arr rfl (.tmp 124) (.tmp 125) 22 rfl 3 Try.underlying22 Try.size3 g (some x) n1 n1 c (by rfl) (by rfl) _ (ints fMate) hA (by simp) HL.out (R.keep hBm) (ints_one _) wx.heap.size (by have := hg.out; omega) ?_; intro wn hAn hBn))
    have hK := hBm.trans hBn
    refine hrest _ _ ⟨rfl, rfl, H0.out, H1.out, H2.out, h3.keep hK, h4.keep hK, ⟨_, _, rfl, hAn.row⟩, h6.keep hK, h7.keep hK, h8.keep hK, h9.keep hK, hB.trans (hK.mono hB.size)⟩

set_option maxRecDepth 100000 in
set_option maxHeartbeats 1000000 in
theorem dup6 (w0 wx : World) (a : Act) (first : Nat) (second : Int) (cleared n n1 n4 : Nat) (fAt fTxn fMate lAt lTxn lMate : List Int) (placed : List Bool) (D : Dom3 first second cleared n n1 n4 fAt fTxn fMate lAt lTxn lMate placed) (h : InvX w0 wx a first second cleared n n1 n4 fAt fTxn fMate lAt lTxn lMate placed)
    (rest : Code) (hrest : ∀ a' w', InvX w0 w' a' first second cleared n n1 n4 fAt fTxn fMate lAt lTxn lMate placed → rest.wp Try.prog (Q3 w0) a' w') : (grp 1 (tlN 10 (Try.f3.body.getD .skip)) rest).wp Try.prog (Q3 w0) a wx := by
  obtain ⟨u, hu, ha⟩ := frame3 a h.sz h.df
  obtain ⟨x, c, e6, R⟩ := h.s6
  have h0 := h.s0
  have h1 := h.s1
  have h2 := h.s2
  have h3 := h.s3
  have h4 := h.s4
  have h5 := h.s5
  have h6 := h.s6
  have h7 := h.s7
  have h8 := h.s8
  have h9 := h.s9
  have hB := h.b
  clear h
  simp only [hu] at e6 h0 h1 h2 h3 h4 h5 h6 h7 h8 h9
  subst ha
  clear hu
  rw [e6]
  clear h6
  have HL : Hid ((ints lAt).length = n4) := by rw [ints_length]; exact D.e4.symm
  have hl1 := D.l1
  have hl4 := D.l4
  have hln := D.ln
  have hnil := fun (W : World) (a : Option Addr) (m c m' c' : Nat) => run_neq_slice_nil_any (P := Try.prog) W 22 3 a m c m' c' Try.underlying22
  obtain ⟨i0, hi, hz0, hz1, hz2⟩ := info_parts Try.info3
  have H0 : Hid (u 0 = .int .i64 first) := h0
  have H1 : Hid (u 1 = .int .i64 second) := h1
  have H2 : Hid (u 2 = .int .i64 cleared) := h2
  clear e6 h0 h1 h2
  conv => arg 2; whnf
  simp only [grp]
  cases x with
  | none =>
    go_wp2_with fail
    refine hrest _ _ ⟨rfl, rfl, H0.out, H1.out, H2.out, h3, h4, h5, ⟨none, c, rfl, R⟩, h7, h8, h9, hB⟩
  | some x =>
    go_wp2_with (first | (at_make; refine wpList_make_arr _ rfl _ _ 22 rfl 3 i0 (.int .i64 0) 8 Try.underlying22 hi hz0 hz1 hz2 rfl _ _ _ _ n4 (by rfl) (by rfl) rfl rfl (by omega) (by unfold maxLen; omega) ?_; intro wm g hg hA hBm) | (refine wpList_copy_arr rfl (.tmp 133) (.tmp 134) 22 rfl 3 Try.underlying22 Try.size3 g (some x) n4 n4 c (by rfl) (by rfl) _ (ints lAt) hA (by simp) HL.out (R.keep hBm) (ints_one _) wx.heap.size (by have := hg.out; omega) ?_; intro wn hAn hBn))
    have hK := hBm.trans hBn
    refine hrest _ _ ⟨rfl, rfl, H0.out, H1.out, H2.out, h3.keep hK, h4.keep hK, h5.keep hK, ⟨_, _, rfl, hAn.row⟩, h7.keep hK, h8.keep hK, h9.keep hK, hB.trans (hK.mono hB.size)⟩

set_option maxRecDepth 100000 in
set_option maxHeartbeats 1000000 in
theorem dup7 (w0 wx : World) (a : Act) (first : Nat) (second : Int) (cleared n n1 n4 : Nat) (fAt fTxn fMate lAt lTxn lMate : List Int) (placed : List Bool) (D : Dom3 first second cleared n n1 n4 fAt fTxn fMate lAt lTxn lMate placed) (h : InvX w0 wx a first second cleared n n1 n4 fAt fTxn fMate lAt lTxn lMate placed)
    (rest : Code) (hrest : ∀ a' w', InvX w0 w' a' first second cleared n n1 n4 fAt fTxn fMate lAt lTxn lMate placed → rest.wp Try.prog (Q3 w0) a' w') : (grp 1 (tlN 11 (Try.f3.body.getD .skip)) rest).wp Try.prog (Q3 w0) a wx := by
  obtain ⟨u, hu, ha⟩ := frame3 a h.sz h.df
  obtain ⟨x, c, e7, R⟩ := h.s7
  have h0 := h.s0
  have h1 := h.s1
  have h2 := h.s2
  have h3 := h.s3
  have h4 := h.s4
  have h5 := h.s5
  have h6 := h.s6
  have h7 := h.s7
  have h8 := h.s8
  have h9 := h.s9
  have hB := h.b
  clear h
  simp only [hu] at e7 h0 h1 h2 h3 h4 h5 h6 h7 h8 h9
  subst ha
  clear hu
  rw [e7]
  clear h7
  have HL : Hid ((ints lTxn).length = n4) := by rw [ints_length]; exact (D.well.ll1.trans D.e4.symm)
  have hl1 := D.l1
  have hl4 := D.l4
  have hln := D.ln
  have hnil := fun (W : World) (a : Option Addr) (m c m' c' : Nat) => run_neq_slice_nil_any (P := Try.prog) W 22 3 a m c m' c' Try.underlying22
  obtain ⟨i0, hi, hz0, hz1, hz2⟩ := info_parts Try.info3
  have H0 : Hid (u 0 = .int .i64 first) := h0
  have H1 : Hid (u 1 = .int .i64 second) := h1
  have H2 : Hid (u 2 = .int .i64 cleared) := h2
  clear e7 h0 h1 h2
  conv => arg 2; whnf
  simp only [grp]
  cases x with
  | none =>
    go_wp2_with fail
    refine hrest _ _ ⟨rfl, rfl, H0.out, H1.out, H2.out, h3, h4, h5, h6, ⟨none, c, rfl, R⟩, h8, h9, hB⟩
  | some x =>
    go_wp2_with (first | (at_make; refine wpList_make_arr _ rfl _ _ 22 rfl 3 i0 (.int .i64 0) 8 Try.underlying22 hi hz0 hz1 hz2 rfl _ _ _ _ n4 (by rfl) (by rfl) rfl rfl (by omega) (by unfold maxLen; omega) ?_; intro wm g hg hA hBm) | (refine wpList_copy_arr rfl (.tmp 142) (.tmp 143) 22 rfl 3 Try.underlying22 Try.size3 g (some x) n4 n4 c (by rfl) (by rfl) _ (ints lTxn) hA (by simp) HL.out (R.keep hBm) (ints_one _) wx.heap.size (by have := hg.out; omega) ?_; intro wn hAn hBn))
    have hK := hBm.trans hBn
    refine hrest _ _ ⟨rfl, rfl, H0.out, H1.out, H2.out, h3.keep hK, h4.keep hK, h5.keep hK, h6.keep hK, ⟨_, _, rfl, hAn.row⟩, h8.keep hK, h9.keep hK, hB.trans (hK.mono hB.size)⟩

set_option maxRecDepth 100000 in
set_option maxHeartbeats 1000000 in
theorem dup8 (w0 wx : World) (a : Act) (first : Nat) (second : Int) (cleared n n1 n4 : Nat) (fAt fTxn fMate lAt lTxn lMate : List Int) (placed : List Bool) (D : Dom3 first second cleared n n1 n4 fAt fTxn fMate lAt lTxn lMate placed) (h : InvX w0 wx a first second cleared n n1 n4 fAt fTxn fMate lAt lTxn lMate placed)
    (rest : Code) (hrest : ∀ a' w', InvX w0 w' a' first second cleared n n1 n4 fAt fTxn fMate lAt lTxn lMate placed → rest.wp Try.prog (Q3 w0) a' w') : (grp 1 (tlN 12 (Try.f3.body.getD .skip)) rest).wp Try.prog (Q3 w0) a wx := by
  obtain ⟨u, hu, ha⟩ := frame3 a h.sz h.df
  obtain ⟨x, c, e8, R⟩ := h.s8
  have h0 := h.s0
  have h1 := h.s1
  have h2 := h.s2
  have h3 := h.s3
  have h4 := h.s4
  have h5 := h.s5
  have h6 := h.s6
  have h7 := h.s7
  have h8 := h.s8
  have h9 := h.s9
  have hB := h.b
  clear h
  simp only [hu] at e8 h0 h1 h2 h3 h4 h5 h6 h7 h8 h9
  subst ha
  clear hu
  rw [e8]
  clear h8
  have HL : Hid ((ints lMate).length = n4) := by rw [ints_length]; exact (D.well.ll2.trans D.e4.symm)
  have hl1 := D.l1
  have hl4 := D.l4
  have hln := D.ln
  have hnil := fun (W : World) (a : Option Addr) (m c m' c' : Nat) => run_neq_slice_nil_any (P := Try.prog) W 22 3 a m c m' c' Try.underlying22
  obtain ⟨i0, hi, hz0, hz1, hz2⟩ := info_parts Try.info3
  have H0 : Hid (u 0 = .int .i64 first) := h0
  have H1 : Hid (u 1 = .int .i64 second) := h1
  have H2 : Hid (u 2 = .int .i64 cleared) := h2
  clear e8 h0 h1 h2
  conv => arg 2; whnf
  simp only [grp]
  cases x with
  | none =>
    go_wp2_with fail
    refine hrest _ _ ⟨rfl, rfl, H0.out, H1.out, H2.out, h3, h4, h5, h6, h7, ⟨none, c, rfl, R⟩, h9, hB⟩
  | some x =>
    go_wp2_with (first | (at_make; refine wpList_make_arr _ rfl _ _ 22 rfl 3 i0 (.int .i64 0) 8 Try.underlying22 hi hz0 hz1 hz2 rfl _ _ _ _ n4 (by rfl) (by rfl) rfl rfl (by omega) (by unfold maxLen; omega) ?_; intro wm g hg hA hBm) | (refine wpList_copy_arr rfl (.tmp 151) (.tmp 152) 22 rfl 3 Try.underlying22 Try.size3 g (some x) n4 n4 c (by rfl) (by rfl) _ (ints lMate) hA (by simp) HL.out (R.keep hBm) (ints_one _) wx.heap.size (by have := hg.out; omega) ?_; intro wn hAn hBn))
    have hK := hBm.trans hBn
    refine hrest _ _ ⟨rfl, rfl, H0.out, H1.out, H2.out, h3.keep hK, h4.keep hK, h5.keep hK, h6.keep hK, h7.keep hK, ⟨_, _, rfl, hAn.row⟩, h9.keep hK, hB.trans (hK.mono hB.size)⟩

set_option maxRecDepth 100000 in
set_option maxHeartbeats 1000000 in
theorem dup9 (w0 wx : World) (a : Act) (first : Nat) (second : Int) (cleared n n1 n4 : Nat) (fAt fTxn fMate lAt lTxn lMate : List Int) (placed : List Bool) (D : Dom3 first second cleared n n1 n4 fAt fTxn fMate lAt lTxn lMate placed) (h : InvX w0 wx a first second cleared n n1 n4 fAt fTxn fMate lAt lTxn lMate placed)
    (rest : Code) (hrest : ∀ a' w', InvX w0 w' a' first second cleared n n1 n4 fAt fTxn fMate lAt lTxn lMate placed → rest.wp Try.prog (Q3 w0) a' w') : (grp 1 (tlN 13 (Try.f3.body.getD .skip)) rest).wp Try.prog (Q3 w0) a wx := by
  obtain ⟨u, hu, ha⟩ := frame3 a h.sz h.df
  obtain ⟨x, c, e9, R⟩ := h.s9
  have h0 := h.s0
  have h1 := h.s1
  have h2 := h.s2
  have h3 := h.s3
  have h4 := h.s4
  have h5 := h.s5
  have h6 := h.s6
  have h7 := h.s7
  have h8 := h.s8
  have h9 := h.s9
  have hB := h.b
  clear h
  simp only [hu] at e9 h0 h1 h2 h3 h4 h5 h6 h7 h8 h9
  subst ha
  clear hu
  rw [e9]
  clear h9
  have HL : Hid ((bools placed).length = n) := by rw [bools_length]; exact D.en.symm
  have hl1 := D.l1
  have hl4 := D.l4
  have hln := D.ln
  have hnil := fun (W : World) (a : Option Addr) (m c m' c' : Nat) => run_neq_slice_nil_any (P := Try.prog) W 23 4 a m c m' c' Try.underlying23
  obtain ⟨i0, hi, hz0, hz1, hz2⟩ := info_parts Try.info4
  have H0 : Hid (u 0 = .int .i64 first) := h0
  have H1 : Hid (u 1 = .int .i64 second) := h1
  have H2 : Hid (u 2 = .int .i64 cleared) := h2
  clear e9 h0 h1 h2
  conv => arg 2; whnf
  simp only [grp]
  cases x with
  | none =>
    go_wp2_with fail
    refine hrest _ _ ⟨rfl, rfl, H0.out, H1.out, H2.out, h3, h4, h5, h6, h7, h8, ⟨none, c, rfl, R⟩, hB⟩
  | some x =>
    go_wp2_with (first | (at_make; refine wpList_make_arr _ rfl _ _ 23 rfl 4 i0 (.bool false) 1 Try.underlying23 hi hz0 hz1 hz2 rfl _ _ _ _ n (by rfl) (by rfl) rfl rfl (by omega) (by unfold maxLen; omega) ?_; intro wm g hg hA hBm) | (refine wpList_copy_arr rfl (.tmp 160) (.tmp 161) 23 rfl 4 Try.underlying23 Try.size4 g (some x) n n c (by rfl) (by rfl) _ (bools placed) hA (by simp) HL.out (R.keep hBm) (bools_one _) wx.heap.size (by have := hg.out; omega) ?_; intro wn hAn hBn))
    have hK := hBm.trans hBn
    refine hrest _ _ ⟨rfl, rfl, H0.out, H1.out, H2.out, h3.keep hK, h4.keep hK, h5.keep hK, h6.keep hK, h7.keep hK, h8.keep hK, ⟨_, _, rfl, hAn.row⟩, hB.trans (hK.mono hB.size)⟩
end Go.Proofs.Qxb6615639a
