import Derived.Test.Qxb6615639aParts
namespace Go.Proofs.Qxb6615639a
set_option linter.unusedVariables false
set_option linter.unusedSimpArgs false
open Go.RowKit

/-- The table of places is made. -/
structure InvC (w0 wx : World) (a : Act) (n n1 n4 n7 : Nat) (fAt fTxn fMate lAt lTxn lMate order P : List Int) : Prop where
  i : InvA w0 wx a n n1 n4 n7 fAt fTxn fMate lAt lTxn lMate order
  s23 : a.tmps.getD 23 undef = .int .i64 n7
  s24 : Has wx (a.tmps.getD 24 undef) n P
  pos : OPos order P n7
  lp : P.length = n

set_option maxRecDepth 100000 in
set_option maxHeartbeats 1000000 in
theorem pos4 (w0 wx : World) (a : Act) (n n1 n4 n7 : Nat) (fAt fTxn fMate lAt lTxn lMate order : List Int) (D : Dom n n1 n4 n7 fAt fTxn fMate lAt lTxn lMate order) (h : InvA w0 wx a n n1 n4 n7 fAt fTxn fMate lAt lTxn lMate order)
    (rest : Code) (hrest : ∀ P a' w', InvC w0 w' a' n n1 n4 n7 fAt fTxn fMate lAt lTxn lMate order P → rest.wp Try.prog (Q4 w0) a' w') : (grp 4 (tlN 13 (Try.f4.body.getD .skip)) rest).wp Try.prog (Q4 w0) a wx := by
  obtain ⟨u, hu, ha⟩ := frame4 a h.sz h.df
  obtain ⟨x7, c7, e7, R7⟩ := h.s7
  have e0 := h.s0
  have h1 := h.s1
  have h2 := h.s2
  have h3 := h.s3
  have h4 := h.s4
  have h5 := h.s5
  have h6 := h.s6
  have hB := h.b
  clear h
  simp only [hu] at e0 h1 h2 h3 h4 h5 h6 e7
  subst ha
  clear hu
  rw [e0, e7]
  clear e0 e7
  have ln := D.ln
  have l7 := D.l7
  have E7 : Hid (n7 = order.length) := D.e7
  obtain ⟨i0, hi, hz0, hz1, hz2⟩ := info_parts Try.info3
  conv => arg 2; whnf
  simp only [grp]
  go_wp2_with (at_make; refine wpList_make_arr _ rfl _ _ 22 rfl 3 i0 (.int .i64 0) 8 Try.underlying22 hi hz0 hz1 hz2 rfl _ _ _ _ n (by rfl) (by rfl) rfl rfl (by omega) (by unfold maxLen; omega) ?_; intro wm g hg hA hBm)
  clear hi hz0 hz1 hz2
  have hgx : wx.heap.size ≤ g := by have := hg.out; omega
  clear hg
  go_loopg [25] n (fun gk i wr => ∃ (k : Nat) (F : List Int), gk = n - k ∧ k ≤ n ∧ i = .int .i64 k ∧ F.length = n ∧ Alls F n7 k ∧ Arr wr g 3 (ints F) ∧ Below wx.heap.size wx wr)
  case atStart => exact ⟨0, List.replicate n 0, by omega, by omega, rfl, by simp, Alls.zero _ _, by simpa [ints] using hA, hBm⟩
  case round =>
    clear hA hBm
    obtain ⟨k, F, hgk, hk, rfl, hF, hAl, hA, hBr⟩ := hrel
    have HGK : Hid (gk = n - k) := hgk
    clear hgk
    by_cases hlt : k < n
    · obtain ⟨m, hm⟩ := some_at (xs := F) (k := k) (by omega)
      have c := hA.cell (ints_at hm)
      have f := hA.free k
      clear hm
      go_wp2_with fail
      go_roundg (n - (k + 1))
      case measure => rw [HGK.out]; omega
      case rel => exact ⟨k + 1, F.set k n7, rfl, by omega, by go_num, by simpa using hF, hAl.next, by rw [← ints_set]; exact hA.set k _, hBr.setCell (by simpa using hgx) _⟩
    · have hkn : n = k := by omega
      subst hkn
      have pF : OPos [] F n7 := Alls.pos (by rw [hF]; exact hAl)
      clear hAl hk hlt HGK
      go_wp2_with fail
      go_loopg [26] n7 (fun gk i wr => ∃ (k : Nat) (F : List Int), gk = n7 - k ∧ k ≤ n7 ∧ i = .int .i64 k ∧ F.length = n ∧ OPos (order.take k) F n7 ∧ Arr wr g 3 (ints F) ∧ Below wx.heap.size wx wr)
      case atStart => exact ⟨0, F, by omega, by omega, rfl, hF, by simpa using pF, hA, hBr⟩
      case round =>
        clear hA hBr pF hF
        obtain ⟨k, F, hgk, hk, rfl, hF, pF, hA, hBr⟩ := hrel
        have HGK : Hid (gk = n7 - k) := hgk
        clear hgk
        by_cases hlt : k < n7
        · obtain ⟨b, off, x, ha, hx, hc⟩ := (R7.keep hBr).int (k := k) (by rw [← E7.out]; exact hlt)
          subst ha
          have HX : Hid (order[k]? = some x) := hx
          clear hx
          have hB' : Below w0.heap.size w0 wr := hB.trans (hBr.mono hB.size)
          by_cases hx0 : x < 0
          · go_wp2_with fail
            unfold Q4
            go_ret
            exact ⟨rfl, hB'⟩
          · by_cases hxn : (n : Int) ≤ x
            · go_wp2_with fail
              unfold Q4
              go_ret
              exact ⟨rfl, hB'⟩
            · obtain ⟨t, rfl⟩ : ∃ t : Nat, x = t := ⟨x.toNat, by omega⟩
              obtain ⟨m, hm⟩ := some_at (xs := F) (k := t) (by omega)
              have cF := hA.cell (ints_at hm)
              have fF := hA.free t
              have HM : Hid (F[t]? = some m) := hm
              clear hm
              go_wp2_with fail
              · unfold Q4
                go_ret
                exact ⟨rfl, hB'⟩
              · have hm1 : (m != (n7 : Int)) = false := by assumption
                have hm2 : m = (n7 : Int) := by simpa using hm1
                go_roundg (n7 - (k + 1))
                case measure => rw [HGK.out]; omega
                case rel => exact ⟨k + 1, F.set t k, rfl, by omega, by go_num, by simpa using hF, by have := pF.snoc (hm2 ▸ HM.out) (by simp; omega); rw [take_snoc HX.out]; simpa [show min k order.length = k by have := E7.out; omega] using this, by rw [← ints_set]; exact hA.set t _, hBr.setCell (by simpa using hgx) _⟩
        · have hkn : n7 = k := by omega
          subst hkn
          rw [take_all E7.out] at pF
          go_wp2_with fail
          exact hrest F _ _ ⟨⟨rfl, rfl, rfl, h1.keep hBr, h2.keep hBr, h3.keep hBr, h4.keep hBr, h5.keep hBr, h6.keep hBr, ⟨_, _, rfl, R7.keep hBr⟩, hB.trans (hBr.mono hB.size)⟩, rfl, ⟨_, _, rfl, hA.row⟩, pF, hF⟩
end Go.Proofs.Qxb6615639a
