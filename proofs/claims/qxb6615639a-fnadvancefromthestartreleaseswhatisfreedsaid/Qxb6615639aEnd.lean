import Derived.Test.Qxb6615639aMain
namespace Go.Proofs.Qxb6615639a
set_option linter.unusedVariables false
set_option linter.unusedSimpArgs false
open Go.RowKit

set_option maxRecDepth 100000 in
set_option maxHeartbeats 1000000 in
theorem end4 (w0 wx : World) (a : Act) (n n1 n4 n7 : Nat) (fAt fTxn fMate lAt lTxn lMate order P FQ : List Int) (ever : List Bool) (D : Dom n n1 n4 n7 fAt fTxn fMate lAt lTxn lMate order) (h : InvE w0 wx a n n1 n4 n7 fAt fTxn fMate lAt lTxn lMate order P FQ ever) :
    (tlN 23 (Try.f4.body.getD .skip)).wp Try.prog (Q4 w0) a wx := by
  obtain ⟨u, hu, ha⟩ := frame4 a h.i.i.i.sz h.i.i.i.df
  obtain ⟨x4, c4, e4, R4⟩ := h.i.i.i.s4
  obtain ⟨x5, c5, e5, R5⟩ := h.i.i.i.s5
  obtain ⟨xp, cp, ep, Rp⟩ := h.i.i.s24
  obtain ⟨xq, cq, eq, Rq⟩ := h.i.s28
  obtain ⟨xe, ce, ee, Re⟩ := h.s33
  have e23 := h.i.i.s23
  have hB := h.i.i.i.b
  have lp := h.i.i.lp
  have lq := h.i.lq
  have le := h.le
  have HE : Hid (Ever lTxn P FQ ever (n7 + 1)) := h.ev
  clear h
  simp only [hu] at e4 e5 e23 ep eq ee
  subst ha
  clear hu
  rw [e4, e5, e23, ep, eq, ee]
  clear e4 e5 e23 ep eq ee
  have l4 := D.l4
  have l7 := D.l7
  have ln := D.ln
  have E4 : Hid (n4 = lAt.length) := D.e4
  have HW : Hid (Well fAt fTxn fMate lAt lTxn lMate n) := D.well
  clear D
  conv => arg 2; whnf
  go_wp2_with fail
  go_loopg [42] n4 (fun gk iv wr => ∃ (q : Nat), gk = n4 - q ∧ q ≤ n4 ∧ iv = .int .i64 q ∧ Below wx.heap.size wx wr)
  case atStart => exact ⟨0, by omega, by omega, rfl, Below.refl _ _⟩
  case round =>
    obtain ⟨q, hgk, hq, rfl, hBr⟩ := hrel
    have HGK : Hid (gk = n4 - q) := hgk
    clear hgk
    by_cases hlt : q < n4
    · have hqI : (q : Int) < (n4 : Int) := by omega
      obtain ⟨b5, o5, x, ha5, hx, hcx⟩ := (R5.keep hBr).int (k := q) (by rw [HW.out.ll1, ← E4.out]; exact hlt)
      have hr := HW.out.rngL q x hx
      obtain ⟨t, rfl⟩ : ∃ t : Nat, x = t := ⟨x.toNat, by omega⟩
      have htI : (t : Int) < (n : Int) := hr.2
      obtain ⟨bq, oq, k, haq, hk, hcq⟩ := (Rq.keep hBr).int (k := q) (by omega)
      obtain ⟨bp, op, m, hap, hm, hcm⟩ := (Rp.keep hBr).int (k := t) (by omega)
      obtain ⟨be, oe, b, hae, hb, hce⟩ := (Re.keep hBr).bool (k := t) (by omega)
      have hev := HE.out q t k m b hx hk hm hb
      subst ha5 haq hap hae
      clear hx hr hk hm hb
      by_cases hk1 : k ≤ (n7 : Int)
      · by_cases hk2 : k ≤ m
        · obtain rfl : b = true := hev.2 ⟨by omega, hk2⟩
          clear hev
          go_wp2_with fail
          go_quiet (fail)
          go_wp2_with fail
          go_roundg (n4 - (q + 1))
          case measure => rw [HGK.out]; omega
          case rel => exact ⟨q + 1, rfl, by omega, by go_num, below_drewN hBr _⟩
        · obtain rfl : b = false := by
            cases b with
            | false => rfl
            | true => exact absurd (hev.1 rfl).2 hk2
          have hd2 : decide (k ≤ m) = false := decide_eq_false hk2
          clear hev
          go_wp2_with fail
          go_quiet (fail)
          go_wp2_with fail
          go_roundg (n4 - (q + 1))
          case measure => rw [HGK.out]; omega
          case rel => exact ⟨q + 1, rfl, by omega, by go_num, below_drewN hBr _⟩
      · obtain rfl : b = false := by
          cases b with
          | false => rfl
          | true => have := (hev.1 rfl).1; omega
        have hd1 : decide (k ≤ (n7 : Int)) = false := decide_eq_false hk1
        clear hev
        go_wp2_with fail
        go_quiet (fail)
        go_wp2_with fail
        go_roundg (n4 - (q + 1))
        case measure => rw [HGK.out]; omega
        case rel => exact ⟨q + 1, rfl, by omega, by go_num, below_drewN hBr _⟩
    · go_wp2_with fail
      unfold Q4
      go_ret
      exact ⟨rfl, hB.trans (hBr.mono hB.size)⟩
end Go.Proofs.Qxb6615639a
