import Derived.Test.Qxb6615639aParts3
namespace Go.Proofs.Qxb6615639a
open Go.RowKit
set_option linter.unusedVariables false
set_option linter.unusedSimpArgs false

/-- 'advance' has been called, and the first two unplaced slots are found. -/
structure InvY (w0 wx : World) (a : Act) (first : Nat) (second : Int) (cleared n n1 n4 : Nat) (fAt fTxn fMate lAt lTxn lMate : List Int) (placed : List Bool) (f s c u1 u2 : Nat) (rel : List Int) : Prop where
  i : InvX w0 wx a first second cleared n n1 n4 fAt fTxn fMate lAt lTxn lMate placed
  s28 : a.tmps.getD 28 undef = .int .i64 f
  s29 : a.tmps.getD 29 undef = .int .i64 s
  s30 : a.tmps.getD 30 undef = .int .i64 c
  s31 : Has wx (a.tmps.getD 31 undef) rel.length rel
  s32 : a.tmps.getD 32 undef = .int .i64 n1
  s33 : a.tmps.getD 33 undef = .int .i64 u1
  s34 : a.tmps.getD 34 undef = .int .i64 u2
  adv : Adv fAt fTxn fMate lAt lTxn placed first second cleared f s c rel
  two : Two fTxn placed 0 u1 u2

set_option maxRecDepth 100000 in
set_option maxHeartbeats 1000000 in
theorem call3 (w0 wx : World) (a : Act) (first : Nat) (second : Int) (cleared n n1 n4 : Nat) (fAt fTxn fMate lAt lTxn lMate : List Int) (placed : List Bool) (D : Dom3 first second cleared n n1 n4 fAt fTxn fMate lAt lTxn lMate placed) (h : InvX w0 wx a first second cleared n n1 n4 fAt fTxn fMate lAt lTxn lMate placed)
    (rest : Code) (hrest : ∀ f s c u1 u2 rel a' w', InvY w0 w' a' first second cleared n n1 n4 fAt fTxn fMate lAt lTxn lMate placed f s c u1 u2 rel → rest.wp Try.prog (Q3 w0) a' w') : (grp 5 (tlN 14 (Try.f3.body.getD .skip)) rest).wp Try.prog (Q3 w0) a wx := by
  obtain ⟨u, hu, ha⟩ := frame3 a h.sz h.df
  obtain ⟨x1, c1, e3, R1⟩ := h.s3
  obtain ⟨x2, c2, e4, R2⟩ := h.s4
  obtain ⟨x3, c3, e5, R3⟩ := h.s5
  obtain ⟨x4, c4, e6, R4⟩ := h.s6
  obtain ⟨x5, c5, e7, R5⟩ := h.s7
  obtain ⟨x6, c6, e8, R6⟩ := h.s8
  obtain ⟨xp, cp, e9, Rp⟩ := h.s9
  have e0 := h.s0
  have e1 := h.s1
  have e2 := h.s2
  have hB := h.b
  clear h
  simp only [hu] at e0 e1 e2 e3 e4 e5 e6 e7 e8 e9
  subst ha
  clear hu
  rw [e0, e1, e2, e3, e4, e5, e6, e7, e8, e9]
  clear e0 e1 e2 e3 e4 e5 e6 e7 e8 e9
  have l1 := D.l1
  have l4 := D.l4
  have ln := D.ln
  have E1 : Hid (n1 = fAt.length) := D.e1
  have E4 : Hid (n4 = lAt.length) := D.e4
  have EN : Hid (n = placed.length) := D.en
  have HW : Hid (Well fAt fTxn fMate lAt lTxn lMate n) := D.well
  have HF : Hid (FW fTxn placed first second cleared) := D.fw
  have HSM : Hid (-9223372036854775808 ≤ second) := D.sm
  have HCM : Hid ((cleared : Int) ≤ 9223372036854775807) := D.cm
  have E2 : Hid (n1 = fTxn.length) := by show _ = _; rw [D.well.lf1]; exact D.e1
  clear D
  conv => arg 2; whnf
  simp only [grp]
  go_wp2_with fail
  refine (zz_any fAt fTxn fMate lAt lTxn lMate placed n n1 n4 first second cleared x1 x2 x3 x4 x5 x6 xp c1 c2 c3 c4 c5 c6 cp wx HW.out E1 E4 EN (by omega) (by omega) (by omega) (by have := HF.out.f1; have := E2.out; omega) (by have := HF.out.s1; have := E2.out; omega) HSM.out HCM.out R1 R2 R3 R4 R5 R6 Rp).mono ?_
  rintro e w1 ⟨f, s, c, rel, ra, rc, rfl, hAdv, hRow, _, hBz⟩
  have HA : Hid (Adv fAt fTxn fMate lAt lTxn placed first second cleared f s c rel) := hAdv
  have R2' := R2.keep hBz
  have Rp' := Rp.keep hBz
  clear hAdv
  obtain ⟨rl, hrlen⟩ : ∃ rl, rl = rel.length := ⟨_, rfl⟩
  rw [← hrlen]
  have HRL : Hid (rl = rel.length) := hrlen
  clear hrlen
  go_wp2_with fail
  go_loopg [33, 34, 35] n1 (fun gk v1 v2 v3 wr => ∃ j u1 u2 : Nat, gk = j ∧ j ≤ n1 ∧ v3 = .int .i64 ((j : Int) - 1) ∧ v1 = .int .i64 u1 ∧ v2 = .int .i64 u2 ∧ Two fTxn placed j u1 u2 ∧ wr = w1)
  case atStart => exact ⟨n1, n1, n1, rfl, Nat.le_refl _, rfl, rfl, rfl, by rw [E2.out]; exact Two.start _ _, rfl⟩
  case round =>
    obtain ⟨j, u1, u2, hgk, hj, rfl, rfl, rfl, hT, hw⟩ := hrel
    subst hw
    have HGK : Hid (gk = j) := hgk
    clear hgk
    by_cases hj0 : j = 0
    · subst hj0
      go_wp2_with fail
      refine hrest f s c u1 u2 rel _ _ ⟨⟨rfl, rfl, rfl, rfl, rfl, ⟨_, _, rfl, R1.keep hBz⟩, ⟨_, _, rfl, R2'⟩, ⟨_, _, rfl, R3.keep hBz⟩, ⟨_, _, rfl, R4.keep hBz⟩, ⟨_, _, rfl, R5.keep hBz⟩, ⟨_, _, rfl, R6.keep hBz⟩, ⟨_, _, rfl, Rp'⟩, hB.trans (hBz.mono hB.size)⟩, rfl, rfl, rfl, ⟨ra, rc, by rw [← HRL.out]; rfl, hRow⟩, rfl, rfl, rfl, HA.out, hT⟩
    · obtain ⟨p, rfl⟩ : ∃ p, j = p + 1 := ⟨j - 1, by omega⟩
      obtain ⟨b2, o2, x, ha2, hx, hcx⟩ := R2'.int (k := p) (by rw [← E2.out]; omega)
      have hr := HW.out.rngF p x hx
      obtain ⟨t, rfl⟩ : ∃ t : Nat, x = t := ⟨x.toNat, by omega⟩
      have htI : (t : Int) < (n : Int) := hr.2
      obtain ⟨bp, op, pb, hap, hpb, hcp⟩ := Rp'.bool (k := t) (by rw [← EN.out]; omega)
      subst ha2 hap
      have HX : Hid (fTxn[p]? = some (t : Int)) := hx
      have HPB : Hid (pl placed (t : Int) = pb) := pl_at hpb
      clear hx hr hpb
      have hpI : ((p + 1 : Nat) : Int) - 1 = (p : Int) := by omega
      rw [hpI]
      have hp0 : (0 : Int) ≤ (p : Int) := by omega
      have hpn : (p : Int) < (n1 : Int) := by omega
      clear hpI
      cases pb with
      | true =>
        go_wp2_with fail
        go_roundg p
        case measure => rw [HGK.out]; omega
        case rel => exact ⟨p, u1, u2, rfl, by omega, rfl, rfl, rfl, hT.down HX.out HPB.out, rfl⟩
      | false =>
        go_wp2_with fail
        go_roundg p
        case measure => rw [HGK.out]; omega
        case rel => exact ⟨p, p, u1, rfl, by omega, rfl, rfl, rfl, hT.hit HX.out HPB.out, rfl⟩
end Go.Proofs.Qxb6615639a
