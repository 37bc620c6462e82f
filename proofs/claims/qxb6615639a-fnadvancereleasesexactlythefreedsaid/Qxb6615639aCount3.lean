import Derived.Test.Qxb6615639aCall3
namespace Go.Proofs.Qxb6615639a
open Go.RowKit
set_option linter.unusedVariables false
set_option linter.unusedSimpArgs false

/-- Slot q of lasts is freed, none aside. -/
def Clr (fAt fTxn lAt : List Int) (placed : List Bool) (q : Nat) : Prop := ∃ la, lAt[q]? = some la ∧ FreedP fAt fTxn placed la (-1)

theorem FreedP.mono {fAt fTxn : List Int} {placed : List Bool} {la la' t : Int} (h : FreedP fAt fTxn placed la' t) (hl : la ≤ la') : FreedP fAt fTxn placed la t := fun p x y hx hy h1 h2 => h p x y hx hy (by omega) h2

theorem Pre.zero (F : Nat → Prop) : Pre F 0 0 := ⟨Nat.le_refl _, fun q h => by omega, fun q h1 h2 => by omega⟩

theorem pre_hit {fAt fTxn fMate lAt lTxn lMate : List Int} {n : Nat} {placed : List Bool} (hW : Well fAt fTxn fMate lAt lTxn lMate n) {q C : Nat} {la : Int} (h : Pre (Clr fAt fTxn lAt placed) q C) (hla : lAt[q]? = some la) (hF : FreedP fAt fTxn placed la (-1)) : Pre (Clr fAt fTxn lAt placed) (q + 1) (C + 1) := by
  have hC : C = q := by
    rcases Nat.lt_or_ge C q with h1 | h1
    · obtain ⟨lc, hlc⟩ := some_at (xs := lAt) (k := C) (by have := at_lt hla; omega)
      exact absurd ⟨lc, hlc, hF.mono (inc_le hW.incL (by omega) hlc hla)⟩ (h.no C (Nat.le_refl _) h1)
    · have := h.le; omega
  subst hC
  refine ⟨Nat.le_refl _, fun i hi => ?_, fun i h1 h2 => by omega⟩
  by_cases e : i = C
  · subst e; exact ⟨la, hla, hF⟩
  · exact h.yes i (by omega)

theorem pre_miss {fAt fTxn lAt : List Int} {placed : List Bool} {q C : Nat} {la : Int} (h : Pre (Clr fAt fTxn lAt placed) q C) (hla : lAt[q]? = some la) (hF : ¬ FreedP fAt fTxn placed la (-1)) : Pre (Clr fAt fTxn lAt placed) (q + 1) C := by
  refine ⟨by have := h.le; omega, h.yes, fun i h1 h2 => ?_⟩
  by_cases e : i = q
  · subst e
    rintro ⟨la', h3, h4⟩
    rw [hla] at h3
    cases h3
    exact hF h4
  · exact h.no i h1 (by omega)

/-- The freed ones are counted. -/
structure InvZ (w0 wx : World) (a : Act) (first : Nat) (second : Int) (cleared n n1 n4 : Nat) (fAt fTxn fMate lAt lTxn lMate : List Int) (placed : List Bool) (f s c : Nat) (rel : List Int) : Prop where
  i : InvX w0 wx a first second cleared n n1 n4 fAt fTxn fMate lAt lTxn lMate placed
  s31 : Has wx (a.tmps.getD 31 undef) rel.length rel
  adv : Adv fAt fTxn fMate lAt lTxn placed first second cleared f s c rel

set_option maxRecDepth 100000 in
set_option maxHeartbeats 1000000 in
theorem count3 (w0 wx : World) (a : Act) (first : Nat) (second : Int) (cleared n n1 n4 : Nat) (fAt fTxn fMate lAt lTxn lMate : List Int) (placed : List Bool) (f s c u1 u2 : Nat) (rel : List Int) (D : Dom3 first second cleared n n1 n4 fAt fTxn fMate lAt lTxn lMate placed) (h : InvY w0 wx a first second cleared n n1 n4 fAt fTxn fMate lAt lTxn lMate placed f s c u1 u2 rel)
    (rest : Code) (hrest : ∀ a' w', InvZ w0 w' a' first second cleared n n1 n4 fAt fTxn fMate lAt lTxn lMate placed f s c rel → rest.wp Try.prog (Q3 w0) a' w') : (grp 7 (tlN 19 (Try.f3.body.getD .skip)) rest).wp Try.prog (Q3 w0) a wx := by
  have hsec := ex_second D.well D.fw h.adv h.two
  have hfst := ex_first D.well D.fw h.adv h.two
  have hclr : Hid (∀ C, Pre (Clr fAt fTxn lAt placed) n4 C → c = max cleared C) := fun C hC => ex_cleared D.well D.fw h.adv D.en.symm D.top (by rw [← D.e4]; exact hC)
  obtain ⟨u, hu, ha⟩ := frame3 a h.i.sz h.i.df
  obtain ⟨x1, c1, e3, R1⟩ := h.i.s3
  obtain ⟨x2, c2, e4, R2⟩ := h.i.s4
  obtain ⟨x4, c4, e6, R4⟩ := h.i.s6
  obtain ⟨xp, cp, e9, Rp⟩ := h.i.s9
  obtain ⟨xr, cr, e31, Rr⟩ := h.s31
  have e0 := h.i.s0
  have e1 := h.i.s1
  have e2 := h.i.s2
  have h5 := h.i.s5
  have h7 := h.i.s7
  have h8 := h.i.s8
  have e28 := h.s28
  have e29 := h.s29
  have e30 := h.s30
  have e32 := h.s32
  have e33 := h.s33
  have e34 := h.s34
  have hB := h.i.b
  have HA : Hid (Adv fAt fTxn fMate lAt lTxn placed first second cleared f s c rel) := h.adv
  have hu1 : u1 ≤ n1 := by have := h.two.b; rw [D.well.lf1, ← D.e1] at this; exact this
  have hu2 : u2 ≤ n1 := by
    have hl := D.well.lf1
    have he := D.e1
    rcases h.two.e with ⟨_, h'⟩ | ⟨_, _, h', _⟩ <;> omega
  clear h
  simp only [hu] at e0 e1 e2 e3 e4 h5 e6 h7 h8 e9 e28 e29 e30 e31 e32 e33 e34
  subst ha
  clear hu
  rw [e0, e1, e2, e3, e4, e6, e9, e28, e29, e30, e31, e32, e33, e34]
  clear e0 e1 e2 e3 e4 e6 e9 e28 e29 e30 e31 e32 e33 e34
  have l1 := D.l1
  have l4 := D.l4
  have ln := D.ln
  have E1 : Hid (n1 = fAt.length) := D.e1
  have E4 : Hid (n4 = lAt.length) := D.e4
  have EN : Hid (n = placed.length) := D.en
  have HW : Hid (Well fAt fTxn fMate lAt lTxn lMate n) := D.well
  have HCM : (cleared : Int) ≤ 9223372036854775807 := D.cm
  have E2 : Hid (n1 = fTxn.length) := by show _ = _; rw [D.well.lf1]; exact D.e1
  obtain ⟨ws, hws⟩ : ∃ ws : Nat, ws = s := ⟨_, rfl⟩
  have HS : Hid ((u1 = n1 ∧ s = n1 + 1) ∨ (u1 < n1 ∧ s = u2)) := by rw [D.e1]; exact hsec
  have HFU : Hid (f = u1) := hfst
  clear hws hsec hfst D
  conv => arg 2; whnf
  simp only [grp]
  go_upto_if 203 with fail
  go_cut [36] from 201 to 205 (fun v wc => v = .int .i64 s ∧ wc = wx)
  case first =>
    rcases HS.out with ⟨h1, h2⟩ | ⟨h1, h2⟩
    · subst h1
      have H2 : Hid (s = u1 + 1) := h2
      clear h2
      go_wp2_with fail
      go_meet
      case rel => exact ⟨by rw [H2.out]; go_num, rfl⟩
    · have H2 : Hid (s = u2) := h2
      clear h2
      have hne : ((u1 : Int) == (n1 : Int)) = false := by simp; omega
      go_wp2_with fail
      go_meet
      case rel => exact ⟨by rw [H2.out], rfl⟩
  obtain ⟨rfl, hw⟩ := hcut
  have hw := hw.symm
  subst hw
  go_wp2_with fail
  go_loopg [37, 38] n4 (fun gk v1 v2 wr => ∃ q C : Nat, gk = n4 - q ∧ q ≤ n4 ∧ v1 = .int .i64 C ∧ v2 = .int .i64 q ∧ Pre (Clr fAt fTxn lAt placed) q C ∧ wr = wx)
  case atStart => exact ⟨0, 0, by omega, by omega, rfl, rfl, Pre.zero _, rfl⟩
  case round =>
    obtain ⟨q, C, hgk, hq, rfl, rfl, hP, hw⟩ := hrel
    have hw := hw.symm
    subst hw
    have HGK : Hid (gk = n4 - q) := hgk
    clear hgk
    have hCq := hP.le
    by_cases hlt : q < n4
    · obtain ⟨b4, o4, la, ha4, hla, hcl⟩ := R4.int (k := q) (by rw [← E4.out]; exact hlt)
      subst ha4
      have HLA : Hid (lAt[q]? = some la) := hla
      clear hla
      go_wp2_with fail
      refine (freed_any x1 x2 xp c1 c2 cp n1 n fAt fTxn placed la (-1) wx E1 E2 EN l1 ln HW.out.rngF R1 R2 Rp).mono ?_
      rintro e w' ⟨⟨b, rfl, hbf⟩, hw⟩
      have hw := hw.symm
      subst hw
      cases b with
      | true =>
        have hfr := hbf.1 rfl
        clear hbf
        go_wp2_with fail
        go_roundg (n4 - (q + 1))
        case measure => rw [HGK.out]; omega
        case rel => exact ⟨q + 1, C + 1, rfl, by omega, by go_num, by go_num, pre_hit HW.out hP HLA.out hfr, rfl⟩
      | false =>
        have hfr : ¬ FreedP fAt fTxn placed la (-1) := fun h => by have := hbf.2 h; cases this
        have HFR : Hid (¬ FreedP fAt fTxn placed la (-1)) := hfr
        clear hbf hfr
        go_wp2_with fail
        go_roundg (n4 - (q + 1))
        case measure => rw [HGK.out]; omega
        case rel => exact ⟨q + 1, C, rfl, by omega, rfl, by go_num, pre_miss hP HLA.out HFR.out, rfl⟩
    · have hqn : n4 = q := by omega
      subst hqn
      have hcc := hclr.out C hP
      have HCC : Hid (c = max cleared C) := hcc
      have HFF := HFU.out
      clear hcc hP
      by_cases hcl : cleared < C
      · obtain rfl : c = C := by have := HCC.out; omega
        subst HFF
        go_wp2_with fail
        exact hrest _ _ ⟨⟨rfl, rfl, rfl, rfl, rfl, ⟨_, _, rfl, R1⟩, ⟨_, _, rfl, R2⟩, h5, ⟨_, _, rfl, R4⟩, h7, h8, ⟨_, _, rfl, Rp⟩, hB⟩, ⟨_, _, rfl, Rr⟩, HA.out⟩
      · obtain rfl : c = cleared := by have := HCC.out; omega
        subst HFF
        go_wp2_with fail
        exact hrest _ _ ⟨⟨rfl, rfl, rfl, rfl, rfl, ⟨_, _, rfl, R1⟩, ⟨_, _, rfl, R2⟩, h5, ⟨_, _, rfl, R4⟩, h7, h8, ⟨_, _, rfl, Rp⟩, hB⟩, ⟨_, _, rfl, Rr⟩, HA.out⟩
end Go.Proofs.Qxb6615639a
