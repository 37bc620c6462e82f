import Derived.Test.Qxb6615639aCount3
namespace Go.Proofs.Qxb6615639a
open Go.RowKit
set_option linter.unusedVariables false
set_option linter.unusedSimpArgs false

set_option maxRecDepth 100000 in
set_option maxHeartbeats 1000000 in
theorem last3 (w0 wx : World) (a : Act) (first : Nat) (second : Int) (cleared n n1 n4 : Nat) (fAt fTxn fMate lAt lTxn lMate : List Int) (placed : List Bool) (f s c : Nat) (rel : List Int) (D : Dom3 first second cleared n n1 n4 fAt fTxn fMate lAt lTxn lMate placed) (h : InvZ w0 wx a first second cleared n n1 n4 fAt fTxn fMate lAt lTxn lMate placed f s c rel) :
    (tlN 26 (Try.f3.body.getD .skip)).wp Try.prog (Q3 w0) a wx := by
  obtain ⟨e, he⟩ : ∃ e : Nat → Bool, ∀ q, (e q = true ↔ Due fAt fTxn lAt lTxn placed cleared q) := ⟨fun q => @decide (Due fAt fTxn lAt lTxn placed cleared q) (Classical.propDecidable _), fun q => by simp⟩
  have hrel := ex_rel D.well D.fw h.adv D.top (e := e) fun q _ => he q
  have HE : Hid (∀ q, (e q = true ↔ Due fAt fTxn lAt lTxn placed cleared q)) := he
  have HREL : Hid (rel = picks lTxn e n4) := by rw [D.e4]; exact hrel
  obtain ⟨u, hu, ha⟩ := frame3 a h.i.sz h.i.df
  obtain ⟨x1, c1, e3, R1⟩ := h.i.s3
  obtain ⟨x2, c2, e4, R2⟩ := h.i.s4
  obtain ⟨x4, c4, e6, R4⟩ := h.i.s6
  obtain ⟨x5, c5, e7, R5⟩ := h.i.s7
  obtain ⟨xp, cp, e9, Rp⟩ := h.i.s9
  obtain ⟨xr, cr, e31, Rr⟩ := h.s31
  have e2 := h.i.s2
  have hB := h.i.b
  clear h he hrel
  simp only [hu] at e2 e3 e4 e6 e7 e9 e31
  subst ha
  clear hu
  rw [e2, e3, e4, e6, e7, e9, e31]
  clear e2 e3 e4 e6 e7 e9 e31
  have l1 := D.l1
  have l4 := D.l4
  have ln := D.ln
  have E1 : Hid (n1 = fAt.length) := D.e1
  have E4 : Hid (n4 = lAt.length) := D.e4
  have EN : Hid (n = placed.length) := D.en
  have HW : Hid (Well fAt fTxn fMate lAt lTxn lMate n) := D.well
  have HCM : (cleared : Int) ≤ 9223372036854775807 := D.cm
  have E2 : Hid (n1 = fTxn.length) := by show _ = _; rw [D.well.lf1]; exact D.e1
  clear D
  obtain ⟨rl, hrlen⟩ : ∃ rl, rl = rel.length := ⟨_, rfl⟩
  rw [← hrlen]
  have HRL : Hid (rl = rel.length) := hrlen
  clear hrlen
  conv => arg 2; whnf
  go_wp2_with fail
  go_loopg [40, 41] n4 (fun gk v1 v2 wr => ∃ q k : Nat, gk = n4 - q ∧ q ≤ n4 ∧ v1 = .int .i64 k ∧ v2 = .int .i64 q ∧ k = (picks lTxn e q).length ∧ wr = wx)
  case atStart => exact ⟨0, 0, by omega, by omega, rfl, rfl, rfl, rfl⟩
  case round =>
    obtain ⟨q, k, hgk, hq, rfl, rfl, hk, hw⟩ := hrel
    have hw := hw.symm
    subst hw
    have HGK : Hid (gk = n4 - q) := hgk
    have HK : Hid (k = (picks lTxn e q).length) := hk
    have hkq : k ≤ q := by rw [hk]; exact picks_len lTxn e q
    clear hgk hk
    have stay : Hid (e q = false → k = (picks lTxn e (q + 1)).length) := fun h => by rw [picks_succ, h, HK.out]; simp
    by_cases hlt : q < n4
    · obtain ⟨b5, o5, x, ha5, hx, hcx⟩ := R5.int (k := q) (by rw [HW.out.ll1, ← E4.out]; exact hlt)
      have hr := HW.out.rngL q x hx
      obtain ⟨t, rfl⟩ : ∃ t : Nat, x = t := ⟨x.toNat, by omega⟩
      have htI : (t : Int) < (n : Int) := hr.2
      obtain ⟨bp, op, pb, hap, hpb, hcp⟩ := Rp.bool (k := t) (by rw [← EN.out]; omega)
      obtain ⟨b4, o4, la, ha4, hla, hcl⟩ := R4.int (k := q) (by rw [← E4.out]; exact hlt)
      subst ha5 hap ha4
      have HX : Hid (lTxn[q]? = some (t : Int)) := hx
      have HLA : Hid (lAt[q]? = some la) := hla
      have HPB : Hid (pl placed (t : Int) = pb) := pl_at hpb
      clear hx hr hpb hla
      by_cases hqc : q < cleared
      · have HEQ : Hid (e q = false) := by
          show _ = _
          rcases Bool.eq_false_or_eq_true (e q) with h | h
          · have := ((HE.out q).1 h).1; omega
          · exact h
        go_wp2_with fail
        go_roundg (n4 - (q + 1))
        case measure => rw [HGK.out]; omega
        case rel => exact ⟨q + 1, k, rfl, by omega, rfl, by go_num, stay.out HEQ.out, rfl⟩
      · have hd : decide ((q : Int) < (cleared : Int)) = false := decide_eq_false (by omega)
        cases pb with
        | true =>
          have HEQ : Hid (e q = false) := by
            show _ = _
            rcases Bool.eq_false_or_eq_true (e q) with h | h
            · obtain ⟨_, la', t', _, h5, h6, _⟩ := (HE.out q).1 h
              rw [HX.out] at h5; cases h5; rw [HPB.out] at h6; cases h6
            · exact h
          go_wp2_with fail
          go_roundg (n4 - (q + 1))
          case measure => rw [HGK.out]; omega
          case rel => exact ⟨q + 1, k, rfl, by omega, rfl, by go_num, stay.out HEQ.out, rfl⟩
        | false =>
          go_wp2_with fail
          refine (freed_any x1 x2 _ c1 c2 cp n1 n fAt fTxn placed la t wx E1 E2 EN l1 ln HW.out.rngF R1 R2 Rp).mono ?_
          rintro e' w' ⟨⟨b, rfl, hbf⟩, hw⟩
          have hw := hw.symm
          subst hw
          cases b with
          | false =>
            have HEQ : Hid (e q = false) := by
              show _ = _
              rcases Bool.eq_false_or_eq_true (e q) with h | h
              · obtain ⟨_, la', t', h4, h5, h6, h7⟩ := (HE.out q).1 h
                rw [HX.out] at h5; cases h5; rw [HLA.out] at h4; cases h4
                have := hbf.2 h7; cases this
              · exact h
            clear hbf
            go_wp2_with fail
            go_roundg (n4 - (q + 1))
            case measure => rw [HGK.out]; omega
            case rel => exact ⟨q + 1, k, rfl, by omega, rfl, by go_num, stay.out HEQ.out, rfl⟩
          | true =>
            have HEQ : Hid (e q = true) := (HE.out q).2 ⟨by omega, la, t, HLA.out, HX.out, HPB.out, hbf.1 rfl⟩
            clear hbf
            have hat : rel[k]? = some (t : Int) := by rw [HREL.out, HK.out]; exact picks_at hlt HEQ.out HX.out
            have hkr : k < rl := by rw [HRL.out]; exact at_lt hat
            obtain ⟨br, orr, y, har, hy, hcy⟩ := Rr.int (k := k) (by rw [← HRL.out]; exact hkr)
            obtain rfl : y = (t : Int) := by rw [hat] at hy; exact (Option.some.inj hy).symm
            subst har
            have hkrI : (k : Int) < (rl : Int) := by omega
            have nextk : Hid (k + 1 = (picks lTxn e (q + 1)).length) := by show _ = _; rw [picks_succ, HEQ.out, HX.out, HK.out]; simp
            clear hat hy
            go_wp2_with fail
            go_roundg (n4 - (q + 1))
            case measure => rw [HGK.out]; omega
            case rel => exact ⟨q + 1, k + 1, rfl, by omega, by go_num, by go_num, nextk.out, rfl⟩
    · have hqn : n4 = q := by omega
      subst hqn
      obtain rfl : k = rl := by rw [HK.out, HRL.out, HREL.out]
      go_wp2_with fail
      unfold Q3
      go_ret
      exact ⟨rfl, hB⟩
end Go.Proofs.Qxb6615639a
