import Derived.Test.Qxb6615622aLasts
namespace Go.Proofs.Qxb6615622a
set_option linter.unusedVariables false
set_option linter.unusedSimpArgs false
open Go.RowKit


theorem sel_lasts {b3 : List (List (List Int))} {i : Nat} {b : List (List Int)} (h : b3[i]? = some b) : sel (lasts b3) b3 i = true := by
  rw [sel_at h]
  unfold anyB
  rw [List.any_eq_true]
  exact ⟨b.getLastD [], List.mem_of_getElem? (lasts_at h), eqB_self _⟩

theorem picks_none {α : Type} (l : List α) (e : Nat → Bool) (h : ∀ i, e i = false) : ∀ k, picks l e k = []
  | 0 => rfl
  | k + 1 => by rw [picks_succ, picks_none l e h k, h k]; rfl

theorem sel_nil (b3 : List (List (List Int))) (i : Nat) : sel [] b3 i = false := by
  unfold sel
  split <;> rfl

set_option maxRecDepth 100000 in
set_option maxHeartbeats 1000000 in
theorem fin3 (w0 w : World) (a : Act) (n m k B : Nat) (b3 : List (List (List Int))) (css : List (List Int)) (vs ps : List Value) (G : Nat → Nat) (D : Dom n m k b3 css) (I : InvE w0 w a n B b3 vs G)
    (s16 : ∃ ca cc, a.tmps.getD 16 undef = .slice ca n cc ∧ Row w ca ps) (hcc : Certs w B ps (lasts b3))
    (rest : Code) (hrest : ∀ a' w', InvE w0 w' a' n B b3 vs G → rest.wp Try.prog (Q3 w0) a' w') : (grp 3 (tlN 14 (Try.f3.body.getD .skip)) rest).wp Try.prog (Q3 w0) a w := by
  obtain ⟨sz, df, s0, ⟨g, s7, hr⟩, hC, hb⟩ := I
  obtain ⟨ca, cc, s16, hcr⟩ := s16
  obtain ⟨u, hu, ha⟩ := frame3 a sz df
  simp only [hu] at s0 s7 s16
  subst ha
  clear hu sz df
  rw [s7, s16]
  clear s7 s16
  have HD : Hid (Dom n m k b3 css) := D
  have hn : Hid (n = vs.length) := by show _ = _; rw [hC.len]; exact D.en
  have hm : Hid (n = (lasts b3).length) := by show _ = _; simp [lasts]; exact D.en
  have ln := D.ln
  clear D
  conv => arg 2; whnf
  simp only [grp]
  go_wp2_with fail
  refine (zz_any2 _ ca _ cc n n vs ps b3 (lasts b3) G B w hn hm ln (by omega) hr hC HD.out.lb hcr hcc).mono ?_
  rintro e w1 ⟨a1, c1, kn, HKN, rfl, hr1, hB1⟩
  go_wp2_with fail
  refine (mask_any a1 _ c1 n n kn vs b3 (sel (lasts b3) b3) G B w1 hn HKN ln hr1 (hr.keep hB1) (hC.keep hB1) HD.out.lb).mono ?_
  rintro e w2 ⟨a2, c2, rfl, hr2, hB2⟩
  have hB0 : Below w.heap.size w w2 := hB1.trans (hB2.mono hB1.size)
  clear hB1 hB2 hr1
  go_wp2_with fail
  go_loopg [20] n (fun gk iv wr => ∃ (i : Nat), gk = n - i ∧ i ≤ n ∧ iv = .int .i64 i ∧ wr = w2)
  case atStart => exact ⟨0, by omega, by omega, rfl, rfl⟩
  case round =>
    obtain ⟨i, hgk, hi, rfl, hw⟩ := hrel
    have hw := hw.symm
    subst hw
    have HGK : Hid (gk = n - i) := hgk
    clear hgk
    by_cases hlt : i < n
    · obtain ⟨b1, o1, ha1, hc1⟩ := Msk.cell hr2 hlt
      obtain ⟨b, hb'⟩ := some_at (xs := b3) (k := i) (by rw [← HD.out.en]; exact hlt)
      rw [sel_lasts hb'] at hc1
      subst ha1
      clear hb'
      go_wp2_with fail
      go_roundg (n - (i + 1))
      case measure => rw [HGK.out]; omega
      case rel => exact ⟨i + 1, rfl, by omega, by go_num, rfl⟩
    · have hin : n = i := by omega
      subst hin
      go_wp2_with fail
      exact hrest _ _ ⟨rfl, rfl, s0.keep hB0, ⟨_, rfl, hr.keep hB0⟩, hC.keep hB0, hb.trans (hB0.mono hb.size)⟩

set_option maxRecDepth 100000 in
set_option maxHeartbeats 1000000 in
theorem last3 (w0 w : World) (a : Act) (n m k B : Nat) (b3 : List (List (List Int))) (css : List (List Int)) (vs : List Value) (G : Nat → Nat) (D : Dom n m k b3 css) (I : InvE w0 w a n B b3 vs G) : (tlN 17 (Try.f3.body.getD .skip)).wp Try.prog (Q3 w0) a w := by
  obtain ⟨sz, df, s0, ⟨g, s7, hr⟩, hC, hb⟩ := I
  obtain ⟨u, hu, ha⟩ := frame3 a sz df
  simp only [hu] at s7
  subst ha
  clear hu sz df
  rw [s7]
  clear s7
  have hn : Hid (n = vs.length) := by show _ = _; rw [hC.len]; exact D.en
  conv => arg 2; whnf
  go_wp2_with fail
  refine (zz_any _ none _ 0 n 0 vs [] b3 [] G B w hn rfl D.ln (by omega) hr hC D.lb (.inl rfl) ⟨rfl, fun i p b h => by simp at h⟩).mono ?_
  rintro e w1 ⟨a1, c1, rfl, hr1, hB1⟩
  rw [picks_none _ _ (sel_nil b3)]
  go_wp2_with fail
  unfold Q3
  go_ret
  exact ⟨rfl, hb.trans (hB1.mono hb.size)⟩
end Go.Proofs.Qxb6615622a
