import Derived.Test.Qxb6615622aLeft
namespace Go.Proofs.Qxb6615622a
set_option linter.unusedVariables false
set_option linter.unusedSimpArgs false
open Go.RowKit

theorem Row.drop {w : World} {b o : Nat} {cs : List Value} (h : Row w (some ⟨b, o, none⟩) cs) (k : Nat) : Row w (some ⟨b, o + k, none⟩) (cs.drop k) := by
  rcases h with h | ⟨b', off, ha, hlt, hc⟩
  · subst h; exact .inl (by simp)
  · cases ha
    refine .inr ⟨b, o + k, rfl, hlt, fun i u hu => ?_⟩
    rw [List.getElem?_drop] at hu
    have := hc (k + i) u hu
    rw [show o + k + i = o + (k + i) by omega]
    exact this

/-- The invariant behind the second mask. -/
structure InvD (w0 wx : World) (a : Act) (n m k B : Nat) (b3 : List (List (List Int))) (css : List (List Int)) (vs ps : List Value) (G : Nat → Nat) : Prop extends InvC w0 wx a n m k B b3 css vs ps G where
  s11 : Msk wx (a.tmps.getD 11 undef) k (sel css (b3.take k))
  s12 : a.tmps.getD 12 undef = .bool true

set_option maxRecDepth 100000 in
set_option maxHeartbeats 1000000 in
theorem right3 (w0 w : World) (a : Act) (n m k B : Nat) (b3 : List (List (List Int))) (css : List (List Int)) (vs ps : List Value) (G : Nat → Nat) (D : Dom n m k b3 css) (I : InvD w0 w a n m k B b3 css vs ps G)
    (rest : Code) (hrest : ∀ a' w', InvD w0 w' a' n m k B b3 css vs ps G → Msk w' (a'.tmps.getD 13 undef) (n - k) (sel css (b3.drop k)) → a'.tmps.getD 14 undef = .bool true → rest.wp Try.prog (Q3 w0) a' w') : (grp 1 (tlN 9 (Try.f3.body.getD .skip)) rest).wp Try.prog (Q3 w0) a w := by
  obtain ⟨⟨⟨sz, df, s0, s2, ⟨g, s7, hr⟩, hC, ⟨ca, cc, s8, hcr⟩, hcc, hb⟩, s9, s10⟩, s11, s12⟩ := I
  obtain ⟨u, hu, ha⟩ := frame3 a sz df
  simp only [hu] at s0 s2 s7 s8 s9 s10 s11 s12
  subst ha
  clear hu sz df
  rw [s2, s7, s8, s10, s12]
  clear s2 s7 s8 s10 s12
  have HD : Hid (Dom n m k b3 css) := D
  have hn : Hid (n - k = (vs.drop k).length) := by show _ = _; have := D.en; simp [hC.len]; omega
  have lk := D.lk
  have ln := D.ln
  have lkI : (k : Int) ≤ (n : Int) := by omega
  have hlt : ∀ (i : Nat) b, (b3.drop k)[i]? = some b → 0 < b.length ∧ b.length ≤ 1048576 := fun i b h => by
    rw [List.getElem?_drop] at h
    exact D.lb _ b h
  have HLT : Hid (∀ (i : Nat) b, (b3.drop k)[i]? = some b → 0 < b.length ∧ b.length ≤ 1048576) := hlt
  clear D hlt
  have hd := below_drew w
  have hrd := (hr.keep hd).drop k
  rw [Nat.zero_add] at hrd
  have hCd := (hC.keep hd).drop k
  have hcrd := hcr.keep hd
  have hccd := hcc.keep hd
  have lm : m ≤ 1048576 := by have := HD.out.lm; omega
  have lk' : n - k ≤ 4096 := by omega
  conv => arg 2; whnf
  simp only [grp]
  by_cases hnk : n = k
  · subst hnk
    have hrd' : Row w.drew (some ⟨g, 0, none⟩) (vs.drop n) := .inl (by have := hn.out; rw [Nat.sub_self] at this; exact List.length_eq_zero_iff.1 this.symm)
    rw [Nat.sub_self] at hn hrest
    clear lk' hrd
    go_wp2_with fail
    go_region_with (first
      | (go_at_call 10; refine (zz_any2 _ ca _ cc 0 m (vs.drop n) ps (b3.drop n) css (fun i => G (n + i)) B w.drew hn HD.out.em (by omega) lm hrd' hCd HLT.out hcrd hccd).mono ?_; rintro e w1 ⟨a1, c1, kn, HKN, rfl, hr1, hB1⟩)
      | (go_at_call 9; refine (mask_any a1 _ c1 _ 0 kn (vs.drop n) (b3.drop n) (sel css (b3.drop n)) (fun i => G (n + i)) B w1 hn HKN (by omega) hr1 (hrd'.keep hB1) (hCd.keep hB1) HLT.out).mono ?_; rintro e w2 ⟨a2, c2, rfl, hr2, hB2⟩))
    all_goals
      go_wp2_with fail
      go_simp
      have hB : Below w.heap.size w w2 := hd.trans (hB1.trans (hB2.mono hB1.size))
      exact hrest _ _ ⟨⟨⟨rfl, rfl, s0.keep hB, rfl, ⟨_, rfl, hr.keep hB⟩, hC.keep hB, ⟨_, _, rfl, hcr.keep hB⟩, hcc.keep hB, hb.trans (hB.mono hb.size)⟩, s9.keep hB, rfl⟩, s11.keep hB, rfl⟩ ⟨_, _, rfl, hr2⟩ rfl
  · go_wp2_with fail
    go_region_with (first
      | (go_at_call 10; refine (zz_any2 _ ca _ cc (n - k) m (vs.drop k) ps (b3.drop k) css (fun i => G (k + i)) B w.drew hn HD.out.em lk' lm hrd hCd HLT.out hcrd hccd).mono ?_; rintro e w1 ⟨a1, c1, kn, HKN, rfl, hr1, hB1⟩)
      | (go_at_call 9; refine (mask_any a1 _ c1 _ (n - k) kn (vs.drop k) (b3.drop k) (sel css (b3.drop k)) (fun i => G (k + i)) B w1 hn HKN lk' hr1 (hrd.keep hB1) (hCd.keep hB1) HLT.out).mono ?_; rintro e w2 ⟨a2, c2, rfl, hr2, hB2⟩))
    all_goals
      go_wp2_with fail
      go_simp
      have hB : Below w.heap.size w w2 := hd.trans (hB1.trans (hB2.mono hB1.size))
      exact hrest _ _ ⟨⟨⟨rfl, rfl, s0.keep hB, rfl, ⟨_, rfl, hr.keep hB⟩, hC.keep hB, ⟨_, _, rfl, hcr.keep hB⟩, hcc.keep hB, hb.trans (hB.mono hb.size)⟩, s9.keep hB, rfl⟩, s11.keep hB, rfl⟩ ⟨_, _, rfl, hr2⟩ rfl
end Go.Proofs.Qxb6615622a
