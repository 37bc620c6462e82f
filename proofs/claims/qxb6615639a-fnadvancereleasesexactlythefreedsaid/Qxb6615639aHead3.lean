import Derived.Test.Qxb6615639aParts3
namespace Go.Proofs.Qxb6615639a
open Go.RowKit
set_option linter.unusedVariables false
set_option linter.unusedSimpArgs false

set_option maxRecDepth 100000 in
set_option maxHeartbeats 1000000 in
theorem head3 (w : World) (a : Act) (b0 b1 b2 : Int) (a1 a2 a3 a4 a5 a6 a7 : Option Addr) (c1 c2 c3 c4 c5 c6 c7 n1 n2 n3 n4 n5 n6 n : Nat) (fAt fTxn fMate lAt lTxn lMate : List Int) (placed : List Bool)
    (e1 : Hid (n1 = fAt.length)) (e2 : Hid (n2 = fTxn.length)) (e3 : Hid (n3 = fMate.length)) (e4 : Hid (n4 = lAt.length)) (e5 : Hid (n5 = lTxn.length)) (e6 : Hid (n6 = lMate.length)) (e7 : Hid (n = placed.length))
    (r1 : Row w a1 (ints fAt)) (r2 : Row w a2 (ints fTxn)) (r3 : Row w a3 (ints fMate)) (r4 : Row w a4 (ints lAt)) (r5 : Row w a5 (ints lTxn)) (r6 : Row w a6 (ints lMate)) (r7 : Row w a7 (bools placed))
    (htop : ∀ (q : Nat) x, lAt[q]? = some x → x ≤ top) (hsm : -9223372036854775808 ≤ b1) (hcm : b2 ≤ 9223372036854775807)
    (sz : a.tmps.size = 289) (df : a.defers = []) (s0 : a.tmps.getD 0 undef = .int .i64 b0) (s1 : a.tmps.getD 1 undef = .int .i64 b1) (s2 : a.tmps.getD 2 undef = .int .i64 b2) (s3 : a.tmps.getD 3 undef = .slice a1 n1 c1) (s4 : a.tmps.getD 4 undef = .slice a2 n2 c2) (s5 : a.tmps.getD 5 undef = .slice a3 n3 c3)
    (s6 : a.tmps.getD 6 undef = .slice a4 n4 c4) (s7 : a.tmps.getD 7 undef = .slice a5 n5 c5) (s8 : a.tmps.getD 8 undef = .slice a6 n6 c6) (s9 : a.tmps.getD 9 undef = .slice a7 n c7)
    (rest : Code) (hrest : ∀ (first : Nat) (second : Int) (cleared : Nat) a' w', Dom3 first second cleared n n1 n4 fAt fTxn fMate lAt lTxn lMate placed → InvX w w' a' first second cleared n n1 n4 fAt fTxn fMate lAt lTxn lMate placed → rest.wp Try.prog (Q3 w) a' w') : (grp 7 (tlN 0 (Try.f3.body.getD .skip)) rest).wp Try.prog (Q3 w) a w := by
  have HT : Hid (∀ (q : Nat) x, lAt[q]? = some x → x ≤ top) := htop
  have HSM : Hid (-9223372036854775808 ≤ b1) := hsm
  have HCM : Hid (b2 ≤ 9223372036854775807) := hcm
  obtain ⟨u, hu, ha⟩ := frame3 a sz df
  simp only [hu] at s0 s1 s2 s3 s4 s5 s6 s7 s8 s9
  subst ha
  clear hu sz df htop hsm hcm
  rw [s0, s1, s2, s3, s4, s5, s6, s7, s8, s9]
  clear s0 s1 s2 s3 s4 s5 s6 s7 s8 s9
  conv => arg 2; whnf
  simp only [grp]
  by_cases hok : n1 ≤ 1024 ∧ n2 ≤ 1024 ∧ n3 ≤ 1024 ∧ n4 ≤ 1024 ∧ n5 ≤ 1024 ∧ n6 ≤ 1024 ∧ n ≤ 65536
  · obtain ⟨l1, l2, l3, l4, l5, l6, ln⟩ := hok
    go_wp2_with fail
    refine (bytes5_any _ _ _ _ _ _ _ _ _ _ _ _ _ _ _ _ _ _ _ _ _ _ _ _ _).mono ?_
    rintro e w' ⟨⟨b, rfl⟩, hw⟩
    have hw := hw.symm
    subst hw
    cases b
    · go_wp2_with fail
      unfold Q3
      go_ret
      exact ⟨rfl, Below.refl _ _⟩
    go_wp2_with fail
    refine (span_any a1 a2 a3 a4 a5 a6 c1 c2 c3 c4 c5 c6 fAt fTxn fMate lAt lTxn lMate n1 n2 n3 n4 n5 n6 n w e1 e2 e3 e4 e5 e6 (by omega) (by omega) (by omega) r1 r2 r3 r4 r5 r6).mono ?_
    rintro e w1 ⟨b, rfl, hW, hB1⟩
    cases b
    · go_wp2_with fail
      unfold Q3
      go_ret
      exact ⟨rfl, hB1⟩
    have HW := hW rfl
    obtain rfl : n1 = n2 := by have := HW.lf1; rw [e1.out, e2.out, this]
    obtain rfl : n1 = n3 := by have := HW.lf2; rw [e1.out, e3.out, this]
    obtain rfl : n4 = n5 := by have := HW.ll1; rw [e4.out, e5.out, this]
    obtain rfl : n4 = n6 := by have := HW.ll2; rw [e4.out, e6.out, this]
    have HWW : Hid (Well fAt fTxn fMate lAt lTxn lMate n) := HW
    clear hW HW
    go_wp2_with fail
    refine (front_any b0 b1 b2 a2 a7 c2 c7 n1 n fTxn placed w1 e2 e7 l1 ln HWW.out.rngF (r2.keep hB1) (r7.keep hB1)).mono ?_
    rintro e w' ⟨⟨b, rfl, hF⟩, hw⟩
    have hw := hw.symm
    subst hw
    cases b
    · go_wp2_with fail
      unfold Q3
      go_ret
      exact ⟨rfl, hB1⟩
    have HF := hF rfl
    clear hF
    obtain ⟨first, rfl⟩ : ∃ k : Nat, b0 = k := ⟨b0.toNat, by have := HF.f0; omega⟩
    obtain ⟨cleared, rfl⟩ : ∃ k : Nat, b2 = k := ⟨b2.toNat, by have := HF.c0; omega⟩
    have HD : Hid (Dom3 first b1 cleared n n1 n4 fAt fTxn fMate lAt lTxn lMate placed) := ⟨HWW.out, HF, e1.out, e4.out, e7.out, l1, l4, ln, HSM.out, HCM.out, HT.out⟩
    clear HF
    go_wp2_with fail
    exact hrest first b1 cleared _ _ HD.out ⟨rfl, rfl, rfl, rfl, rfl, ⟨_, _, rfl, r1.keep hB1⟩, ⟨_, _, rfl, r2.keep hB1⟩, ⟨_, _, rfl, r3.keep hB1⟩, ⟨_, _, rfl, r4.keep hB1⟩, ⟨_, _, rfl, r5.keep hB1⟩, ⟨_, _, rfl, r6.keep hB1⟩, ⟨_, _, rfl, r7.keep hB1⟩, hB1⟩
  · go_wp2_with fail
    refine (bytes5_any _ _ _ _ _ _ _ _ _ _ _ _ _ _ _ _ _ _ _ _ _ _ _ _ _).mono ?_
    rintro e w' ⟨⟨b, rfl⟩, hw⟩
    have hw := hw.symm
    subst hw
    go_wp2_with fail
    all_goals (unfold Q3; go_ret; exact ⟨rfl, Below.refl _ _⟩)
end Go.Proofs.Qxb6615639a
