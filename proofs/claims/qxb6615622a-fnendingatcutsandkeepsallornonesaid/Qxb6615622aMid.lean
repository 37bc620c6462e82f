import Derived.Test.Qxb6615622aParts
namespace Go.Proofs.Qxb6615622a
set_option linter.unusedVariables false
set_option linter.unusedSimpArgs false
open Go.RowKit

/-- The chains and the certificates that the law has built. -/
structure InvB (w0 wx : World) (a : Act) (n m k B : Nat) (b3 : List (List (List Int))) (css : List (List Int)) (vs ps : List Value) (G : Nat → Nat) : Prop where
  sz : a.tmps.size = 168
  df : a.defers = []
  s0 : Strss wx (a.tmps.getD 0 undef) b3
  s2 : a.tmps.getD 2 undef = .int .i64 k
  s7 : ∃ g, a.tmps.getD 7 undef = .slice (some ⟨g, 0, none⟩) n n ∧ Row wx (some ⟨g, 0, none⟩) vs
  hC : Chains wx B vs b3 G
  s8 : ∃ ca cc, a.tmps.getD 8 undef = .slice ca m cc ∧ Row wx ca ps
  hcc : Certs wx B ps css
  b : Below w0.heap.size w0 wx

set_option maxRecDepth 100000 in
set_option maxHeartbeats 1000000 in
theorem made3 (w0 w : World) (a : Act) (n m k : Nat) (b3 : List (List (List Int))) (css : List (List Int)) (D : Dom n m k b3 css) (I : InvA w0 w a n m k b3 css)
    (rest : Code) (hrest : ∀ B vs ps G a' w', InvB w0 w' a' n m k B b3 css vs ps G → rest.wp Try.prog (Q3 w0) a' w') : (grp 2 (tlN 5 (Try.f3.body.getD .skip)) rest).wp Try.prog (Q3 w0) a w := by
  obtain ⟨sz, df, s0, s1, s2, hb⟩ := I
  obtain ⟨u, hu, ha⟩ := frame3 a sz df
  simp only [hu] at s0 s1 s2
  subst ha
  clear hu sz df
  rw [s2]
  clear s2
  have HD : Hid (Dom n m k b3 css) := D
  clear D
  conv => arg 2; whnf
  simp only [grp]
  go_wp2_with fail
  refine (build_any (u 0) b3 n w s0 HD.out.en HD.out.ln HD.out.lc).mono ?_
  rintro e w1 ⟨g, vs, G, rfl, hA, hC, hg, hB1⟩
  have s0' := s0.keep hB1
  have s1' := s1.keep hB1
  go_wp2_with fail
  refine (certs_any (u 1) css m w1 s1' HD.out.em (by have := HD.out.lm; omega) HD.out.ls).mono ?_
  rintro e w2 ⟨g2, ps, rfl, hA2, hcc, hg2, hB2⟩
  have hsz := hB1.size
  go_wp2_with fail
  exact hrest w.heap.size vs ps G _ _ ⟨rfl, rfl, s0'.keep hB2, rfl, ⟨g, rfl, hA.row.keep hB2⟩, hC.keep hB2, ⟨_, _, rfl, hA2.row⟩, hcc.mono (by omega), hb.trans ((hB1.trans (hB2.mono hsz)).mono hb.size)⟩

/-- A mask at hand. -/
def Msk (w : World) (v : Value) (n : Nat) (e : Nat → Bool) : Prop := ∃ a c, v = .slice a n c ∧ Row w a (bools ((List.range n).map e))
theorem Msk.keep {w w' : World} {v : Value} {n : Nat} {e : Nat → Bool} (h : Msk w v n e) (hb : Below w.heap.size w w') : Msk w' v n e := by
  obtain ⟨a, c, h1, h2⟩ := h
  exact ⟨a, c, h1, h2.keep hb⟩

set_option maxRecDepth 100000 in
set_option maxHeartbeats 1000000 in
theorem whole3 (w0 w : World) (a : Act) (n m k B : Nat) (b3 : List (List (List Int))) (css : List (List Int)) (vs ps : List Value) (G : Nat → Nat) (D : Dom n m k b3 css) (I : InvB w0 w a n m k B b3 css vs ps G)
    (rest : Code) (hrest : ∀ a' w', InvB w0 w' a' n m k B b3 css vs ps G → Msk w' (a'.tmps.getD 9 undef) n (sel css b3) → a'.tmps.getD 10 undef = .bool true → rest.wp Try.prog (Q3 w0) a' w') : (grp 1 (tlN 7 (Try.f3.body.getD .skip)) rest).wp Try.prog (Q3 w0) a w := by
  obtain ⟨sz, df, s0, s2, ⟨g, s7, hr⟩, hC, ⟨ca, cc, s8, hcr⟩, hcc, hb⟩ := I
  obtain ⟨u, hu, ha⟩ := frame3 a sz df
  simp only [hu] at s0 s2 s7 s8
  subst ha
  clear hu sz df
  rw [s2, s7, s8]
  clear s2 s7 s8
  have HD : Hid (Dom n m k b3 css) := D
  have hn : Hid (n = vs.length) := by show _ = _; rw [hC.len]; exact D.en
  clear D
  conv => arg 2; whnf
  simp only [grp]
  go_wp2_with fail
  refine (zz_any _ ca _ cc n m vs ps b3 css G B w hn HD.out.em HD.out.ln (by have := HD.out.lm; omega) hr hC HD.out.lb hcr hcc).mono ?_
  rintro e w1 ⟨a1, c1, rfl, hr1, hB1⟩
  obtain ⟨kn, hkn⟩ : ∃ kn, kn = (picks vs (sel css b3) vs.length).length := ⟨_, rfl⟩
  have HKN : Hid (kn = (picks vs (sel css b3) vs.length).length) := hkn
  rw [← hkn]
  clear hkn
  go_wp2_with fail
  refine (mask_any a1 _ c1 n n kn vs b3 (sel css b3) G B w1 hn HKN HD.out.ln hr1 (hr.keep hB1) (hC.keep hB1) HD.out.lb).mono ?_
  rintro e w2 ⟨a2, c2, rfl, hr2, hB2⟩
  go_wp2_with fail
  have hB : Below w.heap.size w w2 := hB1.trans (hB2.mono hB1.size)
  exact hrest _ _ ⟨rfl, rfl, s0.keep hB, rfl, ⟨_, rfl, hr.keep hB⟩, hC.keep hB, ⟨_, _, rfl, hcr.keep hB⟩, hcc.keep hB, hb.trans (hB.mono hb.size)⟩ ⟨_, _, rfl, hr2⟩ rfl
end Go.Proofs.Qxb6615622a
