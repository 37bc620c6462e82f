import Derived.Test.Qxb6615622aMid
namespace Go.Proofs.Qxb6615622a
set_option linter.unusedVariables false
set_option linter.unusedSimpArgs false
open Go.RowKit

theorem Row.take {w : World} {a : Option Addr} {cs : List Value} (h : Row w a cs) (k : Nat) : Row w a (cs.take k) := by
  rcases h with h | ⟨b, off, ha, hlt, hc⟩
  · subst h; exact .inl (by simp)
  · refine .inr ⟨b, off, ha, hlt, fun i u hu => hc i u ?_⟩
    rw [List.getElem?_take] at hu
    split at hu
    · exact hu
    · cases hu

theorem below_drew (w : World) : Below w.heap.size w w.drew := ⟨rfl, rfl, rfl, Nat.le_refl _, fun _ _ => rfl⟩

/-- The same, the length by a letter. -/
def EndPost2 (css : List (List Int)) (vs : List Value) (b3 : List (List (List Int))) (w : World) (e : Ending) (w' : World) : Prop :=
  ∃ a c kn, Hid (kn = (picks vs (sel css b3) vs.length).length) ∧ e = .returned (.slice a kn c) ∧ Row w' a (picks vs (sel css b3) vs.length) ∧ Below w.heap.size w w'
theorem zz_any2 (a ca : Option Addr) (c cc n m : Nat) (vs ps : List Value) (b3 : List (List (List Int))) (css : List (List Int)) (G : Nat → Nat) (B : Nat) (w : World) (hn : Hid (n = vs.length)) (hm : Hid (m = css.length)) (ln : n ≤ 4096) (lm : m ≤ 1048576)
    (hr : Row w a vs) (hC : Chains w B vs b3 G) (hlen : ∀ (i : Nat) b, b3[i]? = some b → 0 < b.length ∧ b.length ≤ 1048576) (hcr : Row w ca ps) (hcc : Certs w B ps css) :
    Calls Try.prog 10 #[.slice a n c, .slice ca m cc] w (EndPost2 css vs b3 w) := by
  refine (zz_any a ca c cc n m vs ps b3 css G B w hn hm ln lm hr hC hlen hcr hcc).mono ?_
  rintro e w' ⟨a', c', rfl, hr', hB⟩
  exact ⟨a', c', _, rfl, rfl, hr', hB⟩

/-- The invariant behind the first mask. -/
structure InvC (w0 wx : World) (a : Act) (n m k B : Nat) (b3 : List (List (List Int))) (css : List (List Int)) (vs ps : List Value) (G : Nat → Nat) : Prop extends InvB w0 wx a n m k B b3 css vs ps G where
  s9 : Msk wx (a.tmps.getD 9 undef) n (sel css b3)
  s10 : a.tmps.getD 10 undef = .bool true

set_option maxRecDepth 100000 in
set_option maxHeartbeats 1000000 in
theorem left3 (w0 w : World) (a : Act) (n m k B : Nat) (b3 : List (List (List Int))) (css : List (List Int)) (vs ps : List Value) (G : Nat → Nat) (D : Dom n m k b3 css) (I : InvC w0 w a n m k B b3 css vs ps G)
    (rest : Code) (hrest : ∀ a' w', InvC w0 w' a' n m k B b3 css vs ps G → Msk w' (a'.tmps.getD 11 undef) k (sel css (b3.take k)) → a'.tmps.getD 12 undef = .bool true → rest.wp Try.prog (Q3 w0) a' w') : (grp 1 (tlN 8 (Try.f3.body.getD .skip)) rest).wp Try.prog (Q3 w0) a w := by
  obtain ⟨⟨sz, df, s0, s2, ⟨g, s7, hr⟩, hC, ⟨ca, cc, s8, hcr⟩, hcc, hb⟩, s9, s10⟩ := I
  obtain ⟨u, hu, ha⟩ := frame3 a sz df
  simp only [hu] at s0 s2 s7 s8 s9 s10
  subst ha
  clear hu sz df
  rw [s2, s7, s8, s10]
  clear s2 s7 s8 s10
  have HD : Hid (Dom n m k b3 css) := D
  have hn : Hid (k = (vs.take k).length) := by show _ = _; have := D.en; have := D.lk; simp [hC.len]; omega
  have lk := D.lk
  have ln := D.ln
  have lkI : (k : Int) ≤ (n : Int) := by omega
  have hlt : ∀ (i : Nat) b, (b3.take k)[i]? = some b → 0 < b.length ∧ b.length ≤ 1048576 := fun i b h => by
    rw [List.getElem?_take] at h
    split at h
    · exact D.lb i b h
    · cases h
  have HLT : Hid (∀ (i : Nat) b, (b3.take k)[i]? = some b → 0 < b.length ∧ b.length ≤ 1048576) := hlt
  clear D hlt
  have hd := below_drew w
  have hrd := (hr.keep hd).take k
  have hCd := (hC.keep hd).take k
  have hcrd := hcr.keep hd
  have hccd := hcc.keep hd
  have lm : m ≤ 1048576 := by have := HD.out.lm; omega
  have lk' : k ≤ 4096 := by omega
  conv => arg 2; whnf
  simp only [grp]
  go_wp2_with fail
  go_region_with (first
    | (go_at_call 10; refine (zz_any2 _ ca _ cc k m (vs.take k) ps (b3.take k) css G B w.drew hn HD.out.em lk' lm hrd hCd HLT.out hcrd hccd).mono ?_; rintro e w1 ⟨a1, c1, kn, HKN, rfl, hr1, hB1⟩)
    | (go_at_call 9; refine (mask_any a1 _ c1 _ k kn (vs.take k) (b3.take k) (sel css (b3.take k)) G B w1 hn HKN lk' hr1 (hrd.keep hB1) (hCd.keep hB1) HLT.out).mono ?_; rintro e w2 ⟨a2, c2, rfl, hr2, hB2⟩))
  all_goals
    go_wp2_with fail
    go_simp
    have hB : Below w.heap.size w w2 := hd.trans (hB1.trans (hB2.mono hB1.size))
    exact hrest _ _ ⟨⟨rfl, rfl, s0.keep hB, rfl, ⟨_, rfl, hr.keep hB⟩, hC.keep hB, ⟨_, _, rfl, hcr.keep hB⟩, hcc.keep hB, hb.trans (hB.mono hb.size)⟩, s9.keep hB, rfl⟩ ⟨_, _, rfl, hr2⟩ rfl
end Go.Proofs.Qxb6615622a
