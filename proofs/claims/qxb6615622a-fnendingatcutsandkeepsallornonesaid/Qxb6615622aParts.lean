import Derived.Test.Qxb6615622aSize
import Derived.WalkSpells
import Derived.Deep.RegionWith
namespace Go.Proofs.Qxb6615622a
set_option linter.unusedVariables false
set_option linter.unusedSimpArgs false
open Go.RowKit

/-- ZZendingAt: as endingAt. -/
theorem zz_any (a ca : Option Addr) (c cc n m : Nat) (vs ps : List Value) (b3 : List (List (List Int))) (css : List (List Int)) (G : Nat → Nat) (B : Nat) (w : World) (hn : Hid (n = vs.length)) (hm : Hid (m = css.length)) (ln : n ≤ 4096) (lm : m ≤ 1048576)
    (hr : Row w a vs) (hC : Chains w B vs b3 G) (hlen : ∀ (i : Nat) b, b3[i]? = some b → 0 < b.length ∧ b.length ≤ 1048576) (hcr : Row w ca ps) (hcc : Certs w B ps css) :
    Calls Try.prog 10 #[.slice a n c, .slice ca m cc] w (EndPost css vs b3 w) := by
  go_enter Try.func10, Try.ntmps10
  go_wp2_with fail
  refine (ending_any a ca c cc n m vs ps b3 css G B w hn hm ln lm hr hC hlen hcr hcc).mono ?_
  rintro e w' ⟨a', c', rfl, hr', hB⟩
  go_wp2_with fail
  go_ret
  exact ⟨a', c', rfl, hr', hB⟩

/-! ### A long body, cut into groups of statements -/
/-- What is left behind the first k statements. -/
def tlN : Nat → Code → Code
  | 0, c => c
  | k + 1, .seq _ b => tlN k b
  | _ + 1, c => c
/-- The first m statements, and then 'r'. -/
def grp : Nat → Code → Code → Code
  | 0, _, r => r
  | m + 1, .seq a b, r => .seq a (grp m b r)
  | _ + 1, _, r => r

/-- A frame, slot by slot. -/
theorem frame_of (a : Act) {n : Nat} (hs : a.tmps.size = n) (hd : a.defers = []) : a = ⟨((List.range n).map fun i => a.tmps.getD i undef).toArray, []⟩ := by
  obtain ⟨t, d⟩ := a
  simp only at hs hd
  subst hd
  congr 1
  apply Array.ext
  · simp [hs]
  · intro i h1 h2
    simp [h1]

/-- What the body of the law comes to. -/
def Q3 (w0 : World) : Exit → Act → World → Prop := bodyPost Try.prog Try.f3 (fun e w' => e = .returned (.bool true) ∧ Below w0.heap.size w0 w')

set_option maxRecDepth 100000 in
theorem frame3 (a : Act) (hs : a.tmps.size = 168) (hd : a.defers = []) : ∃ u : Nat → Value, (∀ i, a.tmps.getD i undef = u i) ∧ a = ⟨#[u 0, u 1, u 2, u 3, u 4, u 5, u 6, u 7, u 8, u 9, u 10, u 11, u 12, u 13, u 14, u 15, u 16, u 17, u 18, u 19, u 20, u 21, u 22, u 23, u 24, u 25, u 26, u 27, u 28, u 29, u 30, u 31, u 32, u 33, u 34, u 35, u 36, u 37, u 38, u 39, u 40, u 41, u 42, u 43, u 44, u 45, u 46, u 47, u 48, u 49, u 50, u 51, u 52, u 53, u 54, u 55, u 56, u 57, u 58, u 59, u 60, u 61, u 62, u 63, u 64, u 65, u 66, u 67, u 68, u 69, u 70, u 71, u 72, u 73, u 74, u 75, u 76, u 77, u 78, u 79, u 80, u 81, u 82, u 83, u 84, u 85, u 86, u 87, u 88, u 89, u 90, u 91, u 92, u 93, u 94, u 95, u 96, u 97, u 98, u 99, u 100, u 101, u 102, u 103, u 104, u 105, u 106, u 107, u 108, u 109, u 110, u 111, u 112, u 113, u 114, u 115, u 116, u 117, u 118, u 119, u 120, u 121, u 122, u 123, u 124, u 125, u 126, u 127, u 128, u 129, u 130, u 131, u 132, u 133, u 134, u 135, u 136, u 137, u 138, u 139, u 140, u 141, u 142, u 143, u 144, u 145, u 146, u 147, u 148, u 149, u 150, u 151, u 152, u 153, u 154, u 155, u 156, u 157, u 158, u 159, u 160, u 161, u 162, u 163, u 164, u 165, u 166, u 167], []⟩ :=
  ⟨fun i => a.tmps.getD i undef, fun _ => rfl, (frame_of a hs hd).trans rfl⟩

/-- What holds of the input. -/
structure Dom (n m k : Nat) (b3 : List (List (List Int))) (css : List (List Int)) : Prop where
  en : n = b3.length
  em : m = css.length
  ln : n ≤ 4096
  lm : m ≤ 4096
  lk : k ≤ n
  lb : ∀ (i : Nat) b, b3[i]? = some b → 0 < b.length ∧ b.length ≤ 1048576
  lc : ∀ (i : Nat) b, b3[i]? = some b → b.length ≤ 1048576 ∧ ∀ (j : Nat) c, b[j]? = some c → c.length ≤ 1048576
  ls : ∀ (i : Nat) b, css[i]? = some b → b.length ≤ 1048576

/-- The input, as it stands in the frame. -/
structure InvA (w0 wx : World) (a : Act) (n m k : Nat) (b3 : List (List (List Int))) (css : List (List Int)) : Prop where
  sz : a.tmps.size = 168
  df : a.defers = []
  s0 : Strss wx (a.tmps.getD 0 undef) b3
  s1 : Strs wx (a.tmps.getD 1 undef) css
  s2 : a.tmps.getD 2 undef = .int .i64 k
  b : Below w0.heap.size w0 wx

set_option maxRecDepth 100000 in
set_option maxHeartbeats 1000000 in
theorem head3 (w : World) (a : Act) (k0 : Int) (b3 : List (List (List Int))) (css : List (List Int)) (sz : a.tmps.size = 168) (df : a.defers = [])
    (s0 : Strss w (a.tmps.getD 0 undef) b3) (s1 : Strs w (a.tmps.getD 1 undef) css) (s2 : a.tmps.getD 2 undef = .int .i64 k0)
    (rest : Code) (hrest : ∀ (n m k : Nat) a' w', Dom n m k b3 css → InvA w w' a' n m k b3 css → rest.wp Try.prog (Q3 w) a' w') : (grp 5 (tlN 0 (Try.f3.body.getD .skip)) rest).wp Try.prog (Q3 w) a w := by
  obtain ⟨u, hu, ha⟩ := frame3 a sz df
  simp only [hu] at s0 s1 s2
  subst ha
  clear hu sz df
  rw [s2]
  clear s2
  have S0 := s0
  have S1 := s1
  obtain ⟨n, hn⟩ : ∃ n, n = b3.length := ⟨_, rfl⟩
  obtain ⟨m, hm⟩ : ∃ m, m = css.length := ⟨_, rfl⟩
  obtain ⟨a0, c0, vs, e0, _, _, _⟩ := s0
  rw [← hn] at e0
  rw [e0] at S0 ⊢
  have HN : Hid (n = b3.length) := hn
  have HM : Hid (m = css.length) := hm
  have HS0 : Hid (Strss w (.slice a0 n c0) b3) := S0
  have HS1 : Hid (Strs w (u 1) css) := S1
  clear hn hm s1 S0 S1
  conv => arg 2; whnf
  simp only [grp]
  go_wp2_with fail
  refine (bytes_any _ _ _ _ _ _ HS0.out HS1.out).mono ?_
  rintro e w' ⟨b, rfl, _, hw⟩
  have hw := hw.symm
  subst hw
  cases b
  · go_wp2_with fail
    unfold Q3
    go_ret
    exact ⟨rfl, Below.refl _ _⟩
  go_wp2_with fail
  refine (size_any _ _ _ _ _ HS0.out HS1.out).mono ?_
  rintro e w' ⟨b, rfl, hsz, hw⟩
  have hw := hw.symm
  subst hw
  cases b
  · go_wp2_with fail
    unfold Q3
    go_ret
    exact ⟨rfl, Below.refl _ _⟩
  have HSZ := hsz rfl
  clear hsz
  obtain ⟨hz1, hz2, hz3, hz4⟩ := HSZ
  have HZ3 : Hid (Bd3 b3 b3.length) := hz3
  have HZ4 : Hid (Bd2 css css.length) := hz4
  have hnl : n ≤ 4096 := by rw [HN.out]; exact hz1
  have hml : m ≤ 4096 := by rw [HM.out]; exact hz2
  clear hz3 hz4 hz2
  go_wp2_with fail
  refine (none_any _ _ _ HS0.out hz1).mono ?_
  rintro e w' ⟨b, rfl, hno, hw⟩
  have hw := hw.symm
  subst hw
  cases b
  · go_wp2_with fail
    unfold Q3
    go_ret
    exact ⟨rfl, Below.refl _ _⟩
  have HNO : Hid (∀ (i : Nat) b, b3[i]? = some b → 0 < b.length) := hno rfl
  clear hno hz1
  by_cases h0 : 0 ≤ k0
  · obtain ⟨k, rfl⟩ : ∃ k : Nat, k0 = k := ⟨k0.toNat, by omega⟩
    by_cases h1 : k ≤ n
    · go_wp2_with fail
      refine hrest n m k _ _ ⟨HN.out, HM.out, hnl, hml, h1, fun i b hb => ⟨HNO.out i b hb, (HZ3.out i b (at_lt hb) hb).1⟩, fun i b hb => HZ3.out i b (at_lt hb) hb, fun i b hb => HZ4.out i b (at_lt hb) hb⟩ ⟨rfl, rfl, HS0.out, HS1.out, rfl, Below.refl _ _⟩
    · go_wp2_with fail
      unfold Q3
      go_ret
      exact ⟨rfl, Below.refl _ _⟩
  · go_wp2_with fail
    unfold Q3
    go_ret
    exact ⟨rfl, Below.refl _ _⟩
end Go.Proofs.Qxb6615622a
