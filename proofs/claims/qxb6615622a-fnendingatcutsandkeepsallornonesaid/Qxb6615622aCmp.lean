import Derived.Test.Qxb6615622aRight
namespace Go.Proofs.Qxb6615622a
set_option linter.unusedVariables false
set_option linter.unusedSimpArgs false
open Go.RowKit

/-- What the law still wants behind the first loop. -/
structure InvE (w0 wx : World) (a : Act) (n B : Nat) (b3 : List (List (List Int))) (vs : List Value) (G : Nat → Nat) : Prop where
  sz : a.tmps.size = 168
  df : a.defers = []
  s0 : Strss wx (a.tmps.getD 0 undef) b3
  s7 : ∃ g, a.tmps.getD 7 undef = .slice (some ⟨g, 0, none⟩) n n ∧ Row wx (some ⟨g, 0, none⟩) vs
  hC : Chains wx B vs b3 G
  b : Below w0.heap.size w0 wx

theorem range_at {n i : Nat} (e : Nat → Bool) (h : i < n) : (bools ((List.range n).map e))[i]? = some (.bool (e i)) := by simp [bools, h]

theorem Msk.cell {w : World} {a : Option Addr} {n : Nat} {e : Nat → Bool} (h : Row w a (bools ((List.range n).map e))) {i : Nat} (hi : i < n) : ∃ b off, a = some ⟨b, off, none⟩ ∧ w.cell? ⟨b, off + i, none⟩ = some (.bool (e i)) := by
  obtain ⟨b, off, x, ha, hx, hc⟩ := Row.at h (k := i) (by simp [bools, hi])
  rw [range_at e hi] at hx
  cases hx
  exact ⟨b, off, ha, hc⟩

theorem sel_take {css : List (List Int)} {b3 : List (List (List Int))} {k i : Nat} (h : i < k) : sel css (b3.take k) i = sel css b3 i := by
  simp [sel, List.getElem?_take, h]
theorem sel_drop {css : List (List Int)} {b3 : List (List (List Int))} {k i : Nat} (h : k ≤ i) : sel css (b3.drop k) (i - k) = sel css b3 i := by
  simp [sel, List.getElem?_drop, show k + (i - k) = i by omega]

set_option maxRecDepth 100000 in
set_option maxHeartbeats 1000000 in
theorem cmp3 (w0 w : World) (a : Act) (n m k B : Nat) (b3 : List (List (List Int))) (css : List (List Int)) (vs ps : List Value) (G : Nat → Nat) (D : Dom n m k b3 css) (I : InvD w0 w a n m k B b3 css vs ps G)
    (s13 : Msk w (a.tmps.getD 13 undef) (n - k) (sel css (b3.drop k))) (s14 : a.tmps.getD 14 undef = .bool true)
    (rest : Code) (hrest : ∀ a' w', InvE w0 w' a' n B b3 vs G → rest.wp Try.prog (Q3 w0) a' w') : (grp 2 (tlN 10 (Try.f3.body.getD .skip)) rest).wp Try.prog (Q3 w0) a w := by
  obtain ⟨⟨⟨sz, df, s0, s2, ⟨g, s7, hr⟩, hC, _, _, hb⟩, s9, s10⟩, s11, s12⟩ := I
  obtain ⟨u, hu, ha⟩ := frame3 a sz df
  simp only [hu] at s0 s2 s7 s9 s10 s11 s12 s13 s14
  subst ha
  clear hu sz df
  obtain ⟨a9, c9, e9, r9⟩ := s9
  obtain ⟨a11, c11, e11, r11⟩ := s11
  obtain ⟨a13, c13, e13, r13⟩ := s13
  rw [s2, s7, s10, s12, s14, e9, e11, e13]
  clear s2 s7 s10 s12 s14 e9 e11 e13
  have lk := D.lk
  have ln := D.ln
  clear D
  conv => arg 2; whnf
  simp only [grp]
  go_wp2_with fail
  go_loopg [15] n (fun gk iv wr => ∃ (i : Nat), gk = n - i ∧ i ≤ n ∧ iv = .int .i64 i ∧ Below w.heap.size w wr)
  case atStart => exact ⟨0, by omega, by omega, rfl, Below.refl _ _⟩
  case round =>
    obtain ⟨i, hgk, hi, rfl, hB⟩ := hrel
    have HGK : Hid (gk = n - i) := hgk
    clear hgk
    by_cases hlt : i < n
    · obtain ⟨b1, o1, ha1, hc1⟩ := Msk.cell (r9.keep hB) hlt
      subst ha1
      obtain ⟨x, hx⟩ : ∃ x, x = sel css b3 i := ⟨_, rfl⟩
      rw [← hx] at hc1
      by_cases hk : i < k
      · obtain ⟨b2, o2, ha2, hc2⟩ := Msk.cell (r11.keep hB) hk
        rw [sel_take hk, ← hx] at hc2
        subst ha2
        clear hx
        go_wp2_with fail
        go_quiet (fail)
        go_wp2_with fail
        go_roundg (n - (i + 1))
        case measure => rw [HGK.out]; omega
        case rel => exact ⟨i + 1, rfl, by omega, by go_num, below_drewN hB _⟩
      · obtain ⟨d, rfl⟩ : ∃ d, i = k + d := ⟨i - k, by omega⟩
        have hd : d < n - k := by omega
        obtain ⟨b2, o2, ha2, hc2⟩ := Msk.cell (r13.keep hB) hd
        have e2 : sel css (b3.drop k) d = sel css b3 (k + d) := by have := sel_drop (css := css) (b3 := b3) (k := k) (i := k + d) (by omega); rwa [show k + d - k = d by omega] at this
        rw [e2, ← hx] at hc2
        subst ha2
        clear hx e2
        go_wp2_with fail
        go_quiet (fail)
        go_wp2_with fail
        go_roundg (n - (k + d + 1))
        case measure => rw [HGK.out]; omega
        case rel => exact ⟨k + d + 1, rfl, by omega, by go_num, below_drewN hB _⟩
    · have hin : n = i := by omega
      subst hin
      go_wp2_with fail
      exact hrest _ _ ⟨rfl, rfl, s0.keep hB, ⟨_, rfl, hr.keep hB⟩, hC.keep hB, hb.trans (hB.mono hb.size)⟩
end Go.Proofs.Qxb6615622a
