import Derived.Test.Qxb6615788aParts
namespace Go.Proofs.Qxb6615788a
set_option linter.unusedVariables false
set_option linter.unusedSimpArgs false
open Go.RowKit

/-- What the totals come to. -/
structure Tots (h k : Int) (n : Nat) (xs ys : List Int) : Prop where
  f0 : 0 ≤ tot ys n
  fs : tot ys n ≤ h + tot xs n
  sk : h + tot xs n + k ≤ 18446744073709551615

/-- The flag 'balanced' in its slot. -/
def Flag (v : Value) (p : Prop) : Prop := ∃ b, v = .bool b ∧ (b = true ↔ p)

set_option maxRecDepth 100000 in
set_option maxHeartbeats 1000000 in
theorem tots4 (w0 w : World) (a : Act) (h k : Int) (i j n : Nat) (xs ys : List Int) (D : Dom h k i j n xs ys) (I : Inv w0 w a h k i j n xs ys)
    (rest : Code) (hrest : ∀ a' w', Tots h k n xs ys → Inv w0 w' a' h k i j n xs ys → Flag (a'.tmps.getD 18 undef) (h + tot xs n = tot ys n) → rest.wp Try.prog (Q4 w0) a' w') : (grp 3 (tlN 6 (Try.f4.body.getD .skip)) rest).wp Try.prog (Q4 w0) a w := by
  obtain ⟨sz, df, s0, ⟨x1, c1, e1, R1⟩, ⟨x2, c2, e2, R2⟩, s3, s4, s5, hB⟩ := I
  obtain ⟨u, hu, ha⟩ := frame4 a sz df
  simp only [hu] at s0 e1 e2 s3 s4 s5
  subst ha
  clear hu sz df
  rw [s0, e1, e2, s3, s4, s5]
  clear s0 e1 e2 s3 s4 s5
  have k0 := D.k0
  have k1 := D.k1
  conv => arg 2; whnf
  simp only [grp]
  go_wp2_with fail
  refine (count_any h x1 x2 c1 c2 n xs ys w D.h0 D.h1 D.ex D.ey D.ln R1 R2 D.fx D.fy).mono ?_
  rintro e w' ⟨s, f, ok, rfl, hok, hw⟩
  have hw := hw.symm
  subst hw
  have HOK : Hid (ok = true → s = h + tot xs n ∧ f = tot ys n ∧ 0 ≤ f ∧ f ≤ s ∧ s ≤ 18446744073709551615) := hok
  clear hok D
  cases ok with
  | false =>
    go_wp2_with fail
    unfold Q4
    go_ret
    exact ⟨rfl, hB⟩
  | true =>
    obtain ⟨hs, hf, f0, fs, sm⟩ := HOK.out rfl
    have HS : Hid (s = h + tot xs n) := hs
    have HF : Hid (f = tot ys n) := hf
    clear hs hf HOK
    by_cases hk : 18446744073709551615 - s < k
    · go_wp2_with fail
      unfold Q4
      go_ret
      exact ⟨rfl, hB⟩
    · have hT : Hid (Tots h k n xs ys) := ⟨by rw [← HF.out]; exact f0, by rw [← HF.out, ← HS.out]; exact fs, by rw [← HS.out]; omega⟩
      by_cases hsf : s = f
      · have hq : (s == f) = true := by simp [hsf]
        go_wp2_with fail
        exact hrest _ _ hT.out ⟨rfl, rfl, rfl, ⟨_, _, rfl, R1⟩, ⟨_, _, rfl, R2⟩, rfl, rfl, rfl, hB⟩ ⟨true, rfl, ⟨fun _ => by rw [← HS.out, ← HF.out, hsf], fun _ => rfl⟩⟩
      · have hq : (s == f) = false := by simp [hsf]
        have hne : ¬ h + tot xs n = tot ys n := by rw [← HS.out, ← HF.out]; exact hsf
        go_wp2_with fail
        exact hrest _ _ hT.out ⟨rfl, rfl, rfl, ⟨_, _, rfl, R1⟩, ⟨_, _, rfl, R2⟩, rfl, rfl, rfl, hB⟩ ⟨false, rfl, ⟨fun h' => Bool.noConfusion h', fun h' => absurd h' hne⟩⟩

theorem tot_set {xs : List Int} {i : Nat} {x k : Int} (hx : xs[i]? = some x) : ∀ m, m ≤ xs.length → tot (xs.set i (x + k)) m = tot xs m + if i < m then k else 0
  | 0, _ => by simp [tot]
  | m + 1, hm => by
    obtain ⟨y, hy⟩ := some_at (xs := xs) (k := m) (by omega)
    have ih := tot_set hx (k := k) m (by omega)
    rw [tot_next hy]
    by_cases e : i = m
    · subst e
      rw [hx] at hy
      cases hy
      have e1 : (xs.set i (x + k))[i]? = some (x + k) := by simp [at_lt hx]
      rw [tot_next e1, ih, if_neg (by omega), if_pos (by omega)]
      omega
    · have e1 : (xs.set i (x + k))[m]? = some y := by rw [List.getElem?_set_ne e]; exact hy
      rw [tot_next e1, ih]
      by_cases h2 : i < m
      · rw [if_pos h2, if_pos (by omega)]; omega
      · rw [if_neg h2, if_neg (by omega)]; omega

theorem fits_set {xs : List Int} {i : Nat} {v : Int} (h : Fits xs) (h0 : 0 ≤ v) (h1 : v ≤ 18446744073709551615) : Fits (xs.set i v) := by
  intro j y hy
  rw [List.getElem?_set] at hy
  split at hy
  · split at hy
    · cases hy; exact ⟨h0, h1⟩
    · cases hy
  · exact h j y hy

/-- One number of xs, one of the sum. -/
theorem le_tot {xs : List Int} (h : Fits xs) {i n : Nat} {x : Int} (hx : xs[i]? = some x) (hn : n = xs.length) : x ≤ tot xs n := by
  have h1 := tot_mono h (k := i + 1) (n - (i + 1)) (by have := at_lt hx; omega)
  rw [show i + 1 + (n - (i + 1)) = n by have := at_lt hx; omega, tot_next hx] at h1
  have := tot_nonneg h i (by have := at_lt hx; omega)
  omega

/-- A list that has k more at one place. -/
structure More (k : Int) (n : Nat) (xs xs2 : List Int) : Prop where
  len : n = xs2.length
  fits : Fits xs2
  tot : tot xs2 n = tot xs n + k

set_option maxRecDepth 100000 in
set_option maxHeartbeats 1000000 in
theorem more1 (w0 w : World) (a : Act) (h k : Int) (i j n : Nat) (xs ys : List Int) (D : Dom h k i j n xs ys) (T : Tots h k n xs ys) (I : Inv w0 w a h k i j n xs ys) (s18 : Flag (a.tmps.getD 18 undef) (h + tot xs n = tot ys n))
    (rest : Code) (hrest : ∀ xs2 a' w', More k n xs xs2 → Inv w0 w' a' h k i j n xs ys → Flag (a'.tmps.getD 18 undef) (h + tot xs n = tot ys n) → Has w' (a'.tmps.getD 19 undef) n xs2 → rest.wp Try.prog (Q4 w0) a' w') : (grp 3 (tlN 9 (Try.f4.body.getD .skip)) rest).wp Try.prog (Q4 w0) a w := by
  obtain ⟨sz, df, s0, ⟨x, c, e1, R⟩, s2, s3, s4, s5, hB⟩ := I
  obtain ⟨u, hu, ha⟩ := frame4 a sz df
  simp only [hu] at s0 e1 s2 s3 s4 s5 s18
  subst ha
  clear hu sz df
  rw [s0, e1, s3, s4, s5]
  clear s0 e1 s3 s4 s5
  have HL : Hid ((u64s xs).length = n) := by rw [u64s_length]; exact D.ex.symm
  have ln := D.ln
  have hi := D.hi
  have k0 := D.k0
  obtain ⟨v, hv⟩ := some_at (xs := xs) (k := i) (by rw [← D.ex]; exact hi)
  obtain ⟨v0, v1⟩ := D.fx i v hv
  have hvt := le_tot D.fx hv D.ex
  have hvk : v + k ≤ 18446744073709551615 := by have := T.sk; have := D.h0; omega
  have hmore : Hid (More k n xs (xs.set i (v + k))) := ⟨by simp; exact D.ex, fits_set D.fx (by omega) hvk, by rw [tot_set hv n (by have := D.ex; omega), if_pos hi]⟩
  have HV : Hid (xs[i]? = some v) := hv
  clear D T hvt hv
  obtain ⟨i0, hi0, hz0, hz1, hz2⟩ := info_parts Try.info22
  conv => arg 2; whnf
  simp only [grp]
  go_wp2_with (first | (at_make; refine wpList_make_arr _ rfl _ _ 23 rfl 22 i0 (.int .u64 0) 8 Try.underlying23 hi0 hz0 hz1 hz2 rfl _ _ _ _ n (by rfl) (by rfl) rfl rfl (by omega) (by unfold maxLen; omega) ?_; intro wm g hg hA hBm) | (refine wpList_copy_arr rfl (.tmp 113) (.tmp 114) 23 rfl 22 Try.underlying23 Try.size22 g x n n c (by rfl) (by rfl) _ (u64s xs) hA (by simp) HL.out (R.keep hBm) (u64s_one _) w.heap.size (by have := hg.out; omega) ?_; intro wn hAn hBn; have cn := hAn.cell (u64s_at HV.out); have fn := hAn.free i))
  have hK := hBm.trans hBn
  have hgw : w.heap.size ≤ g := by have := hg.out; omega
  have hK2 : ∀ v, Below w.heap.size w (wn.setCell ⟨g, i, none⟩ v) := fun v => hK.setCell (by simpa using hgw) _
  refine hrest (xs.set i (v + k)) _ _ hmore.out ⟨rfl, rfl, rfl, ⟨_, _, rfl, R.keep (hK2 _)⟩, s2.keep (hK2 _), rfl, rfl, rfl, hB.trans ((hK2 _).mono hB.size)⟩ s18 ⟨_, _, rfl, by rw [← u64s_set]; exact (hAn.set i _).row⟩
end Go.Proofs.Qxb6615788a
