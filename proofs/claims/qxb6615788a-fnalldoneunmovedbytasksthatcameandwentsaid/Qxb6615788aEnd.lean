import Derived.Test.Qxb6615788aMid
namespace Go.Proofs.Qxb6615788a
set_option linter.unusedVariables false
set_option linter.unusedSimpArgs false
open Go.RowKit

set_option maxRecDepth 100000 in
set_option maxHeartbeats 1000000 in
theorem more2 (w0 w : World) (a : Act) (h k : Int) (i j n : Nat) (xs ys : List Int) (D : Dom h k i j n xs ys) (T : Tots h k n xs ys) (xs2 : List Int) (I : Inv w0 w a h k i j n xs ys) (s18 : Flag (a.tmps.getD 18 undef) (h + tot xs n = tot ys n)) (s19 : Has w (a.tmps.getD 19 undef) n xs2)
    (rest : Code) (hrest : ∀ ys2 a' w', More k n ys ys2 → Inv w0 w' a' h k i j n xs ys → Flag (a'.tmps.getD 18 undef) (h + tot xs n = tot ys n) → Has w' (a'.tmps.getD 19 undef) n xs2 → Has w' (a'.tmps.getD 20 undef) n ys2 → rest.wp Try.prog (Q4 w0) a' w') : (grp 3 (tlN 12 (Try.f4.body.getD .skip)) rest).wp Try.prog (Q4 w0) a w := by
  obtain ⟨sz, df, s0, s1, ⟨x, c, e1, R⟩, s3, s4, s5, hB⟩ := I
  obtain ⟨u, hu, ha⟩ := frame4 a sz df
  simp only [hu] at s0 s1 e1 s3 s4 s5 s18 s19
  subst ha
  clear hu sz df
  rw [s0, e1, s3, s4, s5]
  clear s0 e1 s3 s4 s5
  have HL : Hid ((u64s ys).length = n) := by rw [u64s_length]; exact D.ey.symm
  have ln := D.ln
  have hj := D.hj
  have k0 := D.k0
  obtain ⟨v, hv⟩ := some_at (xs := ys) (k := j) (by rw [← D.ey]; exact hj)
  obtain ⟨v0, v1⟩ := D.fy j v hv
  have hvt := le_tot D.fy hv D.ey
  have hvk : v + k ≤ 18446744073709551615 := by have := T.sk; have := T.fs; omega
  have hmore : Hid (More k n ys (ys.set j (v + k))) := ⟨by simp; exact D.ey, fits_set D.fy (by omega) hvk, by rw [tot_set hv n (by have := D.ey; omega), if_pos hj]⟩
  have HV : Hid (ys[j]? = some v) := hv
  clear D T hvt hv
  obtain ⟨i0, hi0, hz0, hz1, hz2⟩ := info_parts Try.info22
  conv => arg 2; whnf
  simp only [grp]
  go_wp2_with (first | (at_make; refine wpList_make_arr _ rfl _ _ 23 rfl 22 i0 (.int .u64 0) 8 Try.underlying23 hi0 hz0 hz1 hz2 rfl _ _ _ _ n (by rfl) (by rfl) rfl rfl (by omega) (by unfold maxLen; omega) ?_; intro wm g hg hA hBm) | (refine wpList_copy_arr rfl (.tmp 126) (.tmp 127) 23 rfl 22 Try.underlying23 Try.size22 g x n n c (by rfl) (by rfl) _ (u64s ys) hA (by simp) HL.out (R.keep hBm) (u64s_one _) w.heap.size (by have := hg.out; omega) ?_; intro wn hAn hBn; have cn := hAn.cell (u64s_at HV.out); have fn := hAn.free j))
  have hK := hBm.trans hBn
  have hgw : w.heap.size ≤ g := by have := hg.out; omega
  have hK2 : ∀ v, Below w.heap.size w (wn.setCell ⟨g, j, none⟩ v) := fun v => hK.setCell (by simpa using hgw) _
  refine hrest (ys.set j (v + k)) _ _ hmore.out ⟨rfl, rfl, rfl, s1.keep (hK2 _), ⟨_, _, rfl, R.keep (hK2 _)⟩, rfl, rfl, rfl, hB.trans ((hK2 _).mono hB.size)⟩ s18 (s19.keep (hK2 _)) ⟨_, _, rfl, by rw [← u64s_set]; exact (hAn.set j _).row⟩
/-- All that the last statements want. -/
structure Inv3 (w0 wx : World) (a : Act) (h k : Int) (n : Nat) (xs ys xs2 ys2 : List Int) : Prop where
  sz : a.tmps.size = 168
  df : a.defers = []
  s0 : a.tmps.getD 0 undef = .int .u64 h
  s1 : Has wx (a.tmps.getD 1 undef) n xs
  s2 : Has wx (a.tmps.getD 2 undef) n ys
  s5 : a.tmps.getD 5 undef = .int .u64 k
  s18 : Flag (a.tmps.getD 18 undef) (h + tot xs n = tot ys n)
  s19 : Has wx (a.tmps.getD 19 undef) n xs2
  s20 : Has wx (a.tmps.getD 20 undef) n ys2
  b : Below w0.heap.size w0 wx

set_option maxRecDepth 100000 in
set_option maxHeartbeats 1000000 in
theorem before4 (w0 w : World) (a : Act) (h k : Int) (n : Nat) (xs ys xs2 ys2 : List Int) (ex : Hid (n = xs.length)) (ey : Hid (n = ys.length)) (ln : n ≤ 65536) (h0 : 0 ≤ h) (fx : Hid (Fits xs)) (fy : Hid (Fits ys)) (hT : Hid (h + tot xs n ≤ 18446744073709551615)) (hY : Hid (tot ys n ≤ 18446744073709551615))
    (I : Inv3 w0 w a h k n xs ys xs2 ys2)
    (rest : Code) (hrest : ∀ a' w', Inv3 w0 w' a' h k n xs ys xs2 ys2 → Flag (a'.tmps.getD 21 undef) (tot ys n = h + tot xs n) → rest.wp Try.prog (Q4 w0) a' w') : (grp 1 (tlN 15 (Try.f4.body.getD .skip)) rest).wp Try.prog (Q4 w0) a w := by
  obtain ⟨sz, df, s0, ⟨x1, c1, e1, R1⟩, ⟨x2, c2, e2, R2⟩, s5, s18, s19, s20, hB⟩ := I
  obtain ⟨u, hu, ha⟩ := frame4 a sz df
  simp only [hu] at s0 e1 e2 s5 s18 s19 s20 
  subst ha
  clear hu sz df
  rw [s0, e1, e2, s5]
  clear s0 e1 e2 s5
  have HB : Hid (Below w0.heap.size w0 w) := hB
  clear hB
  conv => arg 2; whnf
  simp only [grp]
  go_wp2_with fail
  refine (new_any h x1 x2 c1 c2 n xs ys w ex ey ln R1 R2).mono ?_
  rintro e w1 ⟨p, rfl, hs, hK⟩
  have HS : Hid (Sched w1 p h xs ys n) := hs
  clear hs
  go_wp2_with fail
  refine (zzdone_any p h xs ys n w1 HS.out ex ey ln h0 fx fy hT.out hY.out).mono ?_
  rintro e w2 ⟨b, rfl, hb, hw⟩
  have hw := hw.symm
  subst hw
  have HBB : Hid (b = true ↔ tot ys n = h + tot xs n) := hb
  clear hb
  go_wp2_with fail
  exact hrest _ _ ⟨rfl, rfl, rfl, ⟨_, _, rfl, R1.keep hK⟩, ⟨_, _, rfl, R2.keep hK⟩, rfl, s18, s19.keep hK, s20.keep hK, HB.out.trans (hK.mono HB.out.size)⟩  ⟨b, rfl, HBB.out⟩

set_option maxRecDepth 100000 in
set_option maxHeartbeats 1000000 in
theorem only4 (w0 w : World) (a : Act) (h k : Int) (n : Nat) (xs ys xs2 ys2 : List Int) (ex : Hid (n = xs2.length)) (ey : Hid (n = ys.length)) (ln : n ≤ 65536) (h0 : 0 ≤ h) (fx : Hid (Fits xs2)) (fy : Hid (Fits ys)) (hT : Hid (h + tot xs2 n ≤ 18446744073709551615)) (hY : Hid (tot ys n ≤ 18446744073709551615))
    (I : Inv3 w0 w a h k n xs ys xs2 ys2) (s21 : Flag (a.tmps.getD 21 undef) (tot ys n = h + tot xs n))
    (rest : Code) (hrest : ∀ a' w', Inv3 w0 w' a' h k n xs ys xs2 ys2 → Flag (a'.tmps.getD 21 undef) (tot ys n = h + tot xs n) → Flag (a'.tmps.getD 22 undef) (tot ys n = h + tot xs2 n) → rest.wp Try.prog (Q4 w0) a' w') : (grp 1 (tlN 16 (Try.f4.body.getD .skip)) rest).wp Try.prog (Q4 w0) a w := by
  obtain ⟨sz, df, s0, s1, ⟨x2, c2, e2, R2⟩, s5, s18, ⟨x1, c1, e1, R1⟩, s20, hB⟩ := I
  obtain ⟨u, hu, ha⟩ := frame4 a sz df
  simp only [hu] at s0 e1 e2 s5 s18 s1 s20 s21
  subst ha
  clear hu sz df
  rw [s0, e1, e2, s5]
  clear s0 e1 e2 s5
  have HB : Hid (Below w0.heap.size w0 w) := hB
  clear hB
  conv => arg 2; whnf
  simp only [grp]
  go_wp2_with fail
  refine (new_any h x1 x2 c1 c2 n xs2 ys w ex ey ln R1 R2).mono ?_
  rintro e w1 ⟨p, rfl, hs, hK⟩
  have HS : Hid (Sched w1 p h xs2 ys n) := hs
  clear hs
  go_wp2_with fail
  refine (zzdone_any p h xs2 ys n w1 HS.out ex ey ln h0 fx fy hT.out hY.out).mono ?_
  rintro e w2 ⟨b, rfl, hb, hw⟩
  have hw := hw.symm
  subst hw
  have HBB : Hid (b = true ↔ tot ys n = h + tot xs2 n) := hb
  clear hb
  go_wp2_with fail
  exact hrest _ _ ⟨rfl, rfl, rfl, s1.keep hK, ⟨_, _, rfl, R2.keep hK⟩, rfl, s18, ⟨_, _, rfl, R1.keep hK⟩, s20.keep hK, HB.out.trans (hK.mono HB.out.size)⟩ s21 ⟨b, rfl, HBB.out⟩

set_option maxRecDepth 100000 in
set_option maxHeartbeats 1000000 in
theorem went4 (w0 w : World) (a : Act) (h k : Int) (n : Nat) (xs ys xs2 ys2 : List Int) (ex : Hid (n = xs2.length)) (ey : Hid (n = ys2.length)) (ln : n ≤ 65536) (h0 : 0 ≤ h) (fx : Hid (Fits xs2)) (fy : Hid (Fits ys2)) (hT : Hid (h + tot xs2 n ≤ 18446744073709551615)) (hY : Hid (tot ys2 n ≤ 18446744073709551615))
    (I : Inv3 w0 w a h k n xs ys xs2 ys2) (s21 : Flag (a.tmps.getD 21 undef) (tot ys n = h + tot xs n)) (s22 : Flag (a.tmps.getD 22 undef) (tot ys n = h + tot xs2 n))
    (rest : Code) (hrest : ∀ a' w', Inv3 w0 w' a' h k n xs ys xs2 ys2 → Flag (a'.tmps.getD 21 undef) (tot ys n = h + tot xs n) → Flag (a'.tmps.getD 22 undef) (tot ys n = h + tot xs2 n) → Flag (a'.tmps.getD 23 undef) (tot ys2 n = h + tot xs2 n) → rest.wp Try.prog (Q4 w0) a' w') : (grp 1 (tlN 17 (Try.f4.body.getD .skip)) rest).wp Try.prog (Q4 w0) a w := by
  obtain ⟨sz, df, s0, s1, s2, s5, s18, ⟨x1, c1, e1, R1⟩, ⟨x2, c2, e2, R2⟩, hB⟩ := I
  obtain ⟨u, hu, ha⟩ := frame4 a sz df
  simp only [hu] at s0 e1 e2 s5 s18 s1 s2 s21 s22
  subst ha
  clear hu sz df
  rw [s0, e1, e2, s5]
  clear s0 e1 e2 s5
  have HB : Hid (Below w0.heap.size w0 w) := hB
  clear hB
  conv => arg 2; whnf
  simp only [grp]
  go_wp2_with fail
  refine (new_any h x1 x2 c1 c2 n xs2 ys2 w ex ey ln R1 R2).mono ?_
  rintro e w1 ⟨p, rfl, hs, hK⟩
  have HS : Hid (Sched w1 p h xs2 ys2 n) := hs
  clear hs
  go_wp2_with fail
  refine (zzdone_any p h xs2 ys2 n w1 HS.out ex ey ln h0 fx fy hT.out hY.out).mono ?_
  rintro e w2 ⟨b, rfl, hb, hw⟩
  have hw := hw.symm
  subst hw
  have HBB : Hid (b = true ↔ tot ys2 n = h + tot xs2 n) := hb
  clear hb
  go_wp2_with fail
  exact hrest _ _ ⟨rfl, rfl, rfl, s1.keep hK, s2.keep hK, rfl, s18, ⟨_, _, rfl, R1.keep hK⟩, ⟨_, _, rfl, R2.keep hK⟩, HB.out.trans (hK.mono HB.out.size)⟩ s21 s22 ⟨b, rfl, HBB.out⟩

theorem flag_eq {p q : Bool} {P R : Prop} (hp : p = true ↔ P) (hq : q = true ↔ R) (h : P ↔ R) : p = q := by
  cases p <;> cases q <;> simp_all

set_option maxRecDepth 100000 in
set_option maxHeartbeats 1000000 in
theorem end4 (w0 w : World) (a : Act) (h k : Int) (n : Nat) (xs ys xs2 ys2 : List Int) (k0 : 0 ≤ k) (T : Tots h k n xs ys) (M1 : More k n xs xs2) (M2 : More k n ys ys2) (I : Inv3 w0 w a h k n xs ys xs2 ys2)
    (s21 : Flag (a.tmps.getD 21 undef) (tot ys n = h + tot xs n)) (s22 : Flag (a.tmps.getD 22 undef) (tot ys n = h + tot xs2 n)) (s23 : Flag (a.tmps.getD 23 undef) (tot ys2 n = h + tot xs2 n)) :
    (tlN 18 (Try.f4.body.getD .skip)).wp Try.prog (Q4 w0) a w := by
  obtain ⟨sz, df, _, _, _, s5, ⟨bal, e18, h18⟩, _, _, hB⟩ := I
  obtain ⟨b1, e21, h21⟩ := s21
  obtain ⟨b2, e22, h22⟩ := s22
  obtain ⟨b3, e23, h23⟩ := s23
  obtain ⟨u, hu, ha⟩ := frame4 a sz df
  simp only [hu] at s5 e18 e21 e22 e23
  subst ha
  clear hu sz df
  rw [s5, e18, e21, e22, e23]
  clear s5 e18 e21 e22 e23
  have t1 := M1.tot
  have t2 := M2.tot
  have fs := T.fs
  obtain rfl : b1 = bal := flag_eq h21 h18 ⟨fun h => by omega, fun h => by omega⟩
  obtain rfl : b3 = b1 := flag_eq h23 h18 ⟨fun h => by omega, fun h => by omega⟩
  have hB' : Hid (Below w0.heap.size w0 w) := hB
  by_cases hk : k = 0
  · obtain rfl : b2 = b3 := flag_eq h22 h18 ⟨fun h => by omega, fun h => by omega⟩
    clear h18 h21 h22 h23 t1 t2 fs T M1 M2 hB
    subst hk
    conv => arg 2; whnf
    cases b2
    · go_wp2_with fail
      unfold Q4
      go_ret
      exact ⟨rfl, hB'.out⟩
    · go_wp2_with fail
      unfold Q4
      go_ret
      exact ⟨rfl, hB'.out⟩
  · have hb2 : b2 = false := by
      cases hb : b2 with
      | false => rfl
      | true => have := h22.1 hb; omega
    subst hb2
    have hkk : (k == 0) = false := by simp [hk]
    clear h18 h21 h22 h23 t1 t2 fs T M1 M2 hB
    conv => arg 2; whnf
    cases b3
    · go_wp2_with fail
      unfold Q4
      go_ret
      exact ⟨rfl, hB'.out⟩
    · go_wp2_with fail
      unfold Q4
      go_ret
      exact ⟨rfl, hB'.out⟩
end Go.Proofs.Qxb6615788a
