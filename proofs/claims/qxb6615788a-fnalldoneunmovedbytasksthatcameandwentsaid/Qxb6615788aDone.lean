import Derived.Test.Qxb6615788aNew
namespace Go.Proofs.Qxb6615788a
set_option linter.unusedVariables false
set_option linter.unusedSimpArgs false
open Go.RowKit

theorem tot_nonneg {xs : List Int} (h : Fits xs) : ∀ k, k ≤ xs.length → 0 ≤ tot xs k
  | 0, _ => by simp [tot]
  | k + 1, hk => by
    obtain ⟨x, hx⟩ := some_at (xs := xs) (k := k) (by omega)
    rw [tot_next hx]
    have := (h k x hx).1
    have := tot_nonneg h k (by omega)
    omega
theorem tot_mono {xs : List Int} (h : Fits xs) {k : Nat} : ∀ d, k + d ≤ xs.length → tot xs k ≤ tot xs (k + d)
  | 0, _ => Int.le_refl _
  | d + 1, hk => by
    obtain ⟨x, hx⟩ := some_at (xs := xs) (k := k + d) (by omega)
    rw [show k + (d + 1) = (k + d) + 1 from rfl, tot_next hx]
    have := (h (k + d) x hx).1
    have := tot_mono h (k := k) d (by omega)
    omega

/-- What started leaves. -/
def StartedPost (h : Int) (xs : List Int) (n : Nat) (w : World) (e : Ending) (w' : World) : Prop := ∃ T, e = .returned (.int .u64 T) ∧ T = h + tot xs n ∧ w' = w

set_option maxRecDepth 100000 in
set_option maxHeartbeats 1000000 in
theorem started_any (p : Value) (h : Int) (xs ys : List Int) (n : Nat) (w : World) (hs : Sched w p h xs ys n) (ex : Hid (n = xs.length)) (ey : Hid (n = ys.length)) (ln : n ≤ 65536) (h0 : 0 ≤ h) (fx : Hid (Fits xs)) (hT : h + tot xs n ≤ 18446744073709551615) :
    Calls Try.prog 13 #[p] w (StartedPost h xs n w) := by
  obtain ⟨s, g, ps, rfl, hc0, hc1, hr, hpl, hps⟩ := hs
  have HPS : Hid (∀ (i : Nat) q x y, ps[i]? = some q → xs[i]? = some x → ys[i]? = some y → ProcAt w 0 q x y) := hps
  have HT : Hid (h + tot xs n ≤ 18446744073709551615) := hT
  have h1 : h ≤ 18446744073709551615 := by have := tot_nonneg fx.out n (by rw [ex.out]; omega); omega
  clear hps hT
  go_enter Try.func13, Try.ntmps13
  go_wp2_with fail
  refine (load_any s 1 h w hc1).mono ?_
  rintro e w' ⟨rfl, hw⟩
  have hw := hw.symm
  subst hw
  go_wp2_with fail
  go_loopg [3, 15] n (fun gk sv iv wr => ∃ (i : Nat) (T : Int), gk = n - i ∧ i ≤ n ∧ iv = .int .i64 i ∧ sv = .int .u64 T ∧ 0 ≤ T ∧ T ≤ 18446744073709551615 ∧ T = h + tot xs i ∧ wr = w)
  case atStart => exact ⟨0, h, by omega, by omega, rfl, rfl, h0, h1, by simp [tot], rfl⟩
  case round =>
    obtain ⟨i, T, hgk, hi, rfl, rfl, hT0, hT1, hT, hw⟩ := hrel
    have hw := hw.symm
    subst hw
    have HGK : Hid (gk = n - i) := hgk
    have HTE : Hid (T = h + tot xs i) := hT
    clear hgk hT
    by_cases hlt : i < n
    · obtain ⟨b, o, q, ha, hq, hcq⟩ := hr.at (k := i) (by omega)
      obtain ⟨x, hx⟩ := some_at (xs := xs) (k := i) (by rw [← ex.out]; exact hlt)
      obtain ⟨y, hy⟩ := some_at (xs := ys) (k := i) (by rw [← ey.out]; exact hlt)
      obtain ⟨b', e', _, hx', hy'⟩ := HPS.out i q x y hq hx hy
      obtain ⟨x0, x1⟩ := fx.out i x hx
      have HX : Hid (tot xs (i + 1) = tot xs i + x) := tot_next hx
      have hTx : T + x ≤ 18446744073709551615 := by
        have := tot_mono fx.out (k := i + 1) (n - (i + 1)) (by rw [← ex.out]; omega)
        rw [show i + 1 + (n - (i + 1)) = n by omega, HX.out] at this
        have := HT.out
        have := HTE.out
        omega
      cases ha
      rw [Nat.zero_add] at hcq
      subst e'
      clear hq hx hy
      go_wp2_with fail
      refine (load_any b' 653 x w hx').mono ?_
      rintro e w' ⟨rfl, hw⟩
      have hw := hw.symm
      subst hw
      go_wp2_with fail
      go_roundg (n - (i + 1))
      case measure => rw [HGK.out]; omega
      case rel => exact ⟨i + 1, T + x, rfl, by omega, by go_num, by go_num, by omega, hTx, by rw [HX.out, HTE.out]; omega, rfl⟩
    · have hin : n = i := by omega
      subst hin
      go_wp2_with fail
      go_ret
      exact ⟨T, rfl, HTE.out, rfl⟩

/-- What allDone leaves. -/
def DonePost (h : Int) (xs ys : List Int) (n : Nat) (w : World) (e : Ending) (w' : World) : Prop := ∃ b, e = .returned (.bool b) ∧ (b = true ↔ tot ys n = h + tot xs n) ∧ w' = w

set_option maxRecDepth 100000 in
set_option maxHeartbeats 1000000 in
theorem alldone_any (p : Value) (h : Int) (xs ys : List Int) (n : Nat) (w : World) (hs : Sched w p h xs ys n) (ex : Hid (n = xs.length)) (ey : Hid (n = ys.length)) (ln : n ≤ 65536) (h0 : 0 ≤ h) (fx : Hid (Fits xs)) (fy : Hid (Fits ys)) (hT : h + tot xs n ≤ 18446744073709551615) (hY : tot ys n ≤ 18446744073709551615) :
    Calls Try.prog 10 #[p] w (DonePost h xs ys n w) := by
  have HS : Hid (Sched w p h xs ys n) := hs
  obtain ⟨s, g, ps, rfl, hc0, hc1, hr, hpl, hps⟩ := hs
  have HPS : Hid (∀ (i : Nat) q x y, ps[i]? = some q → xs[i]? = some x → ys[i]? = some y → ProcAt w 0 q x y) := hps
  have HT : Hid (h + tot xs n ≤ 18446744073709551615) := hT
  have HY : Hid (tot ys n ≤ 18446744073709551615) := hY
  clear hps hT hY
  go_enter Try.func10, Try.ntmps10
  go_wp2_with fail
  go_loopg [3, 11] n (fun gk sv iv wr => ∃ (i : Nat) (T : Int), gk = n - i ∧ i ≤ n ∧ iv = .int .i64 i ∧ sv = .int .u64 T ∧ 0 ≤ T ∧ T ≤ 18446744073709551615 ∧ T = tot ys i ∧ wr = w)
  case atStart => exact ⟨0, 0, by omega, by omega, rfl, rfl, by omega, by omega, by simp [tot], rfl⟩
  case round =>
    obtain ⟨i, T, hgk, hi, rfl, rfl, hT0, hT1, hT, hw⟩ := hrel
    have hw := hw.symm
    subst hw
    have HGK : Hid (gk = n - i) := hgk
    have HTE : Hid (T = tot ys i) := hT
    clear hgk hT
    by_cases hlt : i < n
    · obtain ⟨b, o, q, ha, hq, hcq⟩ := hr.at (k := i) (by omega)
      obtain ⟨x, hx⟩ := some_at (xs := xs) (k := i) (by rw [← ex.out]; exact hlt)
      obtain ⟨y, hy⟩ := some_at (xs := ys) (k := i) (by rw [← ey.out]; exact hlt)
      obtain ⟨b', e', _, hx', hy'⟩ := HPS.out i q x y hq hx hy
      obtain ⟨x0, x1⟩ := fy.out i y hy
      have HX : Hid (tot ys (i + 1) = tot ys i + y) := tot_next hy
      have hTx : T + y ≤ 18446744073709551615 := by
        have := tot_mono fy.out (k := i + 1) (n - (i + 1)) (by rw [← ey.out]; omega)
        rw [show i + 1 + (n - (i + 1)) = n by omega, HX.out] at this
        have := HY.out
        have := HTE.out
        omega
      cases ha
      rw [Nat.zero_add] at hcq
      subst e'
      clear hq hx hy
      go_wp2_with fail
      refine (load_any b' 651 y w hy').mono ?_
      rintro e w' ⟨rfl, hw⟩
      have hw := hw.symm
      subst hw
      go_wp2_with fail
      go_roundg (n - (i + 1))
      case measure => rw [HGK.out]; omega
      case rel => exact ⟨i + 1, T + y, rfl, by omega, by go_num, by go_num, by omega, hTx, by rw [HX.out, HTE.out], rfl⟩
    · have hin : n = i := by omega
      subst hin
      go_wp2_with fail
      refine (started_any _ h xs ys n w HS.out ex ey ln h0 fx HT.out).mono ?_
      rintro e w' ⟨S, rfl, hS, hw⟩
      have hw := hw.symm
      subst hw
      have HSE : Hid (S = h + tot xs n) := hS
      clear hS
      by_cases hTS : T = S
      · have hb : (T == S) = true := by simp [hTS]
        go_wp2_with fail
        go_ret
        exact ⟨true, by simp [hTS], ⟨fun _ => by rw [← HTE.out, ← HSE.out, hTS], fun _ => rfl⟩, rfl⟩
      · have hb : (T == S) = false := by simp [hTS]
        go_wp2_with fail
        go_ret
        have hne : ¬ tot ys n = h + tot xs n := fun h' => hTS (HTE.out.trans (h'.trans HSE.out.symm))
        exact ⟨false, by simp [hTS], ⟨fun h' => Bool.noConfusion h', fun h' => absurd h' hne⟩, rfl⟩

theorem zzdone_any (p : Value) (h : Int) (xs ys : List Int) (n : Nat) (w : World) (hs : Sched w p h xs ys n) (ex : Hid (n = xs.length)) (ey : Hid (n = ys.length)) (ln : n ≤ 65536) (h0 : 0 ≤ h) (fx : Hid (Fits xs)) (fy : Hid (Fits ys)) (hT : h + tot xs n ≤ 18446744073709551615) (hY : tot ys n ≤ 18446744073709551615) :
    Calls Try.prog 7 #[p] w (DonePost h xs ys n w) := by
  go_enter Try.func7, Try.ntmps7
  go_wp2_with fail
  refine (alldone_any p h xs ys n w hs ex ey ln h0 fx fy hT hY).mono ?_
  rintro e w' ⟨b, rfl, hb, hw⟩
  have hw := hw.symm
  subst hw
  have HB : Hid (b = true ↔ tot ys n = h + tot xs n) := hb
  clear hb
  go_wp2_with fail
  go_ret
  exact ⟨b, rfl, HB.out, rfl⟩
end Go.Proofs.Qxb6615788a
