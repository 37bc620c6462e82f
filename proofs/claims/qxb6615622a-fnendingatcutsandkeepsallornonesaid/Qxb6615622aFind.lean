import Derived.Test.Qxb6615622aEq
namespace Go.Proofs.Qxb6615622a
open Go.RowKit
set_option linter.unusedVariables false
set_option linter.unusedSimpArgs false

/-- One of css reads as b does. -/
def anyB (css : List (List Int)) (b : List Int) : Bool := css.any fun c => eqB b c

theorem anyB_no {css : List (List Int)} {b : List Int} (h : ∀ (j : Nat) c, css[j]? = some c → eqB b c = false) : anyB css b = false := by
  unfold anyB
  rw [List.any_eq_false]
  intro c hc
  obtain ⟨j, hj⟩ := List.mem_iff_getElem?.1 hc
  simp [h j c hj]
theorem anyB_yes {css : List (List Int)} {b c : List Int} {j : Nat} (hj : css[j]? = some c) (h : eqB b c = true) : anyB css b = true := by
  unfold anyB
  rw [List.any_eq_true]
  exact ⟨c, List.mem_of_getElem? hj, h⟩

/-- What IndexFunc leaves. -/
def IdxPost (css : List (List Int)) (b : List Int) (w : World) (e : Ending) (w' : World) : Prop := ∃ k : Int, e = .returned (.int .i64 k) ∧ (0 ≤ k ↔ anyB css b = true) ∧ ∃ d, w' = w.drewN d

set_option maxHeartbeats 1000000 in
theorem index_any (a : Option Addr) (c n : Nat) (ps : List Value) (p : Value) (css : List (List Int)) (b : List Int) (B : Nat) (w : World) (hn : Hid (n = css.length)) (hl : n ≤ 1048576) (hr : Row w a ps) (hC : Certs w B ps css) (hp : IsCert w B p b) :
    Calls Try.prog 15 #[.slice a n c, .func (.func 14) #[p] #[]] w (IdxPost css b w) := by
  go_enter Try.func15, Try.ntmps15
  go_wp2_with fail
  go_loopg [8] n (fun gk i wr => ∃ (k : Nat), gk = n - k ∧ k ≤ n ∧ i = .int .i64 k ∧ (∀ (j : Nat) c, j < k → css[j]? = some c → eqB b c = false) ∧ ∃ d, wr = w.drewN d)
  case atStart => exact ⟨0, by omega, by omega, rfl, fun j c h => by omega, 0, rfl⟩
  case round =>
    obtain ⟨k, hgk, hk, rfl, hno, d, hw⟩ := hrel
    have HGK : Hid (gk = n - k) := hgk
    have HNO : Hid (∀ (j : Nat) c, j < k → css[j]? = some c → eqB b c = false) := hno
    clear hgk hno
    subst hw
    have hbd : Below w.heap.size w (w.drewN d) := below_drewN (Below.refl _ _) d
    by_cases hlt : k < n
    · obtain ⟨b1, off, x, ha, hx, hc⟩ := (hr.keep hbd).at (k := k) (by rw [hC.1, ← hn.out]; exact hlt)
      obtain ⟨y, hy⟩ := some_at (xs := css) (k := k) (by rw [← hn.out]; exact hlt)
      subst ha
      have hq := (hC.2 k x y hx hy).keep hbd
      have hp' := hp.keep hbd
      have HY : Hid (css[k]? = some y) := hy
      have HQ : Hid (IsCert (w.drewN d) B x y) := hq
      clear hx hy hq
      go_wp2_with fail
      refine (equal_any p x b y B _ hp' HQ.out).mono ?_
      rintro e w' ⟨rfl, d', hw⟩
      have hw' : w' = w.drewN (d + d') := by rw [hw]; simp
      clear hw
      subst hw'
      cases hb : eqB b y with
      | true =>
        have HB : Hid (eqB b y = true) := hb
        clear hb
        go_wp2_with fail
        go_ret
        exact ⟨_, rfl, ⟨fun _ => anyB_yes HY.out HB.out, fun _ => by omega⟩, _, rfl⟩
      | false =>
        have HB : Hid (eqB b y = false) := hb
        clear hb
        go_wp2_with fail
        go_roundg (n - (k + 1))
        case measure => rw [HGK.out]; omega
        case rel =>
          refine ⟨k + 1, rfl, by omega, by go_num, fun j c h1 h2 => ?_, _, rfl⟩
          by_cases e : j = k
          · subst e; rw [HY.out] at h2; cases h2; exact HB.out
          · exact HNO.out j c (by omega) h2
    · have hany : Hid (anyB css b = false) := anyB_no fun j c hj => HNO.out j c (by have := hn.out; have := at_lt hj; omega) hj
      go_wp2_with fail
      go_ret
      exact ⟨_, rfl, ⟨fun h => by omega, fun h => by rw [hany.out] at h; cases h⟩, _, rfl⟩

set_option maxHeartbeats 400000 in
theorem contains_any (a : Option Addr) (c n : Nat) (ps : List Value) (p : Value) (css : List (List Int)) (b : List Int) (B : Nat) (w : World) (hn : Hid (n = css.length)) (hl : n ≤ 1048576) (hr : Row w a ps) (hC : Certs w B ps css) (hp : IsCert w B p b) :
    Calls Try.prog 13 #[.slice a n c, .func (.func 14) #[p] #[]] w fun e w' => e = .returned (.bool (anyB css b)) ∧ ∃ d, w' = w.drewN d := by
  go_enter Try.func13, Try.ntmps13
  go_wp2_with fail
  refine (index_any a c n ps p css b B w hn hl hr hC hp).mono ?_
  rintro e w' ⟨k, rfl, hk, d, rfl⟩
  cases hb : anyB css b with
  | true =>
    rw [hb] at hk
    have : 0 ≤ k := hk.2 rfl
    have HB : Hid (anyB css b = true) := hb
    clear hk hb
    go_wp2_with fail
    go_ret
    exact ⟨by rw [HB.out]; rfl, _, rfl⟩
  | false =>
    rw [hb] at hk
    have : k < 0 := by
      rcases Int.lt_or_le k 0 with h | h
      · exact h
      · have := hk.1 h; cases this
    have HB : Hid (anyB css b = false) := hb
    clear hk hb
    have hd : decide (0 ≤ k) = false := decide_eq_false (by omega)
    go_wp2_with fail
    go_ret
    exact ⟨by rw [HB.out]; rfl, _, rfl⟩
end Go.Proofs.Qxb6615622a
