import Derived.Test.Qxb6615639aFacts
import Derived.Test.Qxb6615639aExactPlain
import Derived.WalkKit
import Derived.Deep.LoopGhost
namespace Go.Proofs.Qxb6615639a
open Go.RowKit
set_option linter.unusedVariables false
set_option linter.unusedSimpArgs false

theorem bytes5_any (b0 b1 b2 : Int) (s1 s2 s3 s4 s5 s6 s7 : Option Addr) (n1 n2 n3 n4 n5 n6 n7 c1 c2 c3 c4 c5 c6 c7 : Nat) (w : World) :
    Calls Try.prog 5 #[.int .i64 b0, .int .i64 b1, .int .i64 b2, .slice s1 n1 c1, .slice s2 n2 c2, .slice s3 n3 c3, .slice s4 n4 c4, .slice s5 n5 c5, .slice s6 n6 c6, .slice s7 n7 c7] w
      fun e w' => (∃ b, e = .returned (.bool b)) ∧ w' = w := by
  go_enter Try.func5, Try.ntmps5
  go_wp2
  all_goals (go_ret; exact ⟨⟨_, rfl⟩, rfl⟩)

/-- What 'zzFrontWell' leaves. -/
def FrontPost (fTxn : List Int) (placed : List Bool) (first second cleared : Int) (w : World) (e : Ending) (w' : World) : Prop := (∃ b, e = .returned (.bool b) ∧ (b = true → FW fTxn placed first second cleared)) ∧ w' = w
/-- What 'zzFreed' leaves. -/
def FreedPost (fAt fTxn : List Int) (placed : List Bool) (la t : Int) (w : World) (e : Ending) (w' : World) : Prop := (∃ b, e = .returned (.bool b) ∧ (b = true ↔ FreedP fAt fTxn placed la t)) ∧ w' = w

/-- Unplaced, and before 'second'. -/
def unb (fTxn : List Int) (placed : List Bool) (second : Int) (p : Nat) : Bool := unp fTxn placed p && decide ((p : Int) < second)

theorem cnt_step (f : Nat → Bool) (k : Nat) (h : f k = true) : cnt f (k + 1) = cnt f k + 1 := by simp [cnt, h]
theorem cnt_stay (f : Nat → Bool) (k : Nat) (h : f k = false) : cnt f (k + 1) = cnt f k := by simp [cnt, h]

theorem fw_of {fTxn : List Int} {placed : List Bool} {first second cleared : Int} {n1 : Nat} (e : n1 = fTxn.length) (f0 : 0 ≤ first) (f1 : first ≤ n1) (c0 : 0 ≤ cleared) (s1 : second ≤ n1 + 1)
    (hp : ∀ p, p < n1 → unp fTxn placed p = true → first ≤ (p : Int)) (h1 : cnt (unb fTxn placed second) n1 ≤ 1) (h2 : second ≤ n1 ∨ cnt (unp fTxn placed) n1 = 0) : FW fTxn placed first second cleared where
  f0 := f0
  f1 := by omega
  c0 := c0
  s1 := by omega
  p1 p t hlt ht := by
    rcases Bool.eq_false_or_eq_true (pl placed t) with h | h
    · exact h
    · have := hp p (by have := at_lt ht; omega) (by rw [unp_at ht, h]; rfl)
      omega
  two p q t t' hp hq ht ht' h h' := by
    refine cnt_one (unb fTxn placed second) h1 (by have := at_lt ht; omega) (by have := at_lt ht'; omega) ?_ ?_
    · simp [unb, unp_at ht, h, hp]
    · simp [unb, unp_at ht', h', hq]
  s2 := by
    rcases h2 with h2 | h2
    · exact .inl (by omega)
    · refine .inr fun p t ht => ?_
      rcases Bool.eq_false_or_eq_true (pl placed t) with h | h
      · exact h
      · have := cnt_pos (unp fTxn placed) n1 p (by have := at_lt ht; omega) (by rw [unp_at ht, h]; rfl)
        omega

set_option maxRecDepth 100000 in
set_option maxHeartbeats 1000000 in
theorem front_any (first second cleared : Int) (a2 ap : Option Addr) (c2 cp n1 n : Nat) (fTxn : List Int) (placed : List Bool) (w : World) (E : Hid (n1 = fTxn.length)) (EP : Hid (n = placed.length)) (l1 : n1 ≤ 1024) (ln : n ≤ 65536)
    (hrng : ∀ (p : Nat) x, fTxn[p]? = some x → 0 ≤ x ∧ x < n) (r2 : Row w a2 (ints fTxn)) (rp : Row w ap (bools placed)) :
    Calls Try.prog 7 #[.int .i64 first, .int .i64 second, .int .i64 cleared, .slice a2 n1 c2, .slice ap n cp] w (FrontPost fTxn placed first second cleared w) := by
  have HR : Hid (∀ (p : Nat) x, fTxn[p]? = some x → 0 ≤ x ∧ x < n) := hrng
  clear hrng
  go_enter Try.func7, Try.ntmps7
  by_cases hok : 0 ≤ first ∧ first ≤ n1 ∧ 0 ≤ cleared ∧ second ≤ n1 + 1
  · obtain ⟨f0, f1, c0, s1⟩ := hok
    go_wp2_with fail
    go_loopg [12, 13, 14] n1 (fun gk v1 v2 v3 wr => ∃ k : Nat, gk = n1 - k ∧ k ≤ n1 ∧ v1 = .int .i64 (cnt (unb fTxn placed second) k) ∧ v2 = .int .i64 (cnt (unp fTxn placed) k) ∧ v3 = .int .i64 k ∧ (∀ p, p < k → unp fTxn placed p = true → first ≤ (p : Int)) ∧ wr = w)
    case atStart => exact ⟨0, by omega, by omega, rfl, rfl, rfl, fun p h => by omega, rfl⟩
    case round =>
      obtain ⟨k, hgk, hk, rfl, rfl, rfl, hp, hw⟩ := hrel
      have hw := hw.symm
      subst hw
      have HGK : Hid (gk = n1 - k) := hgk
      have HP : Hid (∀ p, p < k → unp fTxn placed p = true → first ≤ (p : Int)) := hp
      clear hgk hp
      have hc1 := cnt_le (unb fTxn placed second) k
      have hc2 := cnt_le (unp fTxn placed) k
      by_cases hlt : k < n1
      · obtain ⟨b2, o2, x, ha2, hx, hcx⟩ := r2.int (k := k) (by rw [← E.out]; exact hlt)
        have hr := HR.out k x hx
        obtain ⟨t, rfl⟩ : ∃ t : Nat, x = t := ⟨x.toNat, by omega⟩
        have htI : (t : Int) < (n : Int) := hr.2
        obtain ⟨bp, op, pb, hap, hpb, hcp⟩ := rp.bool (k := t) (by rw [← EP.out]; omega)
        subst ha2 hap
        have HX : Hid (unp fTxn placed k = !pb) := by show _ = _; rw [unp_at hx, pl_at hpb]
        clear hx hr hpb
        cases pb with
        | true =>
          have S1 : Hid (cnt (unb fTxn placed second) (k + 1) = cnt (unb fTxn placed second) k) := cnt_stay _ _ (by simp [unb, HX.out])
          have S2 : Hid (cnt (unp fTxn placed) (k + 1) = cnt (unp fTxn placed) k) := cnt_stay _ _ (by simp [HX.out])
          go_wp2_with fail
          go_roundg (n1 - (k + 1))
          case measure => rw [HGK.out]; omega
          case rel =>
            refine ⟨k + 1, rfl, by omega, by rw [S1.out], by rw [S2.out], by go_num, fun p h1 h2 => ?_, rfl⟩
            by_cases e : p = k
            · subst e; rw [HX.out] at h2; cases h2
            · exact HP.out p (by omega) h2
        | false =>
          have S2 : Hid (cnt (unp fTxn placed) (k + 1) = cnt (unp fTxn placed) k + 1) := cnt_step _ _ (by simp [HX.out])
          by_cases hkf : (k : Int) < first
          · go_wp2_with fail
            go_ret
            exact ⟨⟨_, rfl, by simp⟩, rfl⟩
          · have nextp : Hid (∀ p, p < k + 1 → unp fTxn placed p = true → first ≤ (p : Int)) := fun p h1 h2 => by
              by_cases e : p = k
              · subst e; omega
              · exact HP.out p (by omega) h2
            by_cases hks : (k : Int) < second
            · have S1 : Hid (cnt (unb fTxn placed second) (k + 1) = cnt (unb fTxn placed second) k + 1) := cnt_step _ _ (by simp [unb, HX.out, hks])
              go_wp2_with fail
              go_roundg (n1 - (k + 1))
              case measure => rw [HGK.out]; omega
              case rel => exact ⟨k + 1, rfl, by omega, by rw [S1.out]; go_num, by rw [S2.out]; go_num, by go_num, nextp.out, rfl⟩
            · have S1 : Hid (cnt (unb fTxn placed second) (k + 1) = cnt (unb fTxn placed second) k) := cnt_stay _ _ (by simp [unb]; intro _; omega)
              go_wp2_with fail
              go_roundg (n1 - (k + 1))
              case measure => rw [HGK.out]; omega
              case rel => exact ⟨k + 1, rfl, by omega, by rw [S1.out], by rw [S2.out]; go_num, by go_num, nextp.out, rfl⟩
      · have hkn : n1 = k := by omega
        subst hkn
        by_cases h1 : cnt (unb fTxn placed second) n1 ≤ 1
        · by_cases h2 : second ≤ (n1 : Int)
          · have hfw : Hid (FW fTxn placed first second cleared) := fw_of E.out f0 f1 c0 s1 HP.out h1 (.inl h2)
            go_wp2_with fail
            go_ret
            exact ⟨⟨_, rfl, fun _ => hfw.out⟩, rfl⟩
          · have hd2 : decide (second ≤ (n1 : Int)) = false := decide_eq_false h2
            by_cases h3 : cnt (unp fTxn placed) n1 = 0
            · have hfw : Hid (FW fTxn placed first second cleared) := fw_of E.out f0 f1 c0 s1 HP.out h1 (.inr h3)
              go_wp2_with fail
              go_ret
              exact ⟨⟨_, rfl, fun _ => hfw.out⟩, rfl⟩
            · have h3' : (((cnt (unp fTxn placed) n1 : Nat) : Int) == 0) = false := by simp; omega
              go_wp2_with fail
              go_ret
              exact ⟨⟨_, rfl, by simp⟩, rfl⟩
        · have hd1 : decide (((cnt (unb fTxn placed second) n1 : Nat) : Int) ≤ 1) = false := decide_eq_false (by omega)
          go_wp2_with fail
          go_ret
          exact ⟨⟨_, rfl, by simp⟩, rfl⟩
  · go_wp2_with fail
    all_goals (go_ret; exact ⟨⟨_, rfl, by simp⟩, rfl⟩)

set_option maxRecDepth 100000 in
set_option maxHeartbeats 1000000 in
theorem freed_any (a1 a2 ap : Option Addr) (c1 c2 cp n1 n : Nat) (fAt fTxn : List Int) (placed : List Bool) (la t : Int) (w : World) (E1 : Hid (n1 = fAt.length)) (E2 : Hid (n1 = fTxn.length)) (EP : Hid (n = placed.length)) (l1 : n1 ≤ 1024) (ln : n ≤ 65536)
    (hrng : ∀ (p : Nat) x, fTxn[p]? = some x → 0 ≤ x ∧ x < n) (r1 : Row w a1 (ints fAt)) (r2 : Row w a2 (ints fTxn)) (rp : Row w ap (bools placed)) :
    Calls Try.prog 9 #[.slice a1 n1 c1, .slice a2 n1 c2, .int .i64 la, .int .i64 t, .slice ap n cp] w (FreedPost fAt fTxn placed la t w) := by
  have HR : Hid (∀ (p : Nat) x, fTxn[p]? = some x → 0 ≤ x ∧ x < n) := hrng
  clear hrng
  go_enter Try.func9, Try.ntmps9
  go_wp2_with fail
  go_loopg [11] n1 (fun gk v wr => ∃ k : Nat, gk = n1 - k ∧ k ≤ n1 ∧ v = .int .i64 k ∧ (∀ (p : Nat) x y, p < k → fAt[p]? = some x → fTxn[p]? = some y → x < la → y ≠ t → pl placed y = true) ∧ wr = w)
  case atStart => exact ⟨0, by omega, by omega, rfl, fun p x y h => by omega, rfl⟩
  case round =>
    obtain ⟨k, hgk, hk, rfl, hp, hw⟩ := hrel
    have hw := hw.symm
    subst hw
    have HGK : Hid (gk = n1 - k) := hgk
    have HP : Hid (∀ (p : Nat) x y, p < k → fAt[p]? = some x → fTxn[p]? = some y → x < la → y ≠ t → pl placed y = true) := hp
    clear hgk hp
    by_cases hlt : k < n1
    · obtain ⟨b1, o1, x, ha1, hx, hcx⟩ := r1.int (k := k) (by rw [← E1.out]; exact hlt)
      obtain ⟨b2, o2, y, ha2, hy, hcy⟩ := r2.int (k := k) (by rw [← E2.out]; exact hlt)
      have hr := HR.out k y hy
      obtain ⟨yn, rfl⟩ : ∃ yn : Nat, y = yn := ⟨y.toNat, by omega⟩
      have hynI : (yn : Int) < (n : Int) := hr.2
      obtain ⟨bp, op, pb, hap, hpb, hcp⟩ := rp.bool (k := yn) (by rw [← EP.out]; omega)
      subst ha1 ha2 hap
      have HX : Hid (fAt[k]? = some x) := hx
      have HY : Hid (fTxn[k]? = some (yn : Int)) := hy
      have HPB : Hid (pl placed (yn : Int) = pb) := pl_at hpb
      clear hx hy hr hpb
      have next : Hid ((x < la → (yn : Int) ≠ t → pb = true) → ∀ (p : Nat) x y, p < k + 1 → fAt[p]? = some x → fTxn[p]? = some y → x < la → y ≠ t → pl placed y = true) := by
        intro h p x' y' h1 h2 h3 h4 h5
        by_cases e : p = k
        · subst e
          rw [HX.out] at h2; rw [HY.out] at h3
          cases h2; cases h3
          rw [HPB.out]
          exact h h4 h5
        · exact HP.out p x' y' (by omega) h2 h3 h4 h5
      by_cases hxl : x < la
      · by_cases hyt : (yn : Int) = t
        · have hd : ((yn : Int) != t) = false := by simpa using hyt
          have HYT : Hid ((yn : Int) = t) := hyt
          clear hyt
          go_wp2_with fail
          go_roundg (n1 - (k + 1))
          case measure => rw [HGK.out]; omega
          case rel => exact ⟨k + 1, rfl, by omega, by go_num, next.out fun _ h => absurd HYT.out h, rfl⟩
        · have hd : ((yn : Int) != t) = true := by simpa using hyt
          have HYT : Hid (¬ (yn : Int) = t) := hyt
          clear hyt
          cases pb with
          | true =>
            go_wp2_with fail
            go_roundg (n1 - (k + 1))
            case measure => rw [HGK.out]; omega
            case rel => exact ⟨k + 1, rfl, by omega, by go_num, next.out (fun _ _ => by first | rfl | trivial), rfl⟩
          | false =>
            go_wp2_with fail
            go_ret
            refine ⟨⟨_, rfl, ?_⟩, rfl⟩
            constructor
            · intro h; cases h
            · intro h
              have := h k x yn HX.out HY.out hxl HYT.out
              rw [HPB.out] at this
              exact this
      · have hd : decide (x < la) = false := decide_eq_false hxl
        go_wp2_with fail
        go_roundg (n1 - (k + 1))
        case measure => rw [HGK.out]; omega
        case rel => exact ⟨k + 1, rfl, by omega, by go_num, next.out fun h => by omega, rfl⟩
    · go_wp2_with fail
      go_ret
      refine ⟨⟨_, rfl, ?_⟩, rfl⟩
      constructor
      · intro _ p x y hx hy h1 h2
        exact HP.out p x y (by have := at_lt hx; have := E1.out; omega) hx hy h1 h2
      · intro _; rfl
end Go.Proofs.Qxb6615639a
