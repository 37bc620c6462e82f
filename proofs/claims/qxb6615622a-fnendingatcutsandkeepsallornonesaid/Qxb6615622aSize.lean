import Derived.Test.Qxb6615622aMake
namespace Go.Proofs.Qxb6615622a
open Go.RowKit
set_option linter.unusedVariables false
set_option linter.unusedSimpArgs false

/-- The first k have at most 2^20 bytes each. -/
def Bd2 (b : List (List Int)) (k : Nat) : Prop := ∀ (j : Nat) c, j < k → b[j]? = some c → c.length ≤ 1048576
theorem Bd2.next {b : List (List Int)} {k : Nat} (h : Bd2 b k) {c : List Int} (hc : b[k]? = some c) (hl : c.length ≤ 1048576) : Bd2 b (k + 1) := by
  intro j c' hj hc'
  by_cases e : j = k
  · subst e; rw [hc] at hc'; cases hc'; exact hl
  · exact h j c' (by omega) hc'
/-- The first k chains are within bounds. -/
def Bd3 (b3 : List (List (List Int))) (k : Nat) : Prop := ∀ (i : Nat) b, i < k → b3[i]? = some b → b.length ≤ 1048576 ∧ ∀ (j : Nat) c, b[j]? = some c → c.length ≤ 1048576
theorem Bd3.next {b3 : List (List (List Int))} {k : Nat} (h : Bd3 b3 k) {b : List (List Int)} (hb : b3[k]? = some b) (hl : b.length ≤ 1048576) (hc : ∀ (j : Nat) c, b[j]? = some c → c.length ≤ 1048576) : Bd3 b3 (k + 1) := by
  intro j b' hj hb'
  by_cases e : j = k
  · subst e; rw [hb] at hb'; cases hb'; exact ⟨hl, hc⟩
  · exact h j b' (by omega) hb'

/-- What zzEndingSizeOK makes sure of. -/
def SizePost (b3 : List (List (List Int))) (css : List (List Int)) (w : World) (e : Ending) (w' : World) : Prop :=
  ∃ b, e = .returned (.bool b) ∧ (b = true → b3.length ≤ 4096 ∧ css.length ≤ 4096 ∧ Bd3 b3 b3.length ∧ Bd2 css css.length) ∧ w' = w
/-- What zzBytes.. leaves. -/
def AnyPost (b3 : List (List (List Int))) (css : List (List Int)) (w : World) (e : Ending) (w' : World) : Prop := ∃ b, e = .returned (.bool b) ∧ (b = true → True) ∧ w' = w

set_option maxRecDepth 100000 in
set_option maxHeartbeats 1000000 in
theorem size_any (v cv : Value) (b3 : List (List (List Int))) (css : List (List Int)) (w : World) (h : Strss w v b3) (hc : Strs w cv css) :
    Calls Try.prog 5 #[v, cv] w (SizePost b3 css w) := by
  obtain ⟨a, c, vs, rfl, hvl, hr, hb⟩ := h
  obtain ⟨ca, cc, cvs, rfl, hcl, hcr, hcb⟩ := hc
  obtain ⟨n, hn⟩ : ∃ n, n = b3.length := ⟨_, rfl⟩
  obtain ⟨m, hm⟩ : ∃ m, m = css.length := ⟨_, rfl⟩
  rw [← hn, ← hm]
  have HN : Hid (n = b3.length) := hn
  have HM : Hid (m = css.length) := hm
  have HV : Hid (vs.length = b3.length) := hvl
  have HCV : Hid (cvs.length = css.length) := hcl
  have HST : Hid (∀ (i : Nat) x b, vs[i]? = some x → b3[i]? = some b → Strs w x b) := hb
  have HCB : Hid (∀ (i : Nat) x b, cvs[i]? = some x → css[i]? = some b → IsBytes w 0 x b) := hcb
  clear hn hm hvl hcl hb hcb
  go_enter Try.func5, Try.ntmps5
  by_cases hok : n ≤ 4096 ∧ m ≤ 4096
  · obtain ⟨ln, lm⟩ := hok
    go_wp2_with fail
    go_loopg [5, 6] n (fun gk tv iv wr => ∃ (i : Nat) (T : Int), gk = n - i ∧ i ≤ n ∧ iv = .int .i64 i ∧ tv = .int .i64 T ∧ 0 ≤ T ∧ T ≤ 1048576 ∧ Bd3 b3 i ∧ wr = w)
    case atStart => exact ⟨0, _, by omega, by omega, rfl, rfl, by omega, by omega, fun i b h => by omega, rfl⟩
    case round =>
      obtain ⟨i, T, hgk, hi, rfl, rfl, hT0, hT1, hbd, hw⟩ := hrel
      have hw := hw.symm
      subst hw
      have HGK : Hid (gk = n - i) := hgk
      have HBD : Hid (Bd3 b3 i) := hbd
      clear hgk hbd
      by_cases hlt : i < n
      · obtain ⟨b1, o1, x, ha, hx, hcx⟩ := hr.at (k := i) (by rw [HV.out, ← HN.out]; exact hlt)
        obtain ⟨b, hb⟩ := some_at (xs := b3) (k := i) (by rw [← HN.out]; exact hlt)
        obtain ⟨a1, c1, vs1, ex, hvl1, hr1, hb1⟩ := HST.out i x b hx hb
        obtain ⟨L, hL⟩ : ∃ L, L = b.length := ⟨_, rfl⟩
        rw [← hL] at ex
        subst ha ex
        have HL : Hid (L = b.length) := hL
        have HVL : Hid (vs1.length = b.length) := hvl1
        have HB1 : Hid (∀ (i : Nat) x c, vs1[i]? = some x → b[i]? = some c → IsBytes w 0 x c) := hb1
        have HB : Hid (b3[i]? = some b) := hb
        clear hx hL hvl1 hb1 hb
        have hiI : (i : Int) < (n : Int) := by omega
        by_cases hLb : L ≤ 1048576
        · by_cases hLt : T + 8 * (L : Int) ≤ 1048576
          · go_wp2_with fail
            go_loopg [5, 7] L (fun gk tv jv wr => ∃ (j : Nat) (T : Int), gk = L - j ∧ j ≤ L ∧ jv = .int .i64 j ∧ tv = .int .i64 T ∧ 0 ≤ T ∧ T ≤ 1048576 ∧ Bd2 b j ∧ wr = w)
            case atStart => exact ⟨0, _, by omega, by omega, rfl, rfl, by omega, by omega, fun i b h => by omega, rfl⟩
            case round =>
              clear hT0 hT1 hLt
              obtain ⟨j, T, hgk, hj, rfl, rfl, hT0, hT1, hbd, hw⟩ := hrel
              have hw := hw.symm
              subst hw
              have HGK2 : Hid (gk = L - j) := hgk
              have HBD2 : Hid (Bd2 b j) := hbd
              clear hgk hbd
              by_cases hjlt : j < L
              · obtain ⟨b2, o2, y, ha2, hy, hcy⟩ := hr1.at (k := j) (by rw [HVL.out, ← HL.out]; exact hjlt)
                obtain ⟨d, hd⟩ := some_at (xs := b) (k := j) (by rw [← HL.out]; exact hjlt)
                obtain ⟨a2, c2, ey, _, _⟩ := HB1.out j y d hy hd
                obtain ⟨M, hM⟩ : ∃ M, M = d.length := ⟨_, rfl⟩
                rw [← hM] at ey
                subst ha2 ey
                have HM2 : Hid (M = d.length) := hM
                have HD : Hid (b[j]? = some d) := hd
                clear hy hM hd
                by_cases hMb : M ≤ 1048576
                · by_cases hMt : T + (M : Int) ≤ 1048576
                  · go_wp2_with fail
                    go_roundg (L - (j + 1))
                    case measure => rw [HGK2.out]; omega
                    case rel => exact ⟨j + 1, _, rfl, by omega, by go_num, rfl, by omega, by omega, HBD2.out.next HD.out (by have := HM2.out; omega), rfl⟩
                  · go_wp2_with fail
                    go_ret
                    exact ⟨_, rfl, by simp, rfl⟩
                · go_wp2_with fail
                  go_ret
                  exact ⟨_, rfl, by simp, rfl⟩
              · have hbnext : Hid (Bd3 b3 (i + 1)) := HBD.out.next HB.out (by have := HL.out; omega) fun j' c' hc' => HBD2.out j' c' (by have := at_lt hc'; have := HL.out; omega) hc'
                go_wp2_with fail
                go_roundg (n - (i + 1))
                case measure => rw [HGK.out]; omega
                case rel => exact ⟨i + 1, T, rfl, by omega, by go_num, rfl, hT0, hT1, hbnext.out, rfl⟩
          · go_wp2_with fail
            go_ret
            exact ⟨_, rfl, by simp, rfl⟩
        · go_wp2_with fail
          go_ret
          exact ⟨_, rfl, by simp, rfl⟩
      · have hin : n = i := by omega
        subst hin
        clear HGK hi hlt
        go_wp2_with fail
        go_loopg [5, 8] m (fun gk tv qv wr => ∃ (q : Nat) (T : Int), gk = m - q ∧ q ≤ m ∧ qv = .int .i64 q ∧ tv = .int .i64 T ∧ 0 ≤ T ∧ T ≤ 1048576 ∧ Bd2 css q ∧ wr = w)
        case atStart => exact ⟨0, _, by omega, by omega, rfl, rfl, by omega, by omega, fun i b h => by omega, rfl⟩
        case round =>
          clear hT0 hT1
          obtain ⟨q, T, hgk, hq, rfl, rfl, hT0, hT1, hbd, hw⟩ := hrel
          have hw := hw.symm
          subst hw
          have HGK : Hid (gk = m - q) := hgk
          have HBDC : Hid (Bd2 css q) := hbd
          clear hgk hbd
          by_cases hqlt : q < m
          · obtain ⟨b2, o2, y, ha2, hy, hcy⟩ := hcr.at (k := q) (by rw [HCV.out, ← HM.out]; exact hqlt)
            obtain ⟨d, hd⟩ := some_at (xs := css) (k := q) (by rw [← HM.out]; exact hqlt)
            obtain ⟨a2, c2, ey, _, _⟩ := HCB.out q y d hy hd
            obtain ⟨M, hM⟩ : ∃ M, M = d.length := ⟨_, rfl⟩
            rw [← hM] at ey
            subst ha2 ey
            have HM2 : Hid (M = d.length) := hM
            have HD : Hid (css[q]? = some d) := hd
            clear hy hM hd
            by_cases hMb : M ≤ 1048576
            · by_cases hMt : T + (M : Int) ≤ 1048576
              · go_wp2_with fail
                go_roundg (m - (q + 1))
                case measure => rw [HGK.out]; omega
                case rel => exact ⟨q + 1, _, rfl, by omega, by go_num, rfl, by omega, by omega, HBDC.out.next HD.out (by have := HM2.out; omega), rfl⟩
              · go_wp2_with fail
                go_ret
                exact ⟨_, rfl, by simp, rfl⟩
            · go_wp2_with fail
              go_ret
              exact ⟨_, rfl, by simp, rfl⟩
          · go_wp2_with fail
            go_ret
            exact ⟨_, rfl, fun _ => ⟨by have := HN.out; omega, by have := HM.out; omega, by rw [← HN.out]; exact HBD.out, fun j c hj hc => HBDC.out j c (by have := HM.out; omega) hc⟩, rfl⟩
  · go_wp2_with fail
    all_goals (go_ret; exact ⟨_, rfl, by simp, rfl⟩)

set_option maxRecDepth 100000 in
set_option maxHeartbeats 1000000 in
theorem bytes_any (v cv : Value) (k : Int) (b3 : List (List (List Int))) (css : List (List Int)) (w : World) (h : Strss w v b3) (hc : Strs w cv css) :
    Calls Try.prog 4 #[v, cv, .int .i64 k] w (AnyPost b3 css w) := by
  obtain ⟨a, c, vs, rfl, hvl, hr, hb⟩ := h
  obtain ⟨ca, cc, cvs, rfl, hcl, hcr, hcb⟩ := hc
  obtain ⟨n, hn⟩ : ∃ n, n = b3.length := ⟨_, rfl⟩
  obtain ⟨m, hm⟩ : ∃ m, m = css.length := ⟨_, rfl⟩
  rw [← hn, ← hm]
  have HN : Hid (n = b3.length) := hn
  have HM : Hid (m = css.length) := hm
  have HV : Hid (vs.length = b3.length) := hvl
  have HCV : Hid (cvs.length = css.length) := hcl
  have HST : Hid (∀ (i : Nat) x b, vs[i]? = some x → b3[i]? = some b → Strs w x b) := hb
  have HCB : Hid (∀ (i : Nat) x b, cvs[i]? = some x → css[i]? = some b → IsBytes w 0 x b) := hcb
  clear hn hm hvl hcl hb hcb
  go_enter Try.func4, Try.ntmps4
  by_cases ln : n ≤ 1048576
  · go_wp2_with fail
    go_loopg [7, 8] n (fun gk tv iv wr => ∃ (i : Nat) (T : Int), gk = n - i ∧ i ≤ n ∧ iv = .int .i64 i ∧ tv = .int .i64 T ∧ 0 ≤ T ∧ T ≤ 1048576 ∧ Bd3 b3 i ∧ wr = w)
    case atStart => exact ⟨0, _, by omega, by omega, rfl, rfl, by omega, by omega, fun i b h => by omega, rfl⟩
    case round =>
      obtain ⟨i, T, hgk, hi, rfl, rfl, hT0, hT1, hbd, hw⟩ := hrel
      have hw := hw.symm
      subst hw
      have HGK : Hid (gk = n - i) := hgk
      have HBD : Hid (Bd3 b3 i) := hbd
      clear hgk hbd
      by_cases hlt : i < n
      · obtain ⟨b1, o1, x, ha, hx, hcx⟩ := hr.at (k := i) (by rw [HV.out, ← HN.out]; exact hlt)
        obtain ⟨b, hb⟩ := some_at (xs := b3) (k := i) (by rw [← HN.out]; exact hlt)
        obtain ⟨a1, c1, vs1, ex, hvl1, hr1, hb1⟩ := HST.out i x b hx hb
        obtain ⟨L, hL⟩ : ∃ L, L = b.length := ⟨_, rfl⟩
        rw [← hL] at ex
        subst ha ex
        have HL : Hid (L = b.length) := hL
        have HVL : Hid (vs1.length = b.length) := hvl1
        have HB1 : Hid (∀ (i : Nat) x c, vs1[i]? = some x → b[i]? = some c → IsBytes w 0 x c) := hb1
        have HB : Hid (b3[i]? = some b) := hb
        clear hx hL hvl1 hb1 hb
        have hiI : (i : Int) < (n : Int) := by omega
        by_cases hLb : L ≤ 1048576
        · by_cases hLt : T + (L : Int) ≤ 1048576
          · go_wp2_with fail
            go_loopg [7, 9] L (fun gk tv jv wr => ∃ (j : Nat) (T : Int), gk = L - j ∧ j ≤ L ∧ jv = .int .i64 j ∧ tv = .int .i64 T ∧ 0 ≤ T ∧ T ≤ 1048576 ∧ Bd2 b j ∧ wr = w)
            case atStart => exact ⟨0, _, by omega, by omega, rfl, rfl, by omega, by omega, fun i b h => by omega, rfl⟩
            case round =>
              clear hT0 hT1 hLt
              obtain ⟨j, T, hgk, hj, rfl, rfl, hT0, hT1, hbd, hw⟩ := hrel
              have hw := hw.symm
              subst hw
              have HGK2 : Hid (gk = L - j) := hgk
              have HBD2 : Hid (Bd2 b j) := hbd
              clear hgk hbd
              by_cases hjlt : j < L
              · obtain ⟨b2, o2, y, ha2, hy, hcy⟩ := hr1.at (k := j) (by rw [HVL.out, ← HL.out]; exact hjlt)
                obtain ⟨d, hd⟩ := some_at (xs := b) (k := j) (by rw [← HL.out]; exact hjlt)
                obtain ⟨a2, c2, ey, _, _⟩ := HB1.out j y d hy hd
                obtain ⟨M, hM⟩ : ∃ M, M = d.length := ⟨_, rfl⟩
                rw [← hM] at ey
                subst ha2 ey
                have HM2 : Hid (M = d.length) := hM
                have HD : Hid (b[j]? = some d) := hd
                clear hy hM hd
                by_cases hMb : M ≤ 1048576
                · by_cases hMt : T + (M : Int) ≤ 1048576
                  · go_wp2_with fail
                    go_roundg (L - (j + 1))
                    case measure => rw [HGK2.out]; omega
                    case rel => exact ⟨j + 1, _, rfl, by omega, by go_num, rfl, by omega, by omega, HBD2.out.next HD.out (by have := HM2.out; omega), rfl⟩
                  · go_wp2_with fail
                    go_ret
                    exact ⟨_, rfl, by simp, rfl⟩
                · go_wp2_with fail
                  go_ret
                  exact ⟨_, rfl, by simp, rfl⟩
              · have hbnext : Hid (Bd3 b3 (i + 1)) := HBD.out.next HB.out (by have := HL.out; omega) fun j' c' hc' => HBD2.out j' c' (by have := at_lt hc'; have := HL.out; omega) hc'
                go_wp2_with fail
                go_roundg (n - (i + 1))
                case measure => rw [HGK.out]; omega
                case rel => exact ⟨i + 1, T, rfl, by omega, by go_num, rfl, hT0, hT1, hbnext.out, rfl⟩
          · go_wp2_with fail
            go_ret
            exact ⟨_, rfl, by simp, rfl⟩
        · go_wp2_with fail
          go_ret
          exact ⟨_, rfl, by simp, rfl⟩
      · have hin : n = i := by omega
        subst hin
        clear HGK hi hlt
        by_cases hm1 : m ≤ 1048576
        · by_cases hmt : T + (m : Int) ≤ 1048576
          · go_wp2_with fail
            go_loopg [7, 10] m (fun gk tv qv wr => ∃ (q : Nat) (T : Int), gk = m - q ∧ q ≤ m ∧ qv = .int .i64 q ∧ tv = .int .i64 T ∧ 0 ≤ T ∧ T ≤ 1048576 ∧ Bd2 css q ∧ wr = w)
            case atStart => exact ⟨0, _, by omega, by omega, rfl, rfl, by omega, by omega, fun i b h => by omega, rfl⟩
            case round =>
              clear hT0 hT1
              obtain ⟨q, T, hgk, hq, rfl, rfl, hT0, hT1, hbd, hw⟩ := hrel
              have hw := hw.symm
              subst hw
              have HGK : Hid (gk = m - q) := hgk
              have HBDC : Hid (Bd2 css q) := hbd
              clear hgk hbd
              by_cases hqlt : q < m
              · obtain ⟨b2, o2, y, ha2, hy, hcy⟩ := hcr.at (k := q) (by rw [HCV.out, ← HM.out]; exact hqlt)
                obtain ⟨d, hd⟩ := some_at (xs := css) (k := q) (by rw [← HM.out]; exact hqlt)
                obtain ⟨a2, c2, ey, _, _⟩ := HCB.out q y d hy hd
                obtain ⟨M, hM⟩ : ∃ M, M = d.length := ⟨_, rfl⟩
                rw [← hM] at ey
                subst ha2 ey
                have HM2 : Hid (M = d.length) := hM
                have HD : Hid (css[q]? = some d) := hd
                clear hy hM hd
                by_cases hMb : M ≤ 1048576
                · by_cases hMt : T + (M : Int) ≤ 1048576
                  · go_wp2_with fail
                    go_roundg (m - (q + 1))
                    case measure => rw [HGK.out]; omega
                    case rel => exact ⟨q + 1, _, rfl, by omega, by go_num, rfl, by omega, by omega, HBDC.out.next HD.out (by have := HM2.out; omega), rfl⟩
                  · go_wp2_with fail
                    go_ret
                    exact ⟨_, rfl, by simp, rfl⟩
                · go_wp2_with fail
                  go_ret
                  exact ⟨_, rfl, by simp, rfl⟩
              · go_wp2_with fail
                go_ret
                exact ⟨_, rfl, fun _ => trivial, rfl⟩
          · go_wp2_with fail
            go_ret
            exact ⟨_, rfl, by simp, rfl⟩
        · go_wp2_with fail
          go_ret
          exact ⟨_, rfl, by simp, rfl⟩
  · go_wp2_with fail
    all_goals (go_ret; exact ⟨_, rfl, by simp, rfl⟩)

/-- What zzNoEmptyChain makes sure of. -/
def NonePost (b3 : List (List (List Int))) (w : World) (e : Ending) (w' : World) : Prop := ∃ b, e = .returned (.bool b) ∧ (b = true → ∀ (i : Nat) b, b3[i]? = some b → 0 < b.length) ∧ w' = w

set_option maxHeartbeats 1000000 in
theorem none_any (v : Value) (b3 : List (List (List Int))) (w : World) (h : Strss w v b3) (ln : b3.length ≤ 4096) : Calls Try.prog 6 #[v] w (NonePost b3 w) := by
  obtain ⟨a, c, vs, rfl, hvl, hr, hb⟩ := h
  obtain ⟨n, hn⟩ : ∃ n, n = b3.length := ⟨_, rfl⟩
  rw [← hn] at ln ⊢
  have HN : Hid (n = b3.length) := hn
  have HV : Hid (vs.length = b3.length) := hvl
  have HST : Hid (∀ (i : Nat) x b, vs[i]? = some x → b3[i]? = some b → Strs w x b) := hb
  clear hn hvl hb
  go_enter Try.func6, Try.ntmps6
  go_wp2_with fail
  go_loopg [3] n (fun gk iv wr => ∃ (i : Nat), gk = n - i ∧ i ≤ n ∧ iv = .int .i64 i ∧ (∀ (j : Nat) b, j < i → b3[j]? = some b → 0 < b.length) ∧ wr = w)
  case atStart => exact ⟨0, by omega, by omega, rfl, fun j b h => by omega, rfl⟩
  case round =>
    obtain ⟨i, hgk, hi, rfl, hno, hw⟩ := hrel
    have hw := hw.symm
    subst hw
    have HGK : Hid (gk = n - i) := hgk
    have HNO : Hid (∀ (j : Nat) b, j < i → b3[j]? = some b → 0 < b.length) := hno
    clear hgk hno
    by_cases hlt : i < n
    · obtain ⟨b1, o1, x, ha, hx, hcx⟩ := hr.at (k := i) (by rw [HV.out, ← HN.out]; exact hlt)
      obtain ⟨b, hb⟩ := some_at (xs := b3) (k := i) (by rw [← HN.out]; exact hlt)
      obtain ⟨a1, c1, vs1, ex, _, _, _⟩ := HST.out i x b hx hb
      obtain ⟨L, hL⟩ : ∃ L, L = b.length := ⟨_, rfl⟩
      rw [← hL] at ex
      subst ha ex
      have HL : Hid (L = b.length) := hL
      have HB : Hid (b3[i]? = some b) := hb
      clear hx hL hb
      by_cases hL0 : L = 0
      · have hz : ((L : Int) == 0) = true := by simp [hL0]
        clear hL0
        go_wp2_with fail
        go_ret
        exact ⟨_, rfl, by simp, rfl⟩
      · have hz : ((L : Int) == 0) = false := by simp; omega
        go_wp2_with fail
        go_roundg (n - (i + 1))
        case measure => rw [HGK.out]; omega
        case rel =>
          refine ⟨i + 1, rfl, by omega, by go_num, fun j b' h1 h2 => ?_, rfl⟩
          by_cases e : j = i
          · subst e; rw [HB.out] at h2; cases h2; have := HL.out; omega
          · exact HNO.out j b' (by omega) h2
    · go_wp2_with fail
      go_ret
      exact ⟨_, rfl, fun _ j b hj => HNO.out j b (by have := at_lt hj; have := HN.out; omega) hj, rfl⟩
end Go.Proofs.Qxb6615622a
