import Derived.Test.Qxb6615622aEnding
import Derived.LaidEqlPtr
namespace Go.Proofs.Qxb6615622a
open Go.RowKit
set_option linter.unusedVariables false
set_option linter.unusedSimpArgs false

theorem picks_prefix {α : Type} (l : List α) (e : Nat → Bool) (k : Nat) : ∀ d, ∃ r, picks l e (k + d) = picks l e k ++ r
  | 0 => ⟨[], by simp⟩
  | d + 1 => by
    obtain ⟨r, hr⟩ := picks_prefix l e k d
    refine ⟨r ++ if e (k + d) then (l[k + d]?).toList else [], ?_⟩
    rw [show k + (d + 1) = (k + d) + 1 from rfl, picks_succ, hr, List.append_assoc]

theorem picks_at {α : Type} {l : List α} {e : Nat → Bool} {k N : Nat} {t : α} (hk : k < N) (he : e k = true) (ht : l[k]? = some t) : (picks l e N)[(picks l e k).length]? = some t := by
  obtain ⟨r, hr⟩ := picks_prefix l e (k + 1) (N - (k + 1))
  rw [show k + 1 + (N - (k + 1)) = N by omega] at hr
  rw [hr]
  simp [picks, he, ht]

/-- The next one that e names, from k on. -/
theorem picks_next {α : Type} (l : List α) (e : Nat → Bool) : ∀ (d k : Nat), k + d = l.length → (picks l e k).length = (picks l e l.length).length ∧ (∀ j, k ≤ j → j < l.length → e j = false) ∨
    ∃ j, k ≤ j ∧ j < l.length ∧ e j = true ∧ (picks l e l.length)[(picks l e k).length]? = l[j]?
  | 0, k, h => .inl ⟨by rw [← h]; rfl, fun j h1 h2 => by omega⟩
  | d + 1, k, h => by
    cases he : e k with
    | true =>
      obtain ⟨t, ht⟩ := some_at (xs := l) (k := k) (by omega)
      exact .inr ⟨k, Nat.le_refl _, by omega, he, by rw [picks_at (by omega) he ht, ht]⟩
    | false =>
      have e1 : picks l e (k + 1) = picks l e k := by rw [picks_succ, he]; simp
      rcases picks_next l e d (k + 1) (by omega) with ⟨h1, h2⟩ | ⟨j, h1, h2, h3, h4⟩
      · refine .inl ⟨by rw [← h1, e1], fun j h3 h4 => ?_⟩
        by_cases e2 : j = k
        · subst e2; exact he
        · exact h2 j (by omega) h4
      · exact .inr ⟨j, by omega, h2, h3, by rw [← e1]; exact h4⟩

/-- The mask so far. -/
structure MaskAt (e : Nat → Bool) (F : List Bool) (i : Nat) : Prop where
  a : ∀ j, j < i → F[j]? = some (e j)
  b : ∀ j, i ≤ j → j < F.length → F[j]? = some false
theorem MaskAt.hit {e : Nat → Bool} {F : List Bool} {i : Nat} (h : MaskAt e F i) (he : e i = true) (hl : i < F.length) : MaskAt e (F.set i true) (i + 1) := by
  refine ⟨fun j hj => ?_, fun j h1 h2 => ?_⟩
  · rw [List.getElem?_set]
    split
    · rename_i e2; subst e2; simp [hl, he]
    · exact h.a j (by omega)
  · rw [List.getElem?_set_ne (by omega)]
    exact h.b j (by omega) (by simpa using h2)
theorem MaskAt.miss {e : Nat → Bool} {F : List Bool} {i : Nat} (h : MaskAt e F i) (he : e i = false) (hl : i < F.length) : MaskAt e F (i + 1) := by
  refine ⟨fun j hj => ?_, fun j h1 h2 => h.b j (by omega) h2⟩
  by_cases e2 : j = i
  · subst e2; rw [he]; exact h.b j (Nat.le_refl _) hl
  · exact h.a j (by omega)
theorem MaskAt.all {e : Nat → Bool} {F : List Bool} (h : MaskAt e F F.length) : F = (List.range F.length).map e := by
  apply List.ext_getElem?
  intro i
  rcases Nat.lt_or_ge i F.length with h' | h'
  · rw [h.a i h']; simp [h']
  · rw [List.getElem?_eq_none h', List.getElem?_eq_none (by simpa using h')]

/-- What zzKeptMask leaves. -/
def MaskPost (e : Nat → Bool) (n : Nat) (w : World) (en : Ending) (w' : World) : Prop :=
  ∃ a c, en = .returned (.tuple #[.slice a n c, .bool true]) ∧ Row w' a (bools ((List.range n).map e)) ∧ Below w.heap.size w w'

theorem Try.info29s : (Try.prog.info? 35).map (·.size) = some 1 := by kernel_rfl

set_option maxRecDepth 100000 in
set_option maxHeartbeats 1000000 in
theorem mask_any (ka a : Option Addr) (kc c n kn : Nat) (vs : List Value) (b3 : List (List (List Int))) (e : Nat → Bool) (G : Nat → Nat) (B : Nat) (w : World) (hn : Hid (n = vs.length)) (hkn : Hid (kn = (picks vs e vs.length).length)) (ln : n ≤ 4096)
    (hkr : Row w ka (picks vs e vs.length)) (hr : Row w a vs) (hC : Chains w B vs b3 G) (hlen : ∀ (i : Nat) b, b3[i]? = some b → 0 < b.length ∧ b.length ≤ 1048576) :
    Calls Try.prog 9 #[.slice ka kn kc, .slice a n c] w (MaskPost e n w) := by
  obtain ⟨i0, hi, hz0, hz1, hz2⟩ := info_parts Try.info4
  obtain ⟨j0, hj, hjs⟩ := Option.map_eq_some_iff.1 Try.info29s
  have HLEN : Hid (∀ (i : Nat) b, b3[i]? = some b → 0 < b.length ∧ b.length ≤ 1048576) := hlen
  clear hlen
  have lk : kn ≤ n := by rw [hkn.out, hn.out]; exact picks_len _ _ _
  go_enter Try.func9, Try.ntmps9
  go_wp2_with (at_make; refine wpList_make_arr _ rfl _ _ 31 rfl 4 i0 (.bool false) 1 Try.underlying31 hi hz0 hz1 hz2 rfl _ _ _ _ n (by rfl) (by rfl) rfl rfl (by omega) (by unfold maxLen; omega) ?_; intro w1 g hg hA hB1)
  clear hi hz0 hz1 hz2
  have hgw : w.heap.size ≤ g := by have := hg.out; omega
  clear hg
  go_loopg [7, 8] n (fun gk pv iv wr => ∃ (i p : Nat) (F : List Bool), gk = n - i ∧ i ≤ n ∧ iv = .int .i64 i ∧ pv = .int .i64 p ∧ p = (picks vs e i).length ∧ F.length = n ∧ MaskAt e F i ∧ Arr wr g 4 (bools F) ∧ Below w.heap.size w wr)
  case atStart => exact ⟨0, 0, List.replicate n false, by omega, by omega, rfl, rfl, rfl, by simp, ⟨fun j h => by omega, fun j _ h => by simp at h; simp [h]⟩, by simpa [bools] using hA, hB1⟩
  case round =>
    clear hA hB1
    obtain ⟨i, p, F, hgk, hi, rfl, rfl, hp, hF, hM, hA, hB⟩ := hrel
    have HGK : Hid (gk = n - i) := hgk
    have HP : Hid (p = (picks vs e i).length) := hp
    clear hgk hp
    have hpi : p ≤ i := by rw [HP.out]; exact picks_len vs e i
    by_cases hlt : i < n
    · have hnext := picks_next vs e (vs.length - i) i (by have := hn.out; omega)
      obtain ⟨b1, o1, v, ha, hv, hcv⟩ := (hr.keep hB).at (k := i) (by rw [← hn.out]; exact hlt)
      obtain ⟨b, hb⟩ := some_at (xs := b3) (k := i) (by rw [← hC.len, ← hn.out]; exact hlt)
      obtain ⟨qs, ev, hAv, _, _⟩ := (hC.at' i v b hv hb).keep hB
      obtain ⟨l0, l1⟩ := HLEN.out i b hb
      obtain ⟨L, hL⟩ : ∃ L, L = b.length := ⟨_, rfl⟩
      rw [← hL] at ev l0 l1
      subst ha ev
      obtain ⟨m0, hm0⟩ := some_at (xs := F) (k := i) (by omega)
      have cm := hA.cell (bools_at hm0)
      have fm := hA.free i
      have l0' : (0 : Int) < (L : Int) := by omega
      have hiI : (i : Int) < (n : Int) := by omega
      have hpk : Hid (picks vs e (i + 1) = picks vs e i ++ if e i then (vs[i]?).toList else []) := picks_succ vs e i
      have HV : Hid (vs[i]? = some (.slice (some ⟨G i, 0, none⟩) L L)) := hv
      have HL : Hid (L = b.length) := hL
      clear hm0 hv hL
      rcases hnext with ⟨h1, h2⟩ | ⟨j, hj1, hj2, hj3, hj4⟩
      · -- nothing is left to be found
        have HE : Hid (e i = false) := h2 i (Nat.le_refl _) (by have := hn.out; omega)
        have hd : decide (p < kn) = false := decide_eq_false (by have := HP.out; have := hkn.out; omega)
        clear h1 h2 hb
        go_wp2_with fail
        go_quiet (fail)
        go_wp2_with fail
        go_roundg (n - (i + 1))
        case measure => rw [HGK.out]; omega
        case rel => exact ⟨i + 1, p, F, rfl, by omega, by go_num, rfl, by rw [hpk.out, HE.out, HP.out]; simp, hF, hM.miss HE.out (by omega), hA.draws _, below_drewN hB _⟩
      · obtain ⟨v', hv'⟩ := some_at hj2
        rw [hv', ← HP.out] at hj4
        have hpk2 : p < kn := by rw [hkn.out]; exact at_lt hj4
        have hpI : (p : Int) < (kn : Int) := by omega
        obtain ⟨b2, o2, v2, ha2, hv2, hcv2⟩ := (hkr.keep hB).at (k := p) (by rw [← hkn.out]; exact hpk2)
        obtain rfl : v2 = v' := by rw [hj4] at hv2; exact (Option.some.inj hv2).symm
        obtain ⟨b', hb'⟩ := some_at (xs := b3) (k := j) (by rw [← hC.len]; exact hj2)
        obtain ⟨qs', ev', hAv', _, _⟩ := (hC.at' j v2 b' hv' hb').keep hB
        obtain ⟨l0b, l1b⟩ := HLEN.out j b' hb'
        obtain ⟨L', hL'⟩ : ∃ L', L' = b'.length := ⟨_, rfl⟩
        rw [← hL'] at ev' l0b l1b
        subst ha2 ev'
        have l0b' : (0 : Int) < (L' : Int) := by omega
        by_cases hji : j = i
        · subst hji
          have HLL : Hid (L' = L) := by rw [hb] at hb'; cases hb'; show _ = _; rw [hL', HL.out]
          have := HLL.out
          subst this
          have hq := fun x => run_eql_ptr_same (P := Try.prog) (wr.drewN x) ⟨G j, 0, none⟩ Try.underlying60 hj
          have HE : Hid (e j = true) := hj3
          clear hj1 hj2 hj3 hj4 hv' hv2 hb hb' hL' hAv hAv'
          go_wp2_with fail
          go_quiet (fail)
          go_wp2_with fail
          go_roundg (n - (j + 1))
          case measure => rw [HGK.out]; omega
          case rel => exact ⟨j + 1, p + 1, F.set j true, rfl, by omega, by go_num, by go_num, by rw [hpk.out, HE.out, HV.out, HP.out]; simp, by simpa using hF, hM.hit HE.out (by omega), by rw [← bools_set]; exact (hA.draws _).set j _, (below_drewN hB _).setCell (by simpa using hgw) _⟩
        · have HE : Hid (e i = false) := by
            show _ = _
            cases he : e i with
            | false => rfl
            | true =>
              exfalso
              have h1 := picks_at (l := vs) (e := e) (k := i) (N := vs.length) (by have := hn.out; omega) he HV.out
              rw [← HP.out, hj4] at h1
              have h2 : G j = G i := by simpa using congrArg (fun x => match x with | some (Value.slice (some a) _ _) => a.block | _ => 0) h1
              exact hji (hC.inj j i hj2 (by have := hn.out; omega) h2)
          have hgne : G j ≠ G i := fun h => hji (hC.inj j i hj2 (by have := hn.out; omega) h)
          have hgne' : (⟨G j, 0, none⟩ : Addr) ≠ ⟨G i, 0, none⟩ := fun h => hgne (congrArg Addr.block h)
          by_cases hLL : L' = L
          · subst hLL
            have hq := fun x => run_eql_ptr_other (P := Try.prog) (wr.drewN x) (a := ⟨G j, 0, none⟩) (b := ⟨G i, 0, none⟩) Try.underlying60 hj (by rw [hjs]; decide) hgne' hAv' hAv
            clear hj1 hj2 hj3 hj4 hv' hv2 hb hb' hL' hAv hAv' hgne hgne'
            go_wp2_with fail
            go_quiet (fail)
            go_wp2_with fail
            go_roundg (n - (i + 1))
            case measure => rw [HGK.out]; omega
            case rel => exact ⟨i + 1, p, F, rfl, by omega, by go_num, rfl, by rw [hpk.out, HE.out, HP.out]; simp, hF, hM.miss HE.out (by omega), hA.draws _, below_drewN hB _⟩
          · have hd : ((L' : Int) == (L : Int)) = false := by simp; omega
            clear hj1 hj2 hj3 hj4 hv' hv2 hb hb' hL' hAv hAv' hgne hgne'
            go_wp2_with fail
            go_quiet (fail)
            go_wp2_with fail
            go_roundg (n - (i + 1))
            case measure => rw [HGK.out]; omega
            case rel => exact ⟨i + 1, p, F, rfl, by omega, by go_num, rfl, by rw [hpk.out, HE.out, HP.out]; simp, hF, hM.miss HE.out (by omega), hA.draws _, below_drewN hB _⟩
    · have hin : n = i := by omega
      subst hin
      obtain rfl : p = kn := by rw [HP.out, hkn.out, hn.out]
      have hFe : F = (List.range n).map e := by have := MaskAt.all (e := e) (F := F) (by rw [hF]; exact hM); rw [hF] at this; exact this
      have hrow := hA.row
      rw [hFe] at hrow
      clear hFe hA hM
      go_wp2_with fail
      go_ret2
      exact ⟨_, _, rfl, hrow, hB⟩
end Go.Proofs.Qxb6615622a
