import Derived.Test.Qxb6615622aFind
import Derived.Deep.AppendLies
namespace Go.Proofs.Qxb6615622a
open Go.RowKit
set_option linter.unusedVariables false
set_option linter.unusedSimpArgs false

/-- Those of the first k that e names. -/
def picks {α : Type} (l : List α) (e : Nat → Bool) : Nat → List α
  | 0 => []
  | k + 1 => picks l e k ++ if e k then (l[k]?).toList else []
theorem picks_succ {α : Type} (l : List α) (e : Nat → Bool) (k : Nat) : picks l e (k + 1) = picks l e k ++ if e k then (l[k]?).toList else [] := rfl
theorem picks_len {α : Type} (l : List α) (e : Nat → Bool) : ∀ k, (picks l e k).length ≤ k
  | 0 => Nat.le_refl _
  | k + 1 => by
    have := picks_len l e k
    rw [picks_succ]
    split
    · cases h : l[k]? <;> simp <;> omega
    · simp; omega

/-- v is a chain of certificates of the bytes b, in block g. -/
def ChainOf (w : World) (B : Nat) (v : Value) (b : List (List Int)) (g : Nat) : Prop := ∃ ps, v = .slice (some ⟨g, 0, none⟩) b.length b.length ∧ Arr w g 35 ps ∧ Certs w B ps b ∧ B ≤ g
theorem ChainOf.keep {w w' : World} {B : Nat} {v : Value} {b : List (List Int)} {g : Nat} (h : ChainOf w B v b g) (hb : Below w.heap.size w w') : ChainOf w' B v b g := by
  obtain ⟨ps, e, hA, hC, hB⟩ := h
  exact ⟨ps, e, hA.keep hb hA.lt, hC.keep hb, hB⟩
theorem ChainOf.mono {w : World} {B B' : Nat} {v : Value} {b : List (List Int)} {g : Nat} (h : ChainOf w B v b g) (hB : B' ≤ B) : ChainOf w B' v b g := by
  obtain ⟨ps, e, hA, hC, h'⟩ := h
  exact ⟨ps, e, hA, hC.mono hB, by omega⟩

/-- The values vs are chains of b3, each in a block of its own. -/
structure Chains (w : World) (B : Nat) (vs : List Value) (b3 : List (List (List Int))) (G : Nat → Nat) : Prop where
  len : vs.length = b3.length
  at' : ∀ (i : Nat) v b, vs[i]? = some v → b3[i]? = some b → ChainOf w B v b (G i)
  inj : ∀ i j, i < vs.length → j < vs.length → G i = G j → i = j
theorem Chains.keep {w w' : World} {B : Nat} {vs : List Value} {b3 : List (List (List Int))} {G : Nat → Nat} (h : Chains w B vs b3 G) (hb : Below w.heap.size w w') : Chains w' B vs b3 G :=
  ⟨h.len, fun i v b h1 h2 => (h.at' i v b h1 h2).keep hb, h.inj⟩
theorem Chains.take {w : World} {B : Nat} {vs : List Value} {b3 : List (List (List Int))} {G : Nat → Nat} (h : Chains w B vs b3 G) (k : Nat) : Chains w B (vs.take k) (b3.take k) G := by
  refine ⟨by simp [h.len], fun i v b h1 h2 => ?_, fun i j h1 h2 => h.inj i j (by simp at h1; omega) (by simp at h2; omega)⟩
  rw [List.getElem?_take] at h1 h2
  split at h1
  · rename_i hi; rw [if_pos hi] at h2; exact h.at' i v b h1 h2
  · cases h1
theorem Chains.drop {w : World} {B : Nat} {vs : List Value} {b3 : List (List (List Int))} {G : Nat → Nat} (h : Chains w B vs b3 G) (k : Nat) : Chains w B (vs.drop k) (b3.drop k) (fun i => G (k + i)) := by
  refine ⟨by simp [h.len], fun i v b h1 h2 => ?_, fun i j h1 h2 h3 => ?_⟩
  · rw [List.getElem?_drop] at h1 h2
    exact h.at' (k + i) v b h1 h2
  · simp at h1 h2
    have := h.inj (k + i) (k + j) (by omega) (by omega) h3
    omega

/-- Chain i ends at one of css. -/
def sel (css : List (List Int)) (b3 : List (List (List Int))) (i : Nat) : Bool :=
  match b3[i]? with
  | some b => anyB css (b.getLastD [])
  | none => false
theorem sel_at {css : List (List Int)} {b3 : List (List (List Int))} {i : Nat} {b : List (List Int)} (h : b3[i]? = some b) : sel css b3 i = anyB css (b.getLastD []) := by simp [sel, h]

theorem last_at {b : List (List Int)} (h : 0 < b.length) : b[b.length - 1]? = some (b.getLastD []) := by
  have hne : b ≠ [] := by intro e; subst e; simp at h
  rw [List.getLastD_eq_getLast?, List.getLast?_eq_getElem?]
  obtain ⟨x, hx⟩ := some_at (xs := b) (k := b.length - 1) (by omega)
  rw [hx]; rfl

theorem ownBlock_ge {w : World} {base : Nat} {e : TypeId} {size : Nat} {v : Value} {n : Nat} {xs : List Value} (h : w.ownsRow base e size v n xs) : ∀ k, v.ownBlock = some k → base ≤ k := by
  intro k hk
  obtain ⟨_, h2⟩ := h
  rcases h2 with ⟨rfl, _⟩ | ⟨g, cap, cur, hv, hg, hh, r⟩
  · simp [Value.ownBlock] at hk
  · subst hv
    simp [Value.ownBlock] at hk
    omega

/-- What is owned, as a row. -/
theorem owned_row {w : World} {base : Nat} {e : TypeId} {v : Value} {xs : List Value} (h : w.ownsRow base e 1 v xs.length xs) : ∃ a c, v = .slice a xs.length c ∧ Row w a xs := by
  rcases h.2 with ⟨rfl, h0⟩ | ⟨g, cap, cur, rfl, hb, hh, _, _, _, ht⟩
  · have e : xs = [] := List.eq_nil_of_length_eq_zero h0
    subst e
    exact ⟨none, 0, rfl, .inl rfl⟩
  · refine ⟨_, cap, rfl, .inr ⟨g, 0, rfl, lt_of_block hh, fun i u hu => ?_⟩⟩
    have hi := at_lt hu
    rw [Nat.zero_add, h.cellAt i (by omega)]
    exact hu

/-- What endingAt leaves. -/
def EndPost (css : List (List Int)) (vs : List Value) (b3 : List (List (List Int))) (w : World) (e : Ending) (w' : World) : Prop :=
  ∃ a c, e = .returned (.slice a (picks vs (sel css b3) vs.length).length c) ∧ Row w' a (picks vs (sel css b3) vs.length) ∧ Below w.heap.size w w'

set_option maxRecDepth 100000 in
set_option maxHeartbeats 1000000 in
theorem ending_any (a ca : Option Addr) (c cc n m : Nat) (vs ps : List Value) (b3 : List (List (List Int))) (css : List (List Int)) (G : Nat → Nat) (B : Nat) (w : World) (hn : Hid (n = vs.length)) (hm : Hid (m = css.length)) (ln : n ≤ 4096) (lm : m ≤ 1048576)
    (hr : Row w a vs) (hC : Chains w B vs b3 G) (hlen : ∀ (i : Nat) b, b3[i]? = some b → 0 < b.length ∧ b.length ≤ 1048576) (hcr : Row w ca ps) (hcc : Certs w B ps css) :
    Calls Try.prog 12 #[.slice a n c, .slice ca m cc] w (EndPost css vs b3 w) := by
  obtain ⟨i0, hi, hz0, hz1, hz2⟩ := info_parts Try.info29
  have HLEN : Hid (∀ (i : Nat) b, b3[i]? = some b → 0 < b.length ∧ b.length ≤ 1048576) := hlen
  clear hlen
  go_enter Try.func12, Try.ntmps12
  go_wp2_with fail
  go_loopg [5, 10] n (fun gk kv i wr => ∃ (k : Nat), gk = n - k ∧ k ≤ n ∧ i = .int .i64 k ∧ wr.ownsRow w.heap.size 29 1 kv (picks vs (sel css b3) k).length (picks vs (sel css b3) k) ∧ Below w.heap.size w wr)
  case atStart => exact ⟨0, by omega, by omega, rfl, World.ownsRow_nil _ _ _ _, Below.refl _ _⟩
  case round =>
    obtain ⟨k, hgk, hk, rfl, hown, hB⟩ := hrel
    have HGK : Hid (gk = n - k) := hgk
    clear hgk
    by_cases hlt : k < n
    · obtain ⟨b1, off, v, ha, hv, hc⟩ := (hr.keep hB).at (k := k) (by rw [← hn.out]; exact hlt)
      obtain ⟨b, hb⟩ := some_at (xs := b3) (k := k) (by rw [← hC.len, ← hn.out]; exact hlt)
      obtain ⟨qs, e, hA, hcs, hBg⟩ := (hC.at' k v b hv hb).keep hB
      obtain ⟨l0, l1⟩ := HLEN.out k b hb
      obtain ⟨L, hL⟩ : ∃ L, L = b.length := ⟨_, rfl⟩
      rw [← hL] at e
      subst ha e
      obtain ⟨q, hq⟩ := some_at (xs := qs) (k := L - 1) (by rw [hcs.1]; omega)
      have hcq := hA.cell hq
      have hcert := hcs.2 (L - 1) q (b.getLastD []) hq (by rw [hL]; exact last_at l0)
      have l0' : (0 : Int) < (L : Int) := by omega
      have l1' : L ≤ 1048576 := by omega
      have HV : Hid (vs[k]? = some (.slice (some ⟨G k, 0, none⟩) L L)) := hv
      have HS : Hid (sel css b3 k = anyB css (b.getLastD [])) := sel_at hb
      have HCERT : Hid (IsCert wr B q (b.getLastD [])) := hcert
      have HL : Hid (L = b.length) := hL
      clear hv hb hq hcert hcs hBg l0 l1 hA hL
      go_wp2_with fail
      refine (contains_any ca cc m ps q css (b.getLastD []) B wr hm lm (hcr.keep hB) (hcc.keep hB) HCERT.out).mono ?_
      rintro e w' ⟨rfl, d, hw⟩
      have hB' : Below w.heap.size w w' := by rw [hw]; exact below_drewN hB d
      have hown' : w'.ownsRow w.heap.size 29 1 u5 (picks vs (sel css b3) k).length (picks vs (sel css b3) k) := by rw [hw]; exact hown
      have hpl := picks_len vs (sel css b3) k
      clear hw hown hB hc hcq HCERT
      cases hb : anyB css (b.getLastD []) with
      | true =>
        have HB : Hid (anyB css (b.getLastD []) = true) := hb
        clear hb
        go_wp2_with (at_builtin; refine wpList_append_lies _ rfl _ _ 27 (by rfl) w.heap.size 29 i0 (.slice none 0 0) 1 24 Try.underlying27 hi hz0 hz1 hz2 rfl (by decide) u5 (picks vs (sel css b3) k).length (picks vs (sel css b3) k) (by rfl) (hown'.alloc _) ⟨w'.heap.size, 0, none⟩ 1 1 [.slice (some ⟨G k, 0, none⟩) L L] (by rfl) (by rfl) ?_ ?_ (by decide) ?_ ?_ ?_ _ rfl ?_)
        · intro j u hj
          match j, hj with
          | 0, hj => simp at hj; subst hj; simp [Addr.add]
        · intro u hu; simp at hu; subst hu; rfl
        · unfold maxLen; omega
        · omega
        · have := hB'.size; simp; omega
        · intro g cap w1 hown1 hgrow hat hlt2
          have hB1 : Below w.heap.size w w1 := (hB'.alloc hB'.size (.cells #[.slice (some ⟨G k, 0, none⟩) L L] 29)).grown hgrow (by have := hB'.size; simp; omega) (fun j hj => ownBlock_ge hown' j hj)
          have hnext : w1.ownsRow w.heap.size 29 1 (.slice (some ⟨g, 0, none⟩) ((picks vs (sel css b3) k).length + 1) cap) (picks vs (sel css b3) (k + 1)).length (picks vs (sel css b3) (k + 1)) := by
            have e1 : picks vs (sel css b3) (k + 1) = picks vs (sel css b3) k ++ [.slice (some ⟨G k, 0, none⟩) L L] := by rw [picks_succ, HS.out, HB.out, HV.out]; rfl
            rw [e1, List.length_append]
            exact hown1
          clear hgrow hat hown1 hown' hB'
          go_wp2_with fail
          go_roundg (n - (k + 1))
          case measure => rw [HGK.out]; omega
          case rel => exact ⟨k + 1, rfl, by omega, by go_num, hnext, hB1⟩
      | false =>
        have HB : Hid (anyB css (b.getLastD []) = false) := hb
        clear hb
        have hnext : w'.ownsRow w.heap.size 29 1 u5 (picks vs (sel css b3) (k + 1)).length (picks vs (sel css b3) (k + 1)) := by
          have e1 : picks vs (sel css b3) (k + 1) = picks vs (sel css b3) k := by rw [picks_succ, HS.out, HB.out]; simp
          rw [e1]
          exact hown'
        go_wp2_with fail
        go_roundg (n - (k + 1))
        case measure => rw [HGK.out]; omega
        case rel => exact ⟨k + 1, rfl, by omega, by go_num, hnext, hB'⟩
    · have hkn : k = vs.length := by have := hn.out; omega
      rw [hkn] at hown
      obtain ⟨ra, rc, hv, hrow⟩ := owned_row hown
      subst hv
      go_wp2_with fail
      go_ret
      exact ⟨_, _, rfl, hrow, hB⟩
end Go.Proofs.Qxb6615622a
