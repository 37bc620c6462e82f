import Derived.Test.Qxb6615639aBase
namespace Go.Proofs.Qxb6615639a
set_option linter.unusedVariables false
set_option linter.unusedSimpArgs false

/-- F is the table of places of xs: F[t] is where t stands in xs, or -1. -/
structure PosOf (xs : List Int) (F : List Int) : Prop where
  fwd : ∀ (p : Nat) (x : Int), xs[p]? = some x → 0 ≤ x ∧ x < F.length ∧ F[x.toNat]? = some (p : Int)
  bwd : ∀ (t : Nat) (m : Int), F[t]? = some m → (m = -1 ∧ (t : Int) ∉ xs) ∨ ∃ p : Nat, m = p ∧ xs[p]? = some (t : Int)

theorem PosOf.nil (F : List Int) (h : ∀ m ∈ F, m = -1) : PosOf [] F :=
  ⟨fun p x hx => by simp at hx, fun t m hm => .inl ⟨h m (List.mem_of_getElem? hm), by simp⟩⟩

theorem PosOf.snoc {xs F : List Int} (h : PosOf xs F) {t : Nat} {m : Int} (hm : F[t]? = some m) (hneg : m < 0) : PosOf (xs ++ [(t : Int)]) (F.set t xs.length) := by
  have ht : t < F.length := at_lt hm
  have hno : (t : Int) ∉ xs := by
    rcases h.bwd t m hm with ⟨_, h'⟩ | ⟨p, rfl, _⟩
    · exact h'
    · omega
  refine ⟨fun p x hx => ?_, fun s m' hs => ?_⟩
  · rw [List.getElem?_append] at hx
    split at hx
    · rename_i hp
      obtain ⟨h0, h1, h2⟩ := h.fwd p x hx
      refine ⟨h0, by simpa using h1, ?_⟩
      have hne : t ≠ x.toNat := by
        rintro rfl
        have : (x.toNat : Int) = x := by omega
        rw [this] at hno
        exact hno (List.mem_of_getElem? hx)
      rw [List.getElem?_set_ne hne]
      exact h2
    · rename_i hp
      have hx' := at_lt hx
      simp at hx'
      have e : p = xs.length := by omega
      subst e
      simp at hx
      subst hx
      refine ⟨by omega, by simp; omega, ?_⟩
      simp [ht]
  · rw [List.getElem?_set] at hs
    split at hs
    · rename_i e
      subst e
      simp at hs
      subst hs
      exact .inr ⟨xs.length, rfl, by simp⟩
    · rename_i e
      rcases h.bwd s m' hs with ⟨hm', hn⟩ | ⟨p, hm', hp⟩
      · refine .inl ⟨hm', ?_⟩
        simp [hn]
        omega
      · exact .inr ⟨p, hm', by rw [List.getElem?_append_left (at_lt hp)]; exact hp⟩

theorem PosOf.inj {xs F : List Int} (h : PosOf xs F) {p q : Nat} {x : Int} (hp : xs[p]? = some x) (hq : xs[q]? = some x) : p = q := by
  have a := (h.fwd p x hp).2.2
  have b := (h.fwd q x hq).2.2
  rw [a] at b
  simp at b
  omega

theorem take_snoc {α : Type} {xs : List α} {k : Nat} {x : α} (h : xs[k]? = some x) : xs.take (k + 1) = xs.take k ++ [x] := by
  rw [List.take_add_one, h]; rfl

theorem take_all {α : Type} {xs : List α} {k : Nat} (h : k = xs.length) : xs.take k = xs := by subst h; simp

/-- The first k are -1. -/
def Negs (F : List Int) (k : Nat) : Prop := ∀ (j : Nat) m, j < k → F[j]? = some m → m = -1
theorem Negs.zero (F : List Int) : Negs F 0 := fun j m h => by omega
theorem Negs.next {F : List Int} {k : Nat} (h : Negs F k) : Negs (F.set k (-1)) (k + 1) := by
  intro j m hj hm
  rw [List.getElem?_set] at hm
  split at hm
  · split at hm
    · exact (Option.some.inj hm).symm
    · simp at hm
  · exact h j m (by omega) hm
theorem Negs.pos {F : List Int} (h : Negs F F.length) : PosOf [] F := PosOf.nil F fun m hm => by
  obtain ⟨j, hj⟩ := List.mem_iff_getElem?.1 hm
  exact h j m (at_lt hj) hj

/-- What 'zzSpanWell' makes sure of. -/
structure Well (fAt fTxn fMate lAt lTxn lMate : List Int) (n : Nat) : Prop where
  lf1 : fTxn.length = fAt.length
  lf2 : fMate.length = fAt.length
  ll1 : lTxn.length = lAt.length
  ll2 : lMate.length = lAt.length
  incF : ∀ (p : Nat) x y, fAt[p]? = some x → fAt[p + 1]? = some y → x < y
  incL : ∀ (p : Nat) x y, lAt[p]? = some x → lAt[p + 1]? = some y → x < y
  rngF : ∀ (p : Nat) x, fTxn[p]? = some x → 0 ≤ x ∧ x < n
  rngL : ∀ (p : Nat) x, lTxn[p]? = some x → 0 ≤ x ∧ x < n
  injF : ∀ (p q : Nat) x, fTxn[p]? = some x → fTxn[q]? = some x → p = q
  injL : ∀ (p q : Nat) x, lTxn[p]? = some x → lTxn[q]? = some x → p = q
  mate : ∀ (p : Nat) t m, fTxn[p]? = some t → fMate[p]? = some m → (m = -1 ∧ t ∉ lTxn) ∨ ∃ q : Nat, m = q ∧ lTxn[q]? = some t

/-- The first k of xs go up. -/
def Ups (xs : List Int) (k : Nat) : Prop := ∀ (p : Nat) x y, p + 1 < k → xs[p]? = some x → xs[p + 1]? = some y → x < y

theorem Ups.one (xs : List Int) : Ups xs 1 := fun p x y h => by omega
theorem Ups.next {xs : List Int} {k : Nat} (h : Ups xs (k + 1)) {a b : Int} (ha : xs[k]? = some a) (hb : xs[k + 1]? = some b) (hlt : a < b) : Ups xs (k + 2) := by
  intro p x y hp hx hy
  by_cases e : p = k
  · subst e
    rw [ha] at hx; rw [hb] at hy
    cases hx; cases hy; exact hlt
  · exact h p x y (by omega) hx hy

/-- The first k mates are the places that the table L gives. -/
def Mates (txn mate L : List Int) (k : Nat) : Prop := ∀ (p : Nat) t m, p < k → txn[p]? = some t → mate[p]? = some m → L[t.toNat]? = some m

theorem Mates.zero (txn mate L : List Int) : Mates txn mate L 0 := fun p t m h => by omega
theorem Mates.next {txn mate L : List Int} {k : Nat} (h : Mates txn mate L k) {t : Nat} {m : Int} (ht : txn[k]? = some (t : Int)) (hm : mate[k]? = some m) (hL : L[t]? = some m) : Mates txn mate L (k + 1) := by
  intro p t' m' hp h1 h2
  by_cases e : p = k
  · subst e
    rw [ht] at h1; rw [hm] at h2
    cases h1; cases h2; simpa using hL
  · exact h p t' m' (by omega) h1 h2

theorem well_of {fAt fTxn fMate lAt lTxn lMate F L : List Int} {n : Nat} (hF : F.length = n) (hL : L.length = n) (lf1 : fTxn.length = fAt.length) (lf2 : fMate.length = fAt.length) (ll1 : lTxn.length = lAt.length) (ll2 : lMate.length = lAt.length)
    (uF : Ups fAt fAt.length) (uL : Ups lAt lAt.length) (pF : PosOf fTxn F) (pL : PosOf lTxn L) (hm : Mates fTxn fMate L fAt.length) : Well fAt fTxn fMate lAt lTxn lMate n where
  lf1 := lf1
  lf2 := lf2
  ll1 := ll1
  ll2 := ll2
  incF p x y hx hy := uF p x y (at_lt hy) hx hy
  incL p x y hx hy := uL p x y (at_lt hy) hx hy
  rngF p x hx := by have := pF.fwd p x hx; omega
  rngL p x hx := by have := pL.fwd p x hx; omega
  injF p q x hp hq := pF.inj hp hq
  injL p q x hp hq := pL.inj hp hq
  mate p t m ht hm' := by
    have h1 := hm p t m (by have := at_lt ht; omega) ht hm'
    have h2 := pF.fwd p t ht
    have e : (t.toNat : Int) = t := by omega
    rcases pL.bwd _ _ h1 with ⟨a, b⟩ | ⟨q, a, b⟩
    · exact .inl ⟨a, by rwa [e] at b⟩
    · exact .inr ⟨q, a, by rwa [e] at b⟩

end Go.Proofs.Qxb6615639a
