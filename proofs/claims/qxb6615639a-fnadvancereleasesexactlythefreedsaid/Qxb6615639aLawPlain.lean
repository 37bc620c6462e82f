import Derived.Test.Qxb6615639aAdvPlain
namespace Go.Proofs.Qxb6615639a
set_option linter.unusedVariables false
set_option linter.unusedSimpArgs false

/-- P is the table of places of xs, d where there is none. -/
structure OPos (xs P : List Int) (d : Int) : Prop where
  fwd : ∀ (p : Nat) (x : Int), xs[p]? = some x → 0 ≤ x ∧ x < P.length ∧ P[x.toNat]? = some (p : Int)
  bwd : ∀ (t : Nat) (m : Int), P[t]? = some m → (m = d ∧ (t : Int) ∉ xs) ∨ ∃ p : Nat, m = p ∧ xs[p]? = some (t : Int)

theorem OPos.nil (P : List Int) (d : Int) (h : ∀ m ∈ P, m = d) : OPos [] P d :=
  ⟨fun p x hx => by simp at hx, fun t m hm => .inl ⟨h m (List.mem_of_getElem? hm), by simp⟩⟩

theorem OPos.snoc {xs P : List Int} {d : Int} (h : OPos xs P d) {t : Nat} (hm : P[t]? = some d) (hd : (xs.length : Int) < d) : OPos (xs ++ [(t : Int)]) (P.set t xs.length) d := by
  have ht : t < P.length := at_lt hm
  have hno : (t : Int) ∉ xs := by
    rcases h.bwd t d hm with ⟨_, h'⟩ | ⟨p, hp, hx⟩
    · exact h'
    · have := at_lt hx; omega
  refine ⟨fun p x hx => ?_, fun s m' hs => ?_⟩
  · rw [List.getElem?_append] at hx
    split at hx
    · obtain ⟨h0, h1, h2⟩ := h.fwd p x hx
      refine ⟨h0, by simpa using h1, ?_⟩
      have hne : t ≠ x.toNat := by
        rintro rfl
        have : (x.toNat : Int) = x := by omega
        rw [this] at hno
        exact hno (List.mem_of_getElem? hx)
      rw [List.getElem?_set_ne hne]
      exact h2
    · rename_i hp
      have hx' := at_lt hx
      simp at hx'
      have e : p = xs.length := by omega
      subst e
      simp at hx
      subst hx
      refine ⟨by omega, by simp; omega, ?_⟩
      simp [ht]
  · rw [List.getElem?_set] at hs
    split at hs
    · rename_i e
      subst e
      simp [ht] at hs
      subst hs
      exact .inr ⟨xs.length, rfl, by simp⟩
    · rename_i e
      rcases h.bwd s m' hs with ⟨hm', hn⟩ | ⟨p, hm', hp⟩
      · refine .inl ⟨hm', ?_⟩
        simp [hn]
        omega
      · exact .inr ⟨p, hm', by rw [List.getElem?_append_left (at_lt hp)]; exact hp⟩

/-- The first k are d. -/
def Alls (F : List Int) (d : Int) (k : Nat) : Prop := ∀ (j : Nat) m, j < k → F[j]? = some m → m = d
theorem Alls.zero (F : List Int) (d : Int) : Alls F d 0 := fun j m h => by omega
theorem Alls.next {F : List Int} {d : Int} {k : Nat} (h : Alls F d k) : Alls (F.set k d) d (k + 1) := by
  intro j m hj hm
  rw [List.getElem?_set] at hm
  split at hm
  · split at hm
    · exact (Option.some.inj hm).symm
    · simp at hm
  · exact h j m (by omega) hm
theorem Alls.pos {F : List Int} {d : Int} (h : Alls F d F.length) : OPos [] F d := OPos.nil F d fun m hm => by
  obtain ⟨j, hj⟩ := List.mem_iff_getElem?.1 hm
  exact h j m (at_lt hj) hj

/-- k is the step at which all those of the first j that stand before 'la', t aside, are placed. -/
structure FK (fAt fTxn P : List Int) (la t : Int) (j : Nat) (k : Int) : Prop where
  pos : 0 ≤ k
  ub : ∀ (p : Nat) x y m, p < j → fAt[p]? = some x → fTxn[p]? = some y → P[y.toNat]? = some m → x < la → y ≠ t → m + 1 ≤ k
  lub : ∀ B : Int, 0 ≤ B → (∀ (p : Nat) x y m, p < j → fAt[p]? = some x → fTxn[p]? = some y → P[y.toNat]? = some m → x < la → y ≠ t → m + 1 ≤ B) → k ≤ B

theorem FK.zero (fAt fTxn P : List Int) (la t : Int) : FK fAt fTxn P la t 0 0 := ⟨Int.le_refl _, fun p x y m h => by omega, fun B h _ => h⟩

theorem FK.skip {fAt fTxn P : List Int} {la t : Int} {j : Nat} {k : Int} (h : FK fAt fTxn P la t j k) {x y m : Int} (hx : fAt[j]? = some x) (hy : fTxn[j]? = some y) (hm : P[y.toNat]? = some m) (hn : x < la → y ≠ t → m + 1 ≤ k) : FK fAt fTxn P la t (j + 1) k := by
  refine ⟨h.pos, fun p x' y' m' hp h1 h2 h3 h4 h5 => ?_, fun B hB hb => h.lub B hB fun p x' y' m' hp => hb p x' y' m' (by omega)⟩
  by_cases e : p = j
  · subst e
    rw [hx] at h1; rw [hy] at h2; cases h1; cases h2
    rw [hm] at h3; cases h3
    exact hn h4 h5
  · exact h.ub p x' y' m' (by omega) h1 h2 h3 h4 h5

theorem FK.take {fAt fTxn P : List Int} {la t : Int} {j : Nat} {k : Int} (h : FK fAt fTxn P la t j k) {x y m : Int} (hx : fAt[j]? = some x) (hy : fTxn[j]? = some y) (hm : P[y.toNat]? = some m) (h1 : x < la) (h2 : y ≠ t) (h3 : k < m + 1) : FK fAt fTxn P la t (j + 1) (m + 1) := by
  refine ⟨by have := h.pos; omega, fun p x' y' m' hp i1 i2 i3 i4 i5 => ?_, fun B hB hb => hb j x y m (by omega) hx hy hm h1 h2⟩
  by_cases e : p = j
  · subst e
    rw [hx] at i1; rw [hy] at i2; cases i1; cases i2
    rw [hm] at i3; cases i3
    exact Int.le_refl _
  · have := h.ub p x' y' m' (by omega) i1 i2 i3 i4 i5
    omega

/-- The first i of freedAt. -/
def Frees (fAt fTxn lAt lTxn P FQ : List Int) (i : Nat) : Prop := ∀ (q : Nat) la t k, q < i → lAt[q]? = some la → lTxn[q]? = some t → FQ[q]? = some k → FK fAt fTxn P la t fAt.length k
theorem Frees.zero (fAt fTxn lAt lTxn P FQ : List Int) : Frees fAt fTxn lAt lTxn P FQ 0 := fun q la t k h => by omega
theorem Frees.next {fAt fTxn lAt lTxn P FQ : List Int} {i : Nat} (h : Frees fAt fTxn lAt lTxn P FQ i) {la t k : Int} (hla : lAt[i]? = some la) (ht : lTxn[i]? = some t) (hk : FK fAt fTxn P la t fAt.length k) : Frees fAt fTxn lAt lTxn P (FQ.set i k) (i + 1) := by
  intro q la' t' k' hq h1 h2 h3
  rw [List.getElem?_set] at h3
  split at h3
  · rename_i e
    subst e
    split at h3
    · cases h3
      rw [hla] at h1; rw [ht] at h2; cases h1; cases h2
      exact hk
    · simp at h3
  · exact h q la' t' k' (by omega) h1 h2 h3

/-- Those are placed whose place in the order lies before s. -/
def Placed (P : List Int) (placed : List Bool) (s : Nat) : Prop := ∀ (t : Nat) b m, placed[t]? = some b → P[t]? = some m → b = decide (m < (s : Int))

theorem Placed.zero {P : List Int} {order : List Int} {d : Int} (h : OPos order P d) (hd : 0 ≤ d) (placed : List Bool) (hp : ∀ b ∈ placed, b = false) : Placed P placed 0 := by
  intro t b m hb hm
  rw [hp b (List.mem_of_getElem? hb)]
  have : 0 ≤ m := by
    rcases h.bwd t m hm with ⟨h1, _⟩ | ⟨p, h1, _⟩ <;> omega
  simp; omega

theorem Placed.next {P order : List Int} (h : OPos order P order.length) {placed : List Bool} {s t : Nat} (hp : Placed P placed s) (ht : order[s]? = some (t : Int)) : Placed P (placed.set t true) (s + 1) := by
  have hlt := at_lt ht
  intro u b m hb hm
  rw [List.getElem?_set] at hb
  split at hb
  · rename_i e
    subst e
    split at hb
    · cases hb
      have := (h.fwd s t ht).2.2
      simp at this
      rw [this] at hm
      cases hm
      simp; omega
    · simp at hb
  · rename_i e
    rw [hp u b m hb hm]
    rcases h.bwd u m hm with ⟨h1, _⟩ | ⟨p, h1, h2⟩
    · simp only [decide_eq_decide]; omega
    · simp only [decide_eq_decide]
      have : p ≠ s := by
        rintro rfl
        rw [ht] at h2
        simp at h2
        omega
      omega

theorem Placed.at {P : List Int} {placed : List Bool} {s : Nat} (h : Placed P placed s) (hl : placed.length = P.length) {t m : Int} (h0 : 0 ≤ t) (hm : P[t.toNat]? = some m) : pl placed t = decide (m < (s : Int)) := by
  obtain ⟨b, hb⟩ := some_at (xs := placed) (k := t.toNat) (by have := at_lt hm; omega)
  unfold pl
  rw [hb]
  exact h _ b m hb hm

/-! ### The steps -/
section
variable {fAt fTxn fMate lAt lTxn lMate order P FQ : List Int} {n : Nat}

theorem inc_lt {xs : List Int} (h : ∀ (p : Nat) x y, xs[p]? = some x → xs[p + 1]? = some y → x < y) : ∀ (d p : Nat) x y, xs[p]? = some x → xs[p + d + 1]? = some y → x < y
  | 0, p, x, y, hx, hy => h p x y hx hy
  | d + 1, p, x, y, hx, hy => by
    obtain ⟨z, hz⟩ := some_at (xs := xs) (k := p + d + 1) (by have := at_lt hy; omega)
    have h1 := inc_lt h d p x z hx hz
    have h2 := h (p + d + 1) z y hz (by rw [show p + d + 1 + 1 = p + (d + 1) + 1 by omega]; exact hy)
    omega

theorem inc_le {xs : List Int} (h : ∀ (p : Nat) x y, xs[p]? = some x → xs[p + 1]? = some y → x < y) {p q : Nat} {x y : Int} (hpq : p ≤ q) (hx : xs[p]? = some x) (hy : xs[q]? = some y) : x ≤ y := by
  by_cases e : p = q
  · subst e; rw [hx] at hy; cases hy; exact Int.le_refl _
  · have := inc_lt h (q - p - 1) p x y hx (by rw [show p + (q - p - 1) + 1 = q by omega]; exact hy)
    omega

/-- An entry that stands before 'at(k)' has a lower number. -/
theorem before_lt (hW : Well fAt fTxn fMate lAt lTxn lMate n) {p k : Nat} {x : Int} (hx : fAt[p]? = some x) (h : x < atv fAt k) : p < k := by
  rcases Nat.lt_or_ge p k with h' | h'
  · exact h'
  · obtain ⟨y, hy⟩ := some_at (xs := fAt) (k := k) (by have := at_lt hx; omega)
    have := inc_le hW.incF h' hy hx
    rw [atv_lo hy] at h
    omega

/-- What stands at a loop's head ahead of step s. -/
structure Front (fAt fTxn : List Int) (FQ : List Int) (placed : List Bool) (first second cleared s : Nat) : Prop where
  f : first ≤ fAt.length
  s1 : second ≤ fAt.length + 1
  p1 : ∀ (j : Nat) t, j < first → fTxn[j]? = some t → pl placed t = true
  p2 : ∀ (j : Nat) t, first < j → j < second → fTxn[j]? = some t → pl placed t = true
  c : ∀ (q : Nat) k, q < cleared → FQ[q]? = some k → k < s

/-- Everything that has been told of the input. -/
structure Told (fAt fTxn fMate lAt lTxn lMate order P FQ : List Int) (n : Nat) : Prop where
  well : Well fAt fTxn fMate lAt lTxn lMate n
  pos : OPos order P order.length
  lp : P.length = n
  lq : FQ.length = lAt.length
  fq : Frees fAt fTxn lAt lTxn P FQ lAt.length
  top : ∀ (q : Nat) x, lAt[q]? = some x → x ≤ top

/-- Behind 'advance': those below f, and those between f and s, are placed. -/
structure Behind (fTxn : List Int) (placed : List Bool) (f s : Nat) : Prop where
  p1 : ∀ (j : Nat) t, j < f → fTxn[j]? = some t → pl placed t = true
  p2 : ∀ (j : Nat) t, f < j → j < s → fTxn[j]? = some t → pl placed t = true

theorem behind_of {placed : List Bool} {first second cleared f s c : Nat} {rel : List Int} (hA : Adv fAt fTxn fMate lAt lTxn placed first (second : Int) cleared f s c rel)
    (p1 : ∀ (j : Nat) t, j < first → fTxn[j]? = some t → pl placed t = true) (p2 : ∀ (j : Nat) t, first < j → j < second → fTxn[j]? = some t → pl placed t = true) : Behind fTxn placed f s := by
  refine ⟨fun j t hj ht => ?_, fun j t h1 h2 ht => ?_⟩
  · rcases Nat.lt_or_ge j first with h | h
    · exact p1 j t h ht
    · exact hA.f3 j t h hj ht
  · by_cases h : max (second : Int).toNat (f + 1) ≤ j
    · exact hA.s3 j t h h2 ht
    · have := hA.f1
      exact p2 j t (by omega) (by simp at h; omega) ht

/-- The step at which slot q is freed, against the step s: all those before it are placed. -/
theorem freed_le (T : Told fAt fTxn fMate lAt lTxn lMate order P FQ n) {placed : List Bool} {s : Nat} (hp : Placed P placed s) (hl : placed.length = n) {q : Nat} {la t k : Int} (hla : lAt[q]? = some la) (ht : lTxn[q]? = some t) (hk : FQ[q]? = some k)
    (h : ∀ (p : Nat) x y, fAt[p]? = some x → fTxn[p]? = some y → x < la → y ≠ t → pl placed y = true) : k ≤ s := by
  have hq := at_lt hla
  refine (T.fq q la t k hq hla ht hk).lub s (by omega) fun p x y m _ hx hy hm h1 h2 => ?_
  have hr := T.well.rngF p y hy
  have := h p x y hx hy h1 h2
  rw [hp.at (by rw [hl, T.lp]) hr.1 hm] at this
  simp at this
  omega

theorem freed_ge (T : Told fAt fTxn fMate lAt lTxn lMate order P FQ n) {placed : List Bool} {s : Nat} (hp : Placed P placed s) (hl : placed.length = n) {q : Nat} {la t k : Int} (hla : lAt[q]? = some la) (ht : lTxn[q]? = some t) (hk : FQ[q]? = some k) (hks : k ≤ s)
    {p : Nat} {x y : Int} (hx : fAt[p]? = some x) (hy : fTxn[p]? = some y) (h1 : x < la) (h2 : y ≠ t) : pl placed y = true := by
  have hr := T.well.rngF p y hy
  obtain ⟨m, hm⟩ := some_at (xs := P) (k := y.toNat) (by rw [T.lp]; omega)
  have := (T.fq q la t k (at_lt hla) hla ht hk).ub p x y m (at_lt hx) hx hy hm h1 h2
  rw [hp.at (by rw [hl, T.lp]) hr.1 hm]
  simp; omega

/-- Whatever is released is in order: it stands in lasts, is not placed, and its slot is freed. -/
theorem rel_good (T : Told fAt fTxn fMate lAt lTxn lMate order P FQ n) {placed : List Bool} {first second cleared f s c st : Nat} {rel : List Int} (hp : Placed P placed st) (hl : placed.length = n)
    (hA : Adv fAt fTxn fMate lAt lTxn placed first (second : Int) cleared f s c rel) (hB : Behind fTxn placed f s) {t : Int} (ht : t ∈ rel) :
    pl placed t = false ∧ ∃ (q : Nat) (k : Int), lTxn[q]? = some t ∧ FQ[q]? = some k ∧ k ≤ st := by
  obtain ⟨ex, rfl, hex⟩ := hA.r
  rcases List.mem_append.1 ht with h | h
  · simp only [rels, List.mem_filter] at h
    obtain ⟨h1, h2⟩ := h
    obtain ⟨i, hi⟩ := List.mem_iff_getElem?.1 h1
    rw [List.getElem?_drop, List.getElem?_take] at hi
    split at hi
    · rename_i hc
      obtain ⟨la, hla⟩ := some_at (xs := lAt) (k := cleared + i) (by rw [← T.well.ll1]; exact at_lt hi)
      obtain ⟨k, hk⟩ := some_at (xs := FQ) (k := cleared + i) (by rw [T.lq]; exact at_lt hla)
      refine ⟨by simpa using h2, cleared + i, k, hi, hk, freed_le T hp hl hla hi hk fun p x y hx hy h3 _ => ?_⟩
      have h4 := hA.c3 (cleared + i) la (by omega) hc hla
      exact hB.p1 p y (before_lt T.well hx (by omega)) hy
    · simp at hi
  · rcases hex with ⟨_, h1⟩ | ⟨m, hm, ⟨h1, _⟩ | ⟨q, la, t', rfl, hcq, hla, hle, htq, h1⟩⟩
    · simp [h1] at h
    · simp [h1] at h
    · simp [h1] at h
      subst h
      obtain ⟨y, hy⟩ := some_at (xs := fTxn) (k := f) (by have := at_lt hm; have := T.well.lf1; have := T.well.lf2; omega)
      have hyt : y = t := by
        rcases T.well.mate f y q hy hm with ⟨h, _⟩ | ⟨q', h, h'⟩
        · omega
        · have : q = q' := by omega
          subst this
          rw [htq] at h'
          exact (Option.some.inj h').symm
      subst hyt
      obtain ⟨k, hk⟩ := some_at (xs := FQ) (k := q) (by rw [T.lq]; exact at_lt hla)
      refine ⟨hA.f4 y hy, q, k, htq, hk, freed_le T hp hl hla htq hk fun p x z hx hz h3 h4 => ?_⟩
      have hps : p < s := before_lt T.well hx (by omega)
      rcases Nat.lt_trichotomy p f with h5 | h5 | h5
      · exact hB.p1 p z h5 hz
      · subst h5; rw [hy] at hz; cases hz; exact absurd rfl h4
      · exact hB.p2 p z h5 hps hz

/-- Whatever is freed at this very step and not placed is released. -/
theorem rel_all (T : Told fAt fTxn fMate lAt lTxn lMate order P FQ n) {placed : List Bool} {first second cleared f s c st : Nat} {rel : List Int} (hp : Placed P placed st) (hl : placed.length = n)
    (hA : Adv fAt fTxn fMate lAt lTxn placed first (second : Int) cleared f s c rel) {q : Nat} {t k : Int} (ht : lTxn[q]? = some t) (hk : FQ[q]? = some k) (hks : k ≤ st) (hcl : cleared ≤ q) (hun : pl placed t = false) : t ∈ rel := by
  obtain ⟨ex, rfl, hex⟩ := hA.r
  obtain ⟨la, hla⟩ := some_at (xs := lAt) (k := q) (by rw [← T.well.ll1]; exact at_lt ht)
  by_cases hv : la ≤ atv fAt f
  · refine List.mem_append.2 (.inl ?_)
    have hqc : q < c := by
      rcases Nat.lt_or_ge q c with h | h
      · exact h
      · obtain ⟨x, hx⟩ := some_at (xs := lAt) (k := c) (by have := at_lt hla; omega)
        have h1 := hA.c4 x hx
        have h2 := inc_le T.well.incL h hx hla
        omega
    simp only [rels, List.mem_filter]
    refine ⟨List.mem_iff_getElem?.2 ⟨q - cleared, ?_⟩, by simp [hun]⟩
    rw [List.getElem?_drop, List.getElem?_take, if_pos (by omega), show cleared + (q - cleared) = q by omega]
    exact ht
  · refine List.mem_append.2 (.inr ?_)
    have hfl : f < fAt.length := by
      rcases Nat.lt_or_ge f fAt.length with h | h
      · exact h
      · rw [atv_hi h] at hv
        exact absurd (T.top q la hla) hv
    obtain ⟨x, hx⟩ := some_at hfl
    rw [atv_lo hx] at hv
    obtain ⟨y, hy⟩ := some_at (xs := fTxn) (k := f) (by rw [T.well.lf1]; exact hfl)
    have hyt : y = t := by
      rcases Classical.em (y = t) with h | h
      · exact h
      · have h1 := freed_ge T hp hl hla ht hk hks hx hy (by omega) h
        rw [hA.f4 y hy] at h1
        cases h1
    subst hyt
    have hcq : c ≤ q := by
      rcases Nat.lt_or_ge q c with h | h
      · have := hA.c3 q la hcl h hla
        rw [atv_lo hx] at this
        omega
      · exact h
    have hs : la ≤ atv fAt s := by
      rcases Nat.lt_or_ge s fAt.length with h | h
      · obtain ⟨x', hx'⟩ := some_at h
        obtain ⟨y', hy'⟩ := some_at (xs := fTxn) (k := s) (by rw [T.well.lf1]; exact h)
        rw [atv_lo hx']
        rcases Classical.em (x' < la) with h1 | h1
        · have hne : y' ≠ y := by
            rintro rfl
            have := T.well.injF f s y' hy hy'
            have := hA.s1
            omega
          have h2 := freed_ge T hp hl hla ht hk hks hx' hy' h1 hne
          rw [hA.s4 y' hy'] at h2
          cases h2
        · omega
      · rw [atv_hi h]
        exact T.top q la hla
    rcases hex with ⟨h, _⟩ | ⟨m, hm, ⟨_, h1⟩ | ⟨q', la', t', rfl, _, _, _, h4, h5⟩⟩
    · omega
    · exfalso
      have hmq : m = q := by
        rcases T.well.mate f y m hy hm with ⟨_, h'⟩ | ⟨q', h', h''⟩
        · exact absurd (List.mem_of_getElem? ht) h'
        · rw [h', T.well.injL q' q y h'' ht]
      rcases h1 with h1 | ⟨q', x', h1, h2, h3⟩
      · omega
      · have : q' = q := by omega
        subst this
        rw [hla] at h2
        cases h2
        omega
    · rw [h5]
      rcases T.well.mate f y q' hy hm with ⟨h', _⟩ | ⟨q'', h', h''⟩
      · omega
      · have : q' = q'' := by omega
        subst this
        rw [h4] at h''
        simp [Option.some.inj h'']

theorem pl_mono {placed : List Bool} {s t : Nat} (hp : Placed P placed s) {x : Int} (h : pl placed x = true) (hl : placed.length = P.length) : pl (placed.set t true) x = true := by
  unfold pl at h ⊢
  rw [List.getElem?_set]
  split
  · split
    · rfl
    · rename_i h1 h2
      rw [h1] at h2
      rw [List.getElem?_eq_none (by omega)] at h
      simp at h
  · exact h

/-- The front at the next head. -/
theorem front_next (T : Told fAt fTxn fMate lAt lTxn lMate order P FQ n) {placed : List Bool} {first second cleared f s c st : Nat} {rel : List Int} (hp : Placed P placed st) (hl : placed.length = n)
    (hF : Front fAt fTxn FQ placed first second cleared st) (hA : Adv fAt fTxn fMate lAt lTxn placed first (second : Int) cleared f s c rel) : Front fAt fTxn FQ placed f s c (st + 1) := by
  have hB := behind_of hA hF.p1 hF.p2
  refine ⟨hA.f2, ?_, hB.p1, hB.p2, fun q k hq hk => ?_⟩
  · have := hF.s1; have := hA.f2
    rcases hA.s2 with h | h
    · simp at h; omega
    · omega
  · rcases Nat.lt_or_ge q cleared with h | h
    · have := hF.c q k h hk; omega
    · obtain ⟨la, hla⟩ := some_at (xs := lAt) (k := q) (by rw [← T.lq]; exact at_lt hk)
      obtain ⟨t, ht⟩ := some_at (xs := lTxn) (k := q) (by rw [T.well.ll1]; exact at_lt hla)
      have h4 := hA.c3 q la h hq hla
      have := freed_le T hp hl hla ht hk fun p x y hx hy h3 _ => hB.p1 p y (before_lt T.well hx (by omega)) hy
      omega

/-- The front when one more is placed. -/
theorem front_placed {placed : List Bool} {first second cleared s st t : Nat} (hp : Placed P placed s) (hl : placed.length = P.length) (hF : Front fAt fTxn FQ placed first second cleared st) : Front fAt fTxn FQ (placed.set t true) first second cleared st :=
  ⟨hF.f, hF.s1, fun j x h1 h2 => pl_mono hp (hF.p1 j x h1 h2) hl, fun j x h1 h2 h3 => pl_mono hp (hF.p2 j x h1 h2 h3) hl, hF.c⟩

/-- Who has ever been released ahead of step s. -/
def Ever (lTxn P FQ : List Int) (ever : List Bool) (s : Nat) : Prop := ∀ (q t : Nat) k m b, lTxn[q]? = some (t : Int) → FQ[q]? = some k → P[t]? = some m → ever[t]? = some b → (b = true ↔ k < s ∧ k ≤ m)

/-- The marks of xs over ev0. -/
def Marks (ev0 : List Bool) (xs : List Int) (ev : List Bool) : Prop := ∀ (t : Nat) b b0, ev[t]? = some b → ev0[t]? = some b0 → (b = true ↔ b0 = true ∨ (t : Int) ∈ xs)
theorem Marks.nil (ev : List Bool) : Marks ev [] ev := fun t b b0 h1 h2 => by rw [h1] at h2; cases h2; simp
theorem Marks.snoc {ev0 ev : List Bool} {xs : List Int} (h : Marks ev0 xs ev) (t : Nat) : Marks ev0 (xs ++ [(t : Int)]) (ev.set t true) := by
  intro u b b0 h1 h2
  rw [List.getElem?_set] at h1
  split at h1
  · rename_i e
    subst e
    split at h1
    · cases h1; simp
    · simp at h1
  · rename_i e
    rw [h u b b0 h1 h2]
    have hne : ¬ (u : Int) = (t : Int) := by omega
    simp [hne]

theorem ever_next (T : Told fAt fTxn fMate lAt lTxn lMate order P FQ n) {placed ever ever' : List Bool} {first second cleared f s c st : Nat} {rel : List Int} (hp : Placed P placed st) (hl : placed.length = n) (hle : ever.length = ever'.length)
    (hF : Front fAt fTxn FQ placed first second cleared st) (hA : Adv fAt fTxn fMate lAt lTxn placed first (second : Int) cleared f s c rel) (hE : Ever lTxn P FQ ever st) (hM : Marks ever rel ever') : Ever lTxn P FQ ever' (st + 1) := by
  have hB := behind_of hA hF.p1 hF.p2
  intro q t k m b ht hk hm hb
  obtain ⟨b0, hb0⟩ := some_at (xs := ever) (k := t) (by have := at_lt hb; omega)
  rw [hM t b b0 hb hb0, hE q t k m b0 ht hk hm hb0]
  have hpt : pl placed (t : Int) = decide (m < (st : Int)) := hp.at (by rw [hl, T.lp]) (by omega) (by simpa using hm)
  constructor
  · rintro (⟨h1, h2⟩ | h)
    · exact ⟨by omega, h2⟩
    · obtain ⟨h1, q', k', h2, h3, h4⟩ := rel_good T hp hl hA hB h
      have : q' = q := T.well.injL q' q t h2 ht
      subst this
      rw [hk] at h3
      cases h3
      rw [hpt] at h1
      simp at h1
      omega
  · rintro ⟨h1, h2⟩
    rcases Classical.em (k < (st : Int)) with h | h
    · exact .inl ⟨h, h2⟩
    · refine .inr (rel_all T hp hl hA ht hk (by omega) ?_ (by rw [hpt]; simp; omega))
      rcases Nat.lt_or_ge q cleared with h3 | h3
      · have := hF.c q k h3 hk; omega
      · exact h3
end

end Go.Proofs.Qxb6615639a
