import Derived.Test.Qxb6615639aLawPlain
namespace Go.Proofs.Qxb6615639a
set_option linter.unusedVariables false
set_option linter.unusedSimpArgs false

/-! ### Counting -/
/-- How many of the first k does f name? -/
def cnt (f : Nat → Bool) : Nat → Nat
  | 0 => 0
  | k + 1 => cnt f k + if f k then 1 else 0

theorem cnt_le (f : Nat → Bool) : ∀ k, cnt f k ≤ k
  | 0 => Nat.le_refl _
  | k + 1 => by
    have := cnt_le f k
    unfold cnt
    split <;> omega

theorem cnt_pos (f : Nat → Bool) : ∀ (k p : Nat), p < k → f p = true → 1 ≤ cnt f k
  | 0, p, h, _ => by omega
  | k + 1, p, h, hp => by
    unfold cnt
    by_cases e : p = k
    · subst e; simp [hp]
    · have := cnt_pos f k p (by omega) hp
      omega

theorem cnt_two (f : Nat → Bool) : ∀ (k p q : Nat), p < q → q < k → f p = true → f q = true → 2 ≤ cnt f k
  | 0, p, q, _, h, _, _ => by omega
  | k + 1, p, q, hpq, h, hp, hq => by
    unfold cnt
    by_cases e : q = k
    · subst e
      have := cnt_pos f q p hpq hp
      simp [hq]
      omega
    · have := cnt_two f k p q hpq (by omega) hp hq
      omega

theorem cnt_one (f : Nat → Bool) {k p q : Nat} (h : cnt f k ≤ 1) (hp : p < k) (hq : q < k) (h1 : f p = true) (h2 : f q = true) : p = q := by
  rcases Nat.lt_trichotomy p q with h3 | h3 | h3
  · have := cnt_two f k p q h3 hq h1 h2; omega
  · exact h3
  · have := cnt_two f k q p h3 hp h2 h1; omega

/-- Is slot p not placed? -/
def unp (fTxn : List Int) (placed : List Bool) (p : Nat) : Bool :=
  match fTxn[p]? with
  | some t => !pl placed t
  | none => false

theorem unp_at {fTxn : List Int} {placed : List Bool} {p : Nat} {t : Int} (h : fTxn[p]? = some t) : unp fTxn placed p = !pl placed t := by simp [unp, h]

/-- What 'zzFrontWell' makes sure of. -/
structure FW (fTxn : List Int) (placed : List Bool) (first second cleared : Int) : Prop where
  f0 : 0 ≤ first
  f1 : first ≤ fTxn.length
  c0 : 0 ≤ cleared
  s1 : second ≤ fTxn.length + 1
  p1 : ∀ (p : Nat) t, (p : Int) < first → fTxn[p]? = some t → pl placed t = true
  two : ∀ (p q : Nat) t t', (p : Int) < second → (q : Int) < second → fTxn[p]? = some t → fTxn[q]? = some t' → pl placed t = false → pl placed t' = false → p = q
  s2 : second ≤ fTxn.length ∨ ∀ (p : Nat) t, fTxn[p]? = some t → pl placed t = true

/-- The first two that are not placed, from j on. -/
structure Two (fTxn : List Int) (placed : List Bool) (j u1 u2 : Nat) : Prop where
  a : j ≤ u1
  b : u1 ≤ fTxn.length
  c : Skips fTxn placed j u1
  d : Stops fTxn placed u1
  e : (u1 = fTxn.length ∧ u2 = fTxn.length) ∨ (u1 < fTxn.length ∧ u1 + 1 ≤ u2 ∧ u2 ≤ fTxn.length ∧ Skips fTxn placed (u1 + 1) u2 ∧ Stops fTxn placed u2)

theorem Two.start (fTxn : List Int) (placed : List Bool) : Two fTxn placed fTxn.length fTxn.length fTxn.length :=
  ⟨Nat.le_refl _, Nat.le_refl _, Skips.nil _ _ _, Stops.past (Nat.le_refl _), .inl ⟨rfl, rfl⟩⟩

theorem Two.down {fTxn : List Int} {placed : List Bool} {j u1 u2 : Nat} (h : Two fTxn placed (j + 1) u1 u2) {t : Int} (ht : fTxn[j]? = some t) (hp : pl placed t = true) : Two fTxn placed j u1 u2 :=
  ⟨by have := h.a; omega, h.b, fun i x h1 h2 h3 => by
    by_cases e : i = j
    · subst e; rw [ht] at h3; cases h3; exact hp
    · exact h.c i x (by omega) h2 h3, h.d, h.e⟩

theorem Two.hit {fTxn : List Int} {placed : List Bool} {j u1 u2 : Nat} (h : Two fTxn placed (j + 1) u1 u2) {t : Int} (ht : fTxn[j]? = some t) (hp : pl placed t = false) : Two fTxn placed j j u1 :=
  ⟨Nat.le_refl _, by have := at_lt ht; omega, Skips.nil _ _ _, Stops.of ht hp, .inr ⟨at_lt ht, h.a, h.b, h.c, h.d⟩⟩

/-- Where one stops is where the other stops. -/
theorem stop_eq {fTxn : List Int} {placed : List Bool} {a b c : Nat} (ha : a ≤ b) (hc : a ≤ c) (hb : b ≤ fTxn.length) (hcl : c ≤ fTxn.length) (h1 : Skips fTxn placed a b) (h2 : Stops fTxn placed b) (h3 : Skips fTxn placed a c) (h4 : Stops fTxn placed c) : b = c := by
  rcases Nat.lt_trichotomy b c with h | h | h
  · obtain ⟨t, ht⟩ := some_at (xs := fTxn) (k := b) (by omega)
    have := h3 b t ha h ht
    rw [h2 t ht] at this
    cases this
  · exact h
  · obtain ⟨t, ht⟩ := some_at (xs := fTxn) (k := c) (by omega)
    have := h1 c t hc h ht
    rw [h4 t ht] at this
    cases this

section
variable {fAt fTxn fMate lAt lTxn lMate : List Int} {n : Nat} {placed : List Bool} {first cleared f s c : Nat} {second : Int} {rel : List Int}

theorem ex_first (hW : Well fAt fTxn fMate lAt lTxn lMate n) (hF : FW fTxn placed first second cleared) (hA : Adv fAt fTxn fMate lAt lTxn placed first second cleared f s c rel) {u1 u2 : Nat} (hT : Two fTxn placed 0 u1 u2) : f = u1 := by
  refine stop_eq (a := 0) (Nat.zero_le _) (Nat.zero_le _) (by rw [hW.lf1]; exact hA.f2) hT.b (fun j t h1 h2 h3 => ?_) hA.f4 hT.c hT.d
  rcases Nat.lt_or_ge j first with h | h
  · exact hF.p1 j t (by omega) h3
  · exact hA.f3 j t h h2 h3

/-- Those between f and s are placed. -/
theorem ex_between (hF : FW fTxn placed first second cleared) (hW : Well fAt fTxn fMate lAt lTxn lMate n) (hA : Adv fAt fTxn fMate lAt lTxn placed first second cleared f s c rel) (hlt : f < fAt.length) : Skips fTxn placed (f + 1) s := by
  intro j t h1 h2 h3
  by_cases h : max second.toNat (f + 1) ≤ j
  · exact hA.s3 j t h h2 h3
  · obtain ⟨t', ht'⟩ := some_at (xs := fTxn) (k := f) (by rw [hW.lf1]; exact hlt)
    rcases Bool.eq_false_or_eq_true (pl placed t) with h4 | h4
    · exact h4
    · have := hF.two j f t t' (by omega) (by omega) h3 ht' h4 (hA.f4 t' ht')
      omega

theorem ex_second (hW : Well fAt fTxn fMate lAt lTxn lMate n) (hF : FW fTxn placed first second cleared) (hA : Adv fAt fTxn fMate lAt lTxn placed first second cleared f s c rel) {u1 u2 : Nat} (hT : Two fTxn placed 0 u1 u2) :
    (u1 = fAt.length ∧ s = fAt.length + 1) ∨ (u1 < fAt.length ∧ s = u2) := by
  have e := ex_first hW hF hA hT
  have hl := hW.lf1
  rcases hT.e with ⟨h1, _⟩ | ⟨h1, h2, h3, h4, h5⟩
  · refine .inl ⟨by omega, ?_⟩
    have a := hA.s1
    have b := hF.s1
    rcases hA.s2 with h | h <;> omega
  · refine .inr ⟨by omega, ?_⟩
    have hs : s ≤ fAt.length := by
      rcases hA.s2 with h | h
      · rcases hF.s2 with h' | h'
        · omega
        · exfalso
          obtain ⟨t, ht⟩ := some_at (xs := fTxn) (k := f) (by omega)
          have := h' f t ht
          rw [hA.f4 t ht] at this
          cases this
      · exact h
    refine stop_eq (a := f + 1) (by have := hA.s1; omega) (by omega) (by omega) h3 (ex_between hF hW hA (by omega)) hA.s4 (by rw [e]; exact h4) h5

/-- Every slot of firsts before 'la', t aside, is placed. -/
def FreedP (fAt fTxn : List Int) (placed : List Bool) (la t : Int) : Prop := ∀ (p : Nat) x y, fAt[p]? = some x → fTxn[p]? = some y → x < la → y ≠ t → pl placed y = true

/-- Those below f are placed. -/
theorem ex_below (hF : FW fTxn placed first second cleared) (hA : Adv fAt fTxn fMate lAt lTxn placed first second cleared f s c rel) : ∀ (j : Nat) t, j < f → fTxn[j]? = some t → pl placed t = true := fun j t h1 h2 => by
  rcases Nat.lt_or_ge j first with h | h
  · exact hF.p1 j t (by omega) h2
  · exact hA.f3 j t h h1 h2

/-- Freed with none aside: just where the slot stands at or before the first that is not placed. -/
theorem freed_iff (hW : Well fAt fTxn fMate lAt lTxn lMate n) (hF : FW fTxn placed first second cleared) (hA : Adv fAt fTxn fMate lAt lTxn placed first second cleared f s c rel) (hl : placed.length = n) (htop : ∀ (q : Nat) x, lAt[q]? = some x → x ≤ top) {q : Nat} {la : Int} (hla : lAt[q]? = some la) :
    FreedP fAt fTxn placed la (-1) ↔ la ≤ atv fAt f := by
  constructor
  · intro h
    rcases Nat.lt_or_ge f fAt.length with h1 | h1
    · obtain ⟨x, hx⟩ := some_at h1
      obtain ⟨y, hy⟩ := some_at (xs := fTxn) (k := f) (by rw [hW.lf1]; exact h1)
      rw [atv_lo hx]
      rcases Int.lt_or_le x la with h2 | h2
      · have := h f x y hx hy h2 (by have := hW.rngF f y hy; omega)
        rw [hA.f4 y hy] at this
        cases this
      · exact h2
    · rw [atv_hi h1]; exact htop q la hla
  · intro h p x y hx hy h1 _
    exact ex_below hF hA p y (before_lt hW hx (by omega)) hy

/-- The count of the freed ones so far: they come first. -/
structure Pre (F : Nat → Prop) (k c : Nat) : Prop where
  le : c ≤ k
  yes : ∀ q, q < c → F q
  no : ∀ q, c ≤ q → q < k → ¬ F q

theorem ex_cleared (hW : Well fAt fTxn fMate lAt lTxn lMate n) (hF : FW fTxn placed first second cleared) (hA : Adv fAt fTxn fMate lAt lTxn placed first second cleared f s c rel) (hl : placed.length = n) (htop : ∀ (q : Nat) x, lAt[q]? = some x → x ≤ top) {C : Nat}
    (hP : Pre (fun q => ∃ la, lAt[q]? = some la ∧ FreedP fAt fTxn placed la (-1)) lAt.length C) : c = max cleared C := by
  have key : ∀ q, q < lAt.length → (q < C ↔ ∃ la, lAt[q]? = some la ∧ la ≤ atv fAt f) := by
    intro q hq
    constructor
    · intro h
      obtain ⟨la, h1, h2⟩ := hP.yes q h
      exact ⟨la, h1, (freed_iff hW hF hA hl htop h1).1 h2⟩
    · rintro ⟨la, h1, h2⟩
      rcases Nat.lt_or_ge q C with h | h
      · exact h
      · exact absurd ⟨la, h1, (freed_iff hW hF hA hl htop h1).2 h2⟩ (hP.no q h hq)
  have hC := hP.le
  have h1 := hA.c1
  have h2 := hA.c2
  rcases Nat.lt_or_ge cleared C with h | h
  · have hge : C ≤ c := by
      rcases Nat.lt_or_ge c C with h3 | h3
      · obtain ⟨la, h4, h5⟩ := (key c (by omega)).1 h3
        have := hA.c4 la h4
        omega
      · exact h3
    have hle : c ≤ C := by
      rcases Nat.lt_or_ge C c with h3 | h3
      · obtain ⟨la, hla⟩ := some_at (xs := lAt) (k := C) (by omega)
        have := (key C (by omega)).2 ⟨la, hla, hA.c3 C la (by omega) h3 hla⟩
        omega
      · exact h3
    omega
  · rcases Nat.lt_or_ge cleared c with h3 | h3
    · obtain ⟨la, hla⟩ := some_at (xs := lAt) (k := cleared) (by omega)
      have := (key cleared (by omega)).2 ⟨la, hla, hA.c3 cleared la (Nat.le_refl _) h3 hla⟩
      omega
    · omega

/-! ### What is released -/
/-- Slot q is to be released. -/
def Due (fAt fTxn lAt lTxn : List Int) (placed : List Bool) (cleared q : Nat) : Prop := cleared ≤ q ∧ ∃ la t, lAt[q]? = some la ∧ lTxn[q]? = some t ∧ pl placed t = false ∧ FreedP fAt fTxn placed la t

/-- Those of the first k that e names. -/
def picks (lTxn : List Int) (e : Nat → Bool) : Nat → List Int
  | 0 => []
  | k + 1 => picks lTxn e k ++ if e k then (lTxn[k]?).toList else []

theorem picks_succ (lTxn : List Int) (e : Nat → Bool) (k : Nat) : picks lTxn e (k + 1) = picks lTxn e k ++ if e k then (lTxn[k]?).toList else [] := rfl

theorem picks_prefix (lTxn : List Int) (e : Nat → Bool) (k : Nat) : ∀ d, ∃ r, picks lTxn e (k + d) = picks lTxn e k ++ r
  | 0 => ⟨[], by simp⟩
  | d + 1 => by
    obtain ⟨r, hr⟩ := picks_prefix lTxn e k d
    refine ⟨r ++ if e (k + d) then (lTxn[k + d]?).toList else [], ?_⟩
    rw [show k + (d + 1) = (k + d) + 1 from rfl, picks_succ, hr, List.append_assoc]

theorem picks_at {lTxn : List Int} {e : Nat → Bool} {k N : Nat} {t : Int} (hk : k < N) (he : e k = true) (ht : lTxn[k]? = some t) : (picks lTxn e N)[(picks lTxn e k).length]? = some t := by
  obtain ⟨r, hr⟩ := picks_prefix lTxn e (k + 1) (N - (k + 1))
  rw [show k + 1 + (N - (k + 1)) = N by omega] at hr
  rw [hr]
  simp [picks, he, ht]

theorem picks_none {lTxn : List Int} {e : Nat → Bool} {k : Nat} : ∀ d, (∀ q, k ≤ q → q < k + d → e q = false) → picks lTxn e (k + d) = picks lTxn e k
  | 0, _ => rfl
  | d + 1, h => by
    rw [show k + (d + 1) = (k + d) + 1 from rfl, picks_succ, picks_none d fun q h1 h2 => h q h1 (by omega), h (k + d) (by omega) (by omega)]
    simp

theorem picks_len (lTxn : List Int) (e : Nat → Bool) : ∀ k, (picks lTxn e k).length ≤ k
  | 0 => Nat.le_refl _
  | k + 1 => by
    have := picks_len lTxn e k
    unfold picks
    split
    · cases h : lTxn[k]? <;> simp <;> omega
    · simp; omega

theorem picks_rels {e : Nat → Bool} (hW : Well fAt fTxn fMate lAt lTxn lMate n) (hF : FW fTxn placed first second cleared) (hA : Adv fAt fTxn fMate lAt lTxn placed first second cleared f s c rel)
    (he : ∀ q, q < lAt.length → (e q = true ↔ Due fAt fTxn lAt lTxn placed cleared q)) : ∀ k, k ≤ lAt.length → cleared ≤ k → k ≤ c → picks lTxn e k = rels lTxn placed cleared k := by
  intro k
  induction k with
  | zero => intro _ h _; have : cleared = 0 := by omega
            subst this; rw [rels_nil]; rfl
  | succ k ih =>
    intro h1 h2 h3
    by_cases hk : cleared ≤ k
    · obtain ⟨la, hla⟩ := some_at (xs := lAt) (k := k) (by omega)
      obtain ⟨t, ht⟩ := some_at (xs := lTxn) (k := k) (by rw [hW.ll1]; omega)
      rw [rels_next hk ht, ← ih (by omega) hk (by omega)]
      show picks lTxn e k ++ _ = _
      congr 1
      have hv := hA.c3 k la hk (by omega) hla
      have hfree : FreedP fAt fTxn placed la t := fun p x y hx hy h4 _ => ex_below hF hA p y (before_lt hW hx (by omega)) hy
      cases hp : pl placed t with
      | true =>
        have : e k = false := by
          rcases Bool.eq_false_or_eq_true (e k) with h | h
          · obtain ⟨_, la', t', _, h5, h6, _⟩ := (he k (by omega)).1 h
            rw [ht] at h5; cases h5; rw [hp] at h6; cases h6
          · exact h
        simp [this]
      | false =>
        have : e k = true := (he k (by omega)).2 ⟨hk, la, t, hla, ht, hp, hfree⟩
        simp [this, ht]
    · have hkc : cleared = k + 1 := by omega
      rw [← hkc, rels_nil]
      have := picks_none (lTxn := lTxn) (e := e) (k := 0) cleared fun q _ h5 => by
        rcases Bool.eq_false_or_eq_true (e q) with h | h
        · have := ((he q (by omega)).1 h).1; omega
        · exact h
      rw [Nat.zero_add] at this
      rw [this]; rfl

theorem ex_rel {e : Nat → Bool} (hW : Well fAt fTxn fMate lAt lTxn lMate n) (hF : FW fTxn placed first second cleared) (hA : Adv fAt fTxn fMate lAt lTxn placed first second cleared f s c rel) (htop : ∀ (q : Nat) x, lAt[q]? = some x → x ≤ top)
    (he : ∀ q, q < lAt.length → (e q = true ↔ Due fAt fTxn lAt lTxn placed cleared q)) : rel = picks lTxn e lAt.length := by
  obtain ⟨ex, hr, hex⟩ := hA.r
  subst hr
  rcases Nat.lt_or_ge lAt.length cleared with hbig | hsmall
  · -- the front has cleared more than there is
    have hc : c = cleared := by have := hA.c1; rcases hA.c2 with h | h <;> omega
    subst hc
    rw [rels_nil]
    have h1 := picks_none (lTxn := lTxn) (e := e) (k := 0) lAt.length fun q _ h5 => by
      rcases Bool.eq_false_or_eq_true (e q) with h | h
      · have := ((he q (by omega)).1 h).1; omega
      · exact h
    rw [Nat.zero_add] at h1
    rw [h1]
    rcases hex with ⟨_, h⟩ | ⟨m, _, ⟨h, _⟩ | ⟨q, x, t, _, h2, h3, _⟩⟩
    · simp [h, picks]
    · simp [h, picks]
    · have := at_lt h3; omega
  · have hcl : c ≤ lAt.length := by rcases hA.c2 with h | h <;> omega
    have h1 := picks_rels hW hF hA he c hcl hA.c1 (Nat.le_refl _)
    rw [← h1]
    -- what is due behind c is the mate of the first alone
    have due : ∀ q, c ≤ q → q < lAt.length → e q = true → ∃ y, fTxn[f]? = some y ∧ lTxn[q]? = some y ∧ f < fAt.length ∧ ∃ la, lAt[q]? = some la ∧ la ≤ atv fAt s := by
      intro q h2 h3 h4
      obtain ⟨_, la, t, hla, ht, hp, hfr⟩ := (he q h3).1 h4
      obtain ⟨lc, hlc⟩ := some_at (xs := lAt) (k := c) (by omega)
      have h5 := hA.c4 lc hlc
      have h6 := inc_le hW.incL h2 hlc hla
      have hfl : f < fAt.length := by
        rcases Nat.lt_or_ge f fAt.length with h | h
        · exact h
        · rw [atv_hi h] at h5; have := htop c lc hlc; omega
      obtain ⟨x, hx⟩ := some_at hfl
      obtain ⟨y, hy⟩ := some_at (xs := fTxn) (k := f) (by rw [hW.lf1]; exact hfl)
      rw [atv_lo hx] at h5
      have hyt : y = t := by
        rcases Classical.em (y = t) with h | h
        · exact h
        · have := hfr f x y hx hy (by omega) h
          rw [hA.f4 y hy] at this
          cases this
      subst hyt
      refine ⟨y, hy, ht, hfl, la, hla, ?_⟩
      rcases Nat.lt_or_ge s fAt.length with h | h
      · obtain ⟨x', hx'⟩ := some_at h
        obtain ⟨y', hy'⟩ := some_at (xs := fTxn) (k := s) (by rw [hW.lf1]; exact h)
        rw [atv_lo hx']
        rcases Int.lt_or_le x' la with h7 | h7
        · have hne : y' ≠ y := by
            rintro rfl
            have := hW.injF f s y' hy hy'
            have := hA.s1
            omega
          have := hfr s x' y' hx' hy' h7 hne
          rw [hA.s4 y' hy'] at this
          cases this
        · exact h7
      · rw [atv_hi h]; exact htop q la hla
    have none_case : (∀ q, c ≤ q → q < lAt.length → e q = false) → picks lTxn e c ++ [] = picks lTxn e lAt.length := fun h => by
      rw [List.append_nil]
      have := picks_none (lTxn := lTxn) (e := e) (k := c) (lAt.length - c) fun q h2 h3 => h q h2 (by omega)
      rw [show c + (lAt.length - c) = lAt.length by omega] at this
      exact this.symm
    rcases hex with ⟨h2, h3⟩ | ⟨m, hm, ⟨h3, h4⟩ | ⟨q, la, t, rfl, hcq, hla, hle, htq, h3⟩⟩
    · subst h3
      refine none_case fun q h4 h5 => ?_
      rcases Bool.eq_false_or_eq_true (e q) with h | h
      · obtain ⟨y, _, _, h6, _⟩ := due q h4 h5 h; omega
      · exact h
    · subst h3
      refine none_case fun q h5 h6 => ?_
      rcases Bool.eq_false_or_eq_true (e q) with h | h
      · exfalso
        obtain ⟨y, hy, hty, h7, la, hla, h8⟩ := due q h5 h6 h
        have hmq : m = q := by
          rcases hW.mate f y m hy hm with ⟨_, h'⟩ | ⟨q', h', h''⟩
          · exact absurd (List.mem_of_getElem? hty) h'
          · rw [h', hW.injL q' q y h'' hty]
        rcases h4 with h4 | ⟨q', x', h4, h9, h10⟩
        · omega
        · have : q' = q := by omega
          subst this
          rw [hla] at h9; cases h9; omega
      · exact h
    · -- the mate is due
      have hql := at_lt hla
      obtain ⟨y, hy⟩ := some_at (xs := fTxn) (k := f) (by have := at_lt hm; have := hW.lf1; have := hW.lf2; omega)
      have hyt : y = t := by
        rcases hW.mate f y q hy hm with ⟨h, _⟩ | ⟨q', h, h'⟩
        · omega
        · have : q = q' := by omega
          subst this
          rw [htq] at h'
          exact (Option.some.inj h').symm
      subst hyt
      have hfl : f < fAt.length := by have := at_lt hy; have := hW.lf1; omega
      have heq : e q = true := by
        refine (he q hql).2 ⟨by have := hA.c1; omega, la, y, hla, htq, hA.f4 y hy, fun p x z hx hz h4 h5 => ?_⟩
        have hps : p < s := before_lt hW hx (by omega)
        rcases Nat.lt_trichotomy p f with h6 | h6 | h6
        · exact ex_below hF hA p z h6 hz
        · subst h6; rw [hy] at hz; cases hz; exact absurd rfl h5
        · exact ex_between hF hW hA hfl p z (by omega) hps hz
      have only : ∀ q', c ≤ q' → q' < lAt.length → q' ≠ q → e q' = false := by
        intro q' h4 h5 h6
        rcases Bool.eq_false_or_eq_true (e q') with h | h
        · obtain ⟨y', hy', hty', _⟩ := due q' h4 h5 h
          rw [hy] at hy'; cases hy'
          exact absurd (hW.injL q' q y hty' htq) h6
        · exact h
      have p1 := picks_none (lTxn := lTxn) (e := e) (k := c) (q - c) fun q' h4 h5 => only q' h4 (by omega) (by omega)
      rw [show c + (q - c) = q by omega] at p1
      have p2 : picks lTxn e (q + 1) = picks lTxn e q ++ [y] := by
        show picks lTxn e q ++ _ = _
        simp [heq, htq]
      have p3 := picks_none (lTxn := lTxn) (e := e) (k := q + 1) (lAt.length - (q + 1)) fun q' h4 h5 => only q' (by omega) (by omega) (by omega)
      rw [show q + 1 + (lAt.length - (q + 1)) = lAt.length by omega] at p3
      rw [p3, p2, p1, h3]
end

end Go.Proofs.Qxb6615639a
