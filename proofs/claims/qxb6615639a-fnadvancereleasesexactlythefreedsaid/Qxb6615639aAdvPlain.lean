import Derived.Test.Qxb6615639aPlain
import Derived.Test.Qxb6615639aKept
namespace Go.Proofs.Qxb6615639a
set_option linter.unusedVariables false
set_option linter.unusedSimpArgs false
open Go.RowKit

def top : Int := 9223372036854775807
/-- What the closure 'at' answers. -/
def atv (fAt : List Int) (k : Nat) : Int := (fAt[k]?).getD top
theorem atv_lo {fAt : List Int} {k : Nat} {x : Int} (h : fAt[k]? = some x) : atv fAt k = x := by simp [atv, h]
theorem atv_hi {fAt : List Int} {k : Nat} (h : fAt.length ≤ k) : atv fAt k = top := by simp [atv, h]

/-- Is transaction t placed? -/
def pl (placed : List Bool) (t : Int) : Bool := (placed[t.toNat]?).getD false
theorem pl_at {placed : List Bool} {t : Nat} {b : Bool} (h : placed[t]? = some b) : pl placed (t : Int) = b := by simp [pl, h]

/-- The slots of a span in memory: three cells each. -/
def SlotsAt (cs : List Value) (a t m : List Int) (n : Nat) : Prop :=
  ∀ (k : Nat) x y z, k < n → a[k]? = some x → t[k]? = some y → m[k]? = some z → cs[k * 3]? = some (.int .i64 x) ∧ cs[k * 3 + 1]? = some (.int .i64 y) ∧ cs[k * 3 + 2]? = some (.int .i64 z)

/-- From a to b all are placed. -/
def Skips (fTxn : List Int) (placed : List Bool) (a b : Nat) : Prop := ∀ (j : Nat) t, a ≤ j → j < b → fTxn[j]? = some t → pl placed t = true
/-- At b there is none, or one that is not placed. -/
def Stops (fTxn : List Int) (placed : List Bool) (b : Nat) : Prop := ∀ t, fTxn[b]? = some t → pl placed t = false
theorem Skips.nil (fTxn : List Int) (placed : List Bool) (a : Nat) : Skips fTxn placed a a := fun j t h1 h2 => by omega
theorem Skips.next {fTxn : List Int} {placed : List Bool} {a b : Nat} (h : Skips fTxn placed a b) {t : Int} (ht : fTxn[b]? = some t) (hp : pl placed t = true) : Skips fTxn placed a (b + 1) := by
  intro j t' h1 h2 h3
  by_cases e : j = b
  · subst e; rw [ht] at h3; cases h3; exact hp
  · exact h j t' h1 (by omega) h3
theorem Stops.past {fTxn : List Int} {placed : List Bool} {b : Nat} (h : fTxn.length ≤ b) : Stops fTxn placed b := fun t ht => by have := at_lt ht; omega
theorem Stops.of {fTxn : List Int} {placed : List Bool} {b : Nat} {t : Int} (ht : fTxn[b]? = some t) (hp : pl placed t = false) : Stops fTxn placed b := fun t' ht' => by rw [ht] at ht'; cases ht'; exact hp

/-- What is released in turn, from a to b. -/
def rels (lTxn : List Int) (placed : List Bool) (a b : Nat) : List Int := ((lTxn.take b).drop a).filter fun t => !pl placed t
theorem rels_nil (lTxn : List Int) (placed : List Bool) (a : Nat) : rels lTxn placed a a = [] := by
  simp [rels, List.drop_eq_nil_of_le (show (lTxn.take a).length ≤ a by simp; omega)]
theorem rels_next {lTxn : List Int} {placed : List Bool} {a b : Nat} {t : Int} (hab : a ≤ b) (ht : lTxn[b]? = some t) : rels lTxn placed a (b + 1) = rels lTxn placed a b ++ if pl placed t then [] else [t] := by
  have hl := at_lt ht
  unfold rels
  rw [take_snoc ht, List.drop_append_of_le_length (by simp; omega), List.filter_append]
  congr 1
  cases h : pl placed t <;> simp [List.filter_cons, h]

def Clears (lAt : List Int) (v : Int) (a b : Nat) : Prop := ∀ (q : Nat) x, a ≤ q → q < b → lAt[q]? = some x → x ≤ v
theorem Clears.nil (lAt : List Int) (v : Int) (a : Nat) : Clears lAt v a a := fun j t h1 h2 => by omega
theorem Clears.next {lAt : List Int} {v : Int} {a b : Nat} (h : Clears lAt v a b) {x : Int} (hx : lAt[b]? = some x) (hv : x ≤ v) : Clears lAt v a (b + 1) := by
  intro j t' h1 h2 h3
  by_cases e : j = b
  · subst e; rw [hx] at h3; cases h3; exact hv
  · exact h j t' h1 (by omega) h3

/-- What is released out of turn. -/
def Extra (fAt fMate lAt lTxn : List Int) (f s c : Nat) (ex : List Int) : Prop :=
  (fAt.length ≤ f ∧ ex = []) ∨ ∃ m, fMate[f]? = some m ∧ ((ex = [] ∧ (m < c ∨ ∃ (q : Nat) (x : Int), m = q ∧ lAt[q]? = some x ∧ atv fAt s < x)) ∨
    ∃ (q : Nat) (x t : Int), m = q ∧ c ≤ q ∧ lAt[q]? = some x ∧ x ≤ atv fAt s ∧ lTxn[q]? = some t ∧ ex = [t])

/-- What 'advance' does. -/
structure Adv (fAt fTxn fMate lAt lTxn : List Int) (placed : List Bool) (first : Nat) (second : Int) (cleared : Nat) (f s c : Nat) (rel : List Int) : Prop where
  f1 : first ≤ f
  f2 : f ≤ fAt.length
  f3 : Skips fTxn placed first f
  f4 : Stops fTxn placed f
  s1 : max second.toNat (f + 1) ≤ s
  s2 : s ≤ max second.toNat (f + 1) ∨ s ≤ fAt.length
  s3 : Skips fTxn placed (max second.toNat (f + 1)) s
  s4 : Stops fTxn placed s
  c1 : cleared ≤ c
  c2 : c ≤ cleared ∨ c ≤ lAt.length
  c3 : Clears lAt (atv fAt f) cleared c
  c4 : ∀ x, lAt[c]? = some x → atv fAt f < x
  r : ∃ ex, rel = rels lTxn placed cleared c ++ ex ∧ Extra fAt fMate lAt lTxn f s c ex

/-- What 'advance' only reads. -/
structure Env (w : World) (gb gs g1 g2 n1 n4 : Nat) (c1 c2 : List Value) (ap : Option Addr) (placed : List Bool) : Prop where
  b : Arr w gb 32 [.pointer (some ⟨gs, 0, none⟩)]
  s : Arr w gs 35 [.slice (some ⟨g1, 0, none⟩) n1 n1, .slice (some ⟨g2, 0, none⟩) n4 n4]
  a1 : Arr w g1 37 c1
  a2 : Arr w g2 37 c2
  p : Row w ap (bools placed)

theorem Env.kept {w w' : World} {gb gs g1 g2 n1 n4 : Nat} {c1 c2 : List Value} {ap : Option Addr} {placed : List Bool} (h : Env w gb gs g1 g2 n1 n4 c1 c2 ap placed) {B : Nat} {p : Nat → Prop} (hk : Kept B p w w')
    (hb : gb < B ∧ ¬ p gb) (hs : gs < B ∧ ¬ p gs) (h1 : g1 < B ∧ ¬ p g1) (h2 : g2 < B ∧ ¬ p g2) (ho : placed = [] ∨ Off ap B p) : Env w' gb gs g1 g2 n1 n4 c1 c2 ap placed :=
  ⟨h.b.kept hk hb.1 hb.2, h.s.kept hk hs.1 hs.2, h.a1.kept hk h1.1 h1.2, h.a2.kept hk h2.1 h2.2, h.p.kept hk (by rcases ho with rfl | ho; exact .inl rfl; exact .inr ho)⟩

theorem Env.draws {w : World} {gb gs g1 g2 n1 n4 : Nat} {c1 c2 : List Value} {ap : Option Addr} {placed : List Bool} (h : Env w gb gs g1 g2 n1 n4 c1 c2 ap placed) (n : Nat) : Env (w.drewN n) gb gs g1 g2 n1 n4 c1 c2 ap placed :=
  ⟨h.b.draws n, h.s.draws n, h.a1.draws n, h.a2.draws n, h.p.keep (below_drewN (Below.refl _ _) n)⟩

theorem Off.mono {a : Option Addr} {B B' : Nat} {p p' : Nat → Prop} (h : Off a B p) (hB : B ≤ B') (hp : ∀ k, k < B → p' k → p k) : Off a B' p' := fun b off e => by
  obtain ⟨h1, h2⟩ := h b off e
  exact ⟨by omega, fun x => h2 (hp b h1 x)⟩

end Go.Proofs.Qxb6615639a
