import Derived.Test.Qxb6615639aBase
import Derived.Deep.AppendLies
namespace Go.Proofs.Qxb6615639a
set_option linter.unusedVariables false
set_option linter.unusedSimpArgs false
open Go.RowKit

/-- Below block B, but for the blocks that 'p' names, w' is as w was. -/
structure Kept (B : Nat) (p : Nat → Prop) (w w' : World) : Prop where
  os : w'.os = w.os
  tape : w'.tape = w.tape
  output : w'.output = w.output
  size : w.heap.size ≤ w'.heap.size
  block : ∀ k, k < B → ¬ p k → w'.heap[k]? = w.heap[k]?

theorem Kept.refl (B : Nat) (p : Nat → Prop) (w : World) : Kept B p w w := ⟨rfl, rfl, rfl, Nat.le_refl _, fun _ _ _ => rfl⟩
theorem Kept.trans {B : Nat} {p : Nat → Prop} {a b c : World} (h : Kept B p a b) (k : Kept B p b c) : Kept B p a c :=
  ⟨k.os.trans h.os, k.tape.trans h.tape, k.output.trans h.output, Nat.le_trans h.size k.size, fun i hi hp => (k.block i hi hp).trans (h.block i hi hp)⟩
theorem Kept.mono {B B' : Nat} {p p' : Nat → Prop} {a b : World} (h : Kept B p a b) (hB : B' ≤ B) (hp : ∀ k, k < B' → p k → p' k) : Kept B' p' a b :=
  ⟨h.os, h.tape, h.output, h.size, fun i hi hn => h.block i (by omega) fun x => hn (hp i hi x)⟩
theorem Kept.draws {B : Nat} {p : Nat → Prop} {a b : World} (h : Kept B p a b) (n : Nat) : Kept B p a (b.drewN n) := h.trans ⟨rfl, rfl, rfl, Nat.le_refl _, fun _ _ _ => rfl⟩
theorem Kept.draw {B : Nat} {p : Nat → Prop} {a b : World} (h : Kept B p a b) : Kept B p a b.drew := h.trans ⟨rfl, rfl, rfl, Nat.le_refl _, fun _ _ _ => rfl⟩
theorem Kept.setCell {B : Nat} {p : Nat → Prop} {a b : World} (h : Kept B p a b) {q : Addr} (hq : p q.block ∨ B ≤ q.block) (u : Value) : Kept B p a (b.setCell q u) :=
  h.trans ⟨rfl, rfl, rfl, by simp [World.setCell], fun k hk hn => Below.heap_setCell _ _ _ _ (by rintro rfl; rcases hq with hq | hq; exact hn hq; omega)⟩
theorem Kept.alloc {B : Nat} {p : Nat → Prop} {a b : World} (h : Kept B p a b) (hB : B ≤ b.heap.size) (o : Obj) : Kept B p a (b.alloc o) :=
  h.trans ⟨rfl, rfl, rfl, by simp, fun k hk _ => Below.heap_alloc _ _ _ (by omega)⟩
theorem Kept.below {B : Nat} {p : Nat → Prop} {a b : World} (h : Kept B p a b) {B' : Nat} (hB : B' ≤ B) (hp : ∀ k, k < B' → ¬ p k) : Below B' a b :=
  ⟨h.os, h.tape, h.output, h.size, fun k hk => h.block k (by omega) (hp k hk)⟩
theorem Kept.of_below {B : Nat} {p : Nat → Prop} {a b : World} (h : Below B a b) : Kept B p a b := ⟨h.os, h.tape, h.output, h.size, fun k hk _ => h.block k hk⟩
theorem Arr.kept {w w' : World} {g : Nat} {t : TypeId} {cs : List Value} (h : Arr w g t cs) {B : Nat} {p : Nat → Prop} (hk : Kept B p w w') (hB : g < B) (hp : ¬ p g) : Arr w' g t cs := by
  unfold Arr
  rw [hk.block g hB hp]
  exact h

/-- The row 'a' lies in no block of p (or is empty), and below B. -/
def Off (a : Option Addr) (B : Nat) (p : Nat → Prop) : Prop := ∀ b off, a = some ⟨b, off, none⟩ → b < B ∧ ¬ p b

theorem Row.kept {w w' : World} {a : Option Addr} {cs : List Value} (h : Row w a cs) {B : Nat} {p : Nat → Prop} (hk : Kept B p w w') (ho : cs = [] ∨ Off a B p) : Row w' a cs := by
  rcases h with h | ⟨b, off, ha, hlt, hc⟩
  · exact .inl h
  · rcases ho with ho | ho
    · exact .inl ho
    · obtain ⟨h1, h2⟩ := ho b off ha
      refine .inr ⟨b, off, ha, Nat.lt_of_lt_of_le hlt hk.size, fun i u hu => ?_⟩
      rw [World.cell?_of_block (w := w) (hk.block b h1 h2)]
      exact hc i u hu

/-- What has been released so far: the captured variable 'gr' holds a slice of the call's own (from block 'base' on) with the numbers xs. -/
def Rel (w : World) (base gr : Nat) (xs : List Int) : Prop := ∃ v, Arr w gr 22 [v] ∧ w.ownsRow base 3 1 v xs.length (ints xs)

theorem ownBlock_ge {w : World} {base : Nat} {e : TypeId} {size : Nat} {v : Value} {n : Nat} {xs : List Value} (h : w.ownsRow base e size v n xs) : ∀ k, v.ownBlock = some k → base ≤ k := by
  intro k hk
  obtain ⟨_, h2⟩ := h
  rcases h2 with ⟨rfl, _⟩ | ⟨g, cap, cur, hv, hg, hh, r⟩
  · simp [Value.ownBlock] at hk
  · subst hv
    simp [Value.ownBlock] at hk
    omega

/-- An owned row stays owned where the blocks from 'base' on have not turned. -/
theorem ownsRow_at {w w' : World} {base : Nat} {e : TypeId} {size : Nat} {v : Value} {n : Nat} {xs : List Value} (h : w.ownsRow base e size v n xs) (hb : ∀ k, base ≤ k → k < w.heap.size → w'.heap[k]? = w.heap[k]?) : w'.ownsRow base e size v n xs := by
  obtain ⟨h1, h2⟩ := h
  refine ⟨h1, ?_⟩
  rcases h2 with h2 | ⟨g, cap, cur, hv, hg, hh, r⟩
  · exact Or.inl h2
  · exact Or.inr ⟨g, cap, cur, hv, hg, by rw [hb g hg (lt_of_block hh)]; exact hh, r⟩

end Go.Proofs.Qxb6615639a
