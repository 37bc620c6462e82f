import Derived.Test.Qxb6615639aBase
import Derived.Laws.CopyOwn
namespace Go.Proofs.Qxb6615639a
set_option linter.unusedVariables false
set_option linter.unusedSimpArgs false
open Go.RowKit

theorem splice_all {α : Type} (L cs : List α) (h : L.length = cs.length) : splice L 0 cs = cs := by
  simp [splice, ← h]

/-- 'copy(dst, src)', dst a block of the call's own, as long as src. -/
theorem wpList_copy_arr {P : Program} {w : World} {ops : Array Oper} {rest : List Oper} {o : Oper} {a : Act} {Q : Exit → Act → World → Prop} (hgd : o.guard = none) (d s : Operand) (t : TypeId)
    (ho : o.op = .call { callee := .builtin .copy, args := #[d, s], argTypes := #[t, t] }) (elem : TypeId) (hu : P.underlying t = some (.slice elem)) (hsz : (P.info? elem).map (·.size) = some 1)
    (g : Nat) (sa : Option Addr) (n c1 c2 : Nat) (hd : a.eval d = .slice (some ⟨g, 0, none⟩) n c1) (hs : a.eval s = .slice sa n c2)
    (old cs : List Value) (hA : Arr w g elem old) (hn : old.length = n) (hcs : cs.length = n) (hr : Row w sa cs) (h1 : ∀ v ∈ cs, v.oneCell' = true) (B : Nat) (hB : B ≤ g)
    (h : ∀ w', Arr w' g elem cs → Below B w w' → wpList P ops Q rest (a.put o.dst (goInt n)) w') :
    wpList P ops Q (o :: rest) a w := by
  refine wpList_copy_splice hgd d s t t ho elem hu hsz _ _ n c1 n c2 hd hs g 0 old elem hA cs (by rw [hcs]; simp) ?_ (by omega) h1 B w (Below.refl _ _) hB ?_
  · intro hpos
    refine ⟨rfl, ?_⟩
    rcases hr with hr | ⟨b, off, ha, _, hc⟩
    · subst hr; simp at hpos
    · exact ⟨_, ha, fun j v hv => by rw [Addr.add_lit]; exact hc j v hv⟩
  · intro w' hw hb
    rw [hcs]
    refine h w' ?_ hb
    have := hw.out
    rw [splice_all _ _ (by omega)] at this
    exact this

theorem ints_one (xs : List Int) : ∀ v ∈ ints xs, v.oneCell' = true := by
  intro u hu
  obtain ⟨_, _, rfl⟩ := List.mem_map.1 hu
  rfl
theorem bools_one (xs : List Bool) : ∀ v ∈ bools xs, v.oneCell' = true := by
  intro u hu
  obtain ⟨_, _, rfl⟩ := List.mem_map.1 hu
  rfl
end Go.Proofs.Qxb6615639a
