import Derived.Test.Qxb6615639aFacts
import Derived.Test.Qxb6615639aKept
import Derived.WalkKit
namespace Go.Proofs.Qxb6615639a
set_option linter.unusedVariables false
set_option linter.unusedSimpArgs false
open Go.RowKit
set_option maxHeartbeats 400000 in
theorem release_any (t : Int) (base gr : Nat) (xs : List Int) (w : World) (hr : Rel w base gr xs) (hgr : gr < base) (hb : base ≤ w.heap.size) (hn : xs.length ≤ 1000000) :
    Calls Try.prog 13 #[.int .i64 t, .pointer (some ⟨gr, 0, none⟩)] w fun e w' => e = .returned (.tuple #[]) ∧ Rel w' base gr (xs ++ [t]) ∧ Kept base (fun k => k = gr) w w' := by
  obtain ⟨v, hA, hown⟩ := hr
  have hc := hA.cell (i := 0) (u := v) rfl
  have hf := hA.free 0
  obtain ⟨i0, hi, hz0, hz1, hz2⟩ := info_parts Try.info3
  go_enter Try.func13, Try.ntmps13
  go_wp2_with (at_builtin; refine wpList_append_lies _ rfl _ _ 22 (by rfl) base 3 i0 (.int .i64 0) 1 8 Try.underlying22 hi hz0 hz1 hz2 rfl (by decide) v xs.length (ints xs) (by rfl) (hown.alloc _) ⟨w.heap.size, 0, none⟩ 1 1 [.int .i64 t] (by rfl) (by rfl) ?_ ?_ (by decide) ?_ ?_ ?_ _ rfl ?_)
  · intro j u hj
    match j, hj with
    | 0, hj => simp at hj; subst hj; simp [Addr.add]
  · intro u hu; simp at hu; subst hu; rfl
  · unfold maxLen; omega
  · omega
  · simp; omega
  · intro g cap w1 hown1 hgrow hat hlt
    have hne : some gr ≠ v.ownBlock := fun h => by have := ownBlock_ge hown gr h.symm; omega
    have hA1 : Arr w1 gr 22 [v] := by
      unfold Arr
      rw [hgrow.block gr (by simp; omega) hne]
      exact hA.alloc _
    have hc1 := hA1.cell (i := 0) (u := v) rfl
    have hf1 := hA1.free 0
    have hg : base ≤ g := by
      rcases hat with h | h
      · exact ownBlock_ge hown g h
      · omega
    have hK : Kept base (fun k => k = gr) w w1 :=
      ((Kept.refl _ _ _).alloc hb (.cells #[.int .i64 t] 3)).trans ⟨hgrow.os, hgrow.tape, hgrow.output, hgrow.size, fun k hk _ => hgrow.block k (by simp; omega) (fun h => by have := ownBlock_ge hown k h.symm; omega)⟩
    clear hgrow hat hc hf hA hown
    go_wp2
    go_end0
    refine ⟨rfl, ⟨_, hA1.set 0 _, ?_⟩, hK.setCell (.inl rfl) _⟩
    have := ownsRow_setCell_below hown1 (a := ⟨gr, 0, none⟩) hgr (.slice (some ⟨g, 0, none⟩) (xs.length + 1) cap)
    simpa [ints] using this
end Go.Proofs.Qxb6615639a
