import Derived.Test.Qxb6615622aFin
import Derived.WalkKit
import Derived.ProofKit
import Derived.OpenShut
import Derived.ShutString
import Derived.ChangeOld
import Derived.Below
import Derived.Deep.Grids
namespace Go.Proofs.Qxb6615622a
open Go.ChangeShapes Go.WideShapes Go.ChangeAt Go.RowKit
set_option linter.unusedVariables false
set_option linter.unusedSimpArgs false

theorem row_of {w : World} {a : Addr} {len cap : Nat} {V : Nat → Value} (hl : len ≤ cap) (h : ∀ i, i < cap → w.cell? (a.add i) = some (V i)) : Row w (some a) ((List.range len).map V) := by
  by_cases h0 : len = 0
  · subst h0; exact .inl rfl
  · obtain ⟨b, off, spot⟩ := a
    have hspot : spot = none := by simpa [Addr.add] using World.cell?_spot (h 0 (by omega))
    subst hspot
    have hc' : ∀ i, i < cap → w.cell? ⟨b, off + i, none⟩ = some (V i) := fun i hi => by have := h i hi; rwa [Addr.add_lit] at this
    refine .inr ⟨b, off, rfl, lt_of_cell (hc' 0 (by omega)), fun i u hu => ?_⟩
    have hi := at_lt hu
    simp at hi
    rw [hc' i (by omega)]
    have e : ((List.range len).map V)[i]? = some (V i) := by simp [hi]
    rw [e] at hu
    exact hu

section
variable {H : Type} {enc : TypeId × Value → H} {w : World}

theorem slice_of {β : Type} (z : β) (Pr : Value → β → Prop) {t e : TypeId} (ht : Try.prog.underlying t = some (.slice e)) (hc : Try.prog.cellsOf e = 1)
    (hp : ∀ fuel v x, DataW.trod enc Try.prog w 0 (fun _ => true) true fuel e [v] = some x → ∃ b, Pr v b) {fuel : Nat} {v : Value} {x : DataW H × List MemPlace}
    (h : DataW.trod enc Try.prog w 0 (fun _ => true) true fuel t [v] = some x) :
    ∃ bs : List β, ∃ a c vs, v = .slice a bs.length c ∧ vs.length = bs.length ∧ Row w a vs ∧ ∀ (i : Nat) y b, vs[i]? = some y → bs[i]? = some b → Pr y b := by
  rcases Go.Deep.open_slice1 ht hc h with ⟨hcs, _⟩ | ⟨a, len, cap, m, n, V, D, Pl, hcs, hb, hl, hm, hmm, _, hx⟩
  · obtain rfl : v = .slice none 0 0 := by simpa using hcs
    exact ⟨[], none, 0, [], rfl, rfl, .inl rfl, fun i y b h => by simp at h⟩
  · obtain rfl : v = .slice (some a) len cap := by simpa using hcs
    simp only [if_true] at hmm
    subst hmm
    have hex : ∀ i, i < m → ∃ b, Pr (V i) b := fun i hi => hp n _ _ (hx i hi).2
    obtain ⟨F, hF⟩ : ∃ F : Nat → β, ∀ i, i < m → Pr (V i) (F i) := ⟨fun i => if h : i < m then (hex i h).choose else z, fun i hi => by simp only [dif_pos hi]; exact (hex i hi).choose_spec⟩
    refine ⟨(List.range len).map F, some a, m, (List.range len).map V, by simp, by simp, row_of hl fun i hi => (hx i hi).1, fun i y b h1 h2 => ?_⟩
    have hi := at_lt h1
    simp at hi
    simp [hi] at h1 h2
    subst h1 h2
    exact hF i (by omega)

theorem bytes_of (fuel : Nat) (v : Value) (x : DataW H × List MemPlace) (h : DataW.trod enc Try.prog w 0 (fun _ => true) true fuel 36 [v] = some x) : ∃ bs, IsBytes w 0 v bs := by
  rcases open_ints Try.underlying36 Try.underlying5 (by kernel_rfl) h with ⟨hcs, _⟩ | ⟨a, len, cap, zs, hcs, _, hl, hm, hz, _, hcell, _⟩
  · obtain rfl : v = .slice none 0 0 := by simpa using hcs
    exact ⟨[], none, 0, rfl, .inl rfl, fun b off h => Nat.zero_le _⟩
  · obtain rfl : v = .slice (some a) len cap := by simpa using hcs
    simp only [if_true] at hz
    have hr := row_of (w := w) (a := a) (len := len) (cap := zs.length) (V := fun i => .int .u8 (zs.getD i 0)) (by omega) hcell
    refine ⟨(List.range len).map fun i => zs.getD i 0, some a, cap, by simp, ?_, fun b off h => Nat.zero_le _⟩
    unfold u8s
    rw [List.map_map]
    exact hr

theorem strs_of (fuel : Nat) (v : Value) (x : DataW H × List MemPlace) (h : DataW.trod enc Try.prog w 0 (fun _ => true) true fuel 23 [v] = some x) : ∃ bss, Strs w v bss :=
  slice_of [] (IsBytes w 0) Try.underlying23 (by kernel_rfl) bytes_of h

theorem strss_of (fuel : Nat) (v : Value) (x : DataW H × List MemPlace) (h : DataW.trod enc Try.prog w 0 (fun _ => true) true fuel 22 [v] = some x) : ∃ b3, Strss w v b3 :=
  slice_of [] (Strs w) Try.underlying22 (by kernel_rfl) strs_of h
end
end Go.Proofs.Qxb6615622a
