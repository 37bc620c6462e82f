import Derived.Test.Qxb6609070aDoorWalks
namespace Go.Proofs.Qxb6609070aDoor
open Go.RowKit
set_option linter.unusedVariables false
set_option linter.unusedSimpArgs false

/-- io.EOF holds a pointer to a block of its own, none of it frozen. -/
structure Eof (w : World) (z : Addr) : Prop where
  cell : w.cell? ⟨0, 0, none⟩ = some (.iface 33 (.pointer (some z)))
  block : ∃ cz tz, w.heap[z.block]? = some (.cells cz tz (0, 0))

theorem lt_of_cell {w : World} {a : Addr} {v : Value} (h : w.cell? a = some v) : a.block < w.heap.size := by
  rcases Nat.lt_or_ge a.block w.heap.size with h' | h'
  · exact h'
  · simp [World.cell?, Array.getElem?_eq_none h'] at h

theorem Eof.keep {w w' : World} {z : Addr} (h : Eof w z) (hb : Below w.heap.size w w') : Eof w' z := by
  obtain ⟨cz, tz, h2⟩ := h.block
  refine ⟨?_, cz, tz, ?_⟩
  · rw [hb.cell (lt_of_cell h.cell)]; exact h.cell
  · rw [hb.block _ (lt_of_block h2)]; exact h2

/-- The text without its one prefix. -/
def strip (s : ByteArray) : ByteArray := if hasP s jS = true then s.extract jS.size s.size else s

/-- An error that errors.New made, with the text s. -/
def ErrOf (w : World) (a : Addr) (s : ByteArray) : Prop := w.cell? a = some (.string s)
theorem ErrOf.keep {w w' : World} {a : Addr} {s : ByteArray} (h : ErrOf w a s) (hb : Below w.heap.size w w') : ErrOf w' a s := by
  unfold ErrOf at h ⊢
  rw [hb.cell (lt_of_cell h)]; exact h

theorem new_cell (w : World) (s : ByteArray) : (w.alloc (.cells #[.string s] 35)).cell? ⟨w.heap.size, 0, none⟩ = some (.string s) := by
  have : (w.alloc (.cells #[.string s] 35)).heap[w.heap.size]? = some (.cells #[.string s] 35 (0, 0)) := heap_alloc_new _ _
  exact cell_of_one this

theorem of_any (s : ByteArray) (z : Addr) (w : World) (hE : Eof w z) (hs : s.size ≤ 1000000) :
    Calls Tryd.prog 5 #[.string s] w fun e w' => ∃ a, e = .returned (.iface 33 (.pointer (some a))) ∧ ErrOf w' a (strip s) ∧ Below w.heap.size w w' := by
  have hE1 : Eof (w.alloc (.cells #[.string s] 35)) z := hE.keep ((Below.refl _ _).alloc (Nat.le_refl _) _)
  obtain ⟨cz, tz, hbz⟩ := hE1.block
  have hlz : z.block < w.heap.size := by obtain ⟨_, _, h⟩ := hE.block; exact lt_of_block h
  have hne : (⟨w.heap.size, 0, none⟩ : Addr) ≠ z := fun h => by rw [← h] at hlz; simp at hlz
  have hba : (w.alloc (.cells #[.string s] 35)).heap[w.heap.size]? = some (.cells #[.string s] 35 (0, 0)) := heap_alloc_new _ _
  have hc := new_cell w s
  have hz1 := hE1.cell
  clear hE1 hE
  by_cases hp : hasP s jS = true
  · have e : strip s = s.extract jS.size s.size := by simp [strip, hp]
    rw [e]
    clear e
    go_enter Tryd.func5, Tryd.ntmps5
    go_wp2_with fail
    refine (new_any s w).mono ?_
    rintro e w' ⟨rfl, rfl⟩
    go_wp2_with fail
    refine (json_cut ⟨w.heap.size, 0, none⟩ z s _ cz _ tz _ hz1 hc hne hba hbz hs hp).mono ?_
    rintro e w' ⟨rfl, rfl⟩
    go_wp2_with fail
    go_ret
    refine ⟨_, rfl, ?_, ((Below.refl _ _).alloc (Nat.le_refl _) _).alloc (by simp) _⟩
    unfold ErrOf
    have := new_cell (w.alloc (.cells #[.string s] 35)) (s.extract jS.size s.size)
    have e6 : jS.size = 6 := rfl
    simp [e6]
  · have hp' : hasP s jS = false := by simpa using hp
    have e : strip s = s := by simp [strip, hp']
    rw [e]
    clear e hp
    go_enter Tryd.func5, Tryd.ntmps5
    go_wp2_with fail
    refine (new_any s w).mono ?_
    rintro e w' ⟨rfl, rfl⟩
    go_wp2_with fail
    refine (json_keep ⟨w.heap.size, 0, none⟩ z s _ cz _ tz _ hz1 hc hne hba hbz hs hp').mono ?_
    rintro e w' ⟨rfl, hw⟩
    subst hw
    go_wp2_with fail
    go_ret
    exact ⟨_, rfl, hc, (Below.refl _ _).alloc (Nat.le_refl _) _⟩

theorem eof_any (z : Addr) (w : World) (hE : Eof w z) :
    Calls Tryd.prog 6 #[] w fun e w' => ∃ a, e = .returned (.iface 33 (.pointer (some a))) ∧ ErrOf w' a emptyS ∧ Below w.heap.size w w' := by
  have hz := hE.cell
  go_enter Tryd.func6, Tryd.ntmps6
  go_wp2_with fail
  refine (json_eof z w hz).mono ?_
  rintro e w' ⟨rfl, rfl⟩
  go_wp2_with fail
  go_ret
  exact ⟨_, rfl, new_cell w emptyS, (Below.refl _ _).alloc (Nat.le_refl _) _⟩

theorem ext_list {a b : ByteArray} (h : a.data.toList = b.data.toList) : a = b := by
  cases a; cases b
  simp at h
  simp [h]

theorem data_append (a b : ByteArray) : (a ++ b).data.toList = a.data.toList ++ b.data.toList := by simp
theorem data_extract (a : ByteArray) (i j : Nat) : (a.extract i j).data.toList = (a.data.toList.take j).drop i := by
  simp [List.drop_take]

theorem toList_data (a : ByteArray) : a.toList = a.data.toList := Go.ByteArray.toList_eq a

theorem size_data (a : ByteArray) : a.size = a.data.toList.length := by simp

theorem hasP_iff (m : ByteArray) : hasP m jS = true ↔ jS.data.toList <+: m.data.toList := by
  unfold hasP
  rw [Bool.and_eq_true, beq_iff_eq, toList_data, toList_data, data_extract, decide_eq_true_iff, size_data, size_data]
  constructor
  · rintro ⟨h1, h2⟩
    rw [List.prefix_iff_eq_take]
    simpa using h2.symm
  · intro h
    refine ⟨h.length_le, ?_⟩
    have := List.prefix_iff_eq_take.1 h
    simpa using this.symm

theorem strip_pre (m : ByteArray) : strip (jS ++ m) = m := by
  have h : hasP (jS ++ m) jS = true := (hasP_iff _).2 (by rw [data_append]; exact List.prefix_append _ _)
  simp only [strip, h, if_true]
  apply ext_list
  rw [data_extract, data_append, size_data, size_data, data_append, List.take_length, List.drop_left]

theorem pre_strip {m : ByteArray} (h : hasP m jS = true) : jS ++ strip m = m := by
  have hp := (hasP_iff m).1 h
  simp only [strip, h, if_true]
  apply ext_list
  rw [data_append, data_extract, size_data m, List.take_length]
  obtain ⟨r, hr⟩ := hp
  rw [← hr, size_data, List.drop_left]

theorem no_strip {m : ByteArray} (h : hasP m jS = false) : strip m = m := by simp [strip, h]

theorem bytes_any (s : ByteArray) (w : World) : Calls Tryd.prog 4 #[.string s] w fun e w' => (∃ b, e = .returned (.bool b)) ∧ w' = w := by
  go_enter Tryd.func4, Tryd.ntmps4
  go_wp2
  all_goals (go_ret; exact ⟨⟨_, rfl⟩, rfl⟩)

set_option maxHeartbeats 400000 in
theorem law_any (m : ByteArray) (z : Addr) (w : World) (hE : Eof w z) (hm : m.size ≤ maxLen) :
    Calls Tryd.prog 3 #[.string m] w fun e w' => e = .returned (.bool true) ∧ Below w.heap.size w w' := by
  unfold maxLen at hm
  go_enter Tryd.func3, Tryd.ntmps3
  go_wp2_with fail
  refine (bytes_any m w).mono ?_
  rintro e w' ⟨⟨b, rfl⟩, hw⟩
  have hw := hw.symm
  subst hw
  cases b
  · go_wp2_with fail
    go_ret
    exact ⟨rfl, Below.refl _ _⟩
  by_cases hl : m.size ≤ 524288
  · go_wp2_with fail
    refine (of_any (jS ++ m) z w hE (by rw [ByteArray.size_append, show jS.size = 6 from rfl]; omega)).mono ?_
    rw [strip_pre m]
    rintro e w1 ⟨a1, rfl, hr1, hB1⟩
    have hE1 := hE.keep hB1
    go_wp2_with fail
    refine (of_any m z w1 hE1 (by omega)).mono ?_
    rintro e w2 ⟨a2, rfl, hr2, hB2⟩
    have hE2 := hE1.keep hB2
    have hr1 := hr1.keep hB2
    go_wp2_with fail
    refine (eof_any z w2 hE2).mono ?_
    rintro e w3 ⟨a3, rfl, hr3, hB3⟩
    have hr1 := hr1.keep hB3
    have hr2 := hr2.keep hB3
    have hB : Below w.heap.size w w3 := (hB1.trans (hB2.mono hB1.size)).trans (hB3.mono (Nat.le_trans hB1.size hB2.size))
    clear hE hE1 hE2 hB1 hB2 hB3
    go_wp2_with fail
    refine (errText_any a1 m w3 hr1).mono ?_
    rintro e w' ⟨rfl, hw⟩
    have hw := hw.symm
    subst hw
    go_wp2_with fail
    refine (errText_any a2 (strip m) w3 hr2).mono ?_
    rintro e w' ⟨rfl, hw⟩
    have hw := hw.symm
    subst hw
    go_wp2_with fail
    refine (prefix_any m jS w3 (by omega) (by decide)).mono ?_
    rintro e w' ⟨rfl, hw⟩
    have hw := hw.symm
    subst hw
    cases hp : hasP m jS with
    | true =>
      have hps := pre_strip hp
      have HPS : Hid (jS ++ strip m = m) := hps
      have hle : (strip m).size ≤ 1000000 := by
        have := congrArg ByteArray.size hps
        rw [ByteArray.size_append] at this
        omega
      have ht : (!((jS ++ strip m).toList == m.toList)) = false := by rw [hps]; simp
      clear hps hp
      go_wp2_with fail
      refine (errText_any a3 emptyS w3 hr3).mono ?_
      rintro e w' ⟨rfl, hw⟩
      have hw := hw.symm
      subst hw
      go_wp2_with fail
      go_ret
      exact ⟨rfl, hB⟩
    | false =>
      rw [no_strip hp]
      clear hp
      go_wp2_with fail
      refine (errText_any a3 emptyS w3 hr3).mono ?_
      rintro e w' ⟨rfl, hw⟩
      have hw := hw.symm
      subst hw
      go_wp2_with fail
      go_ret
      exact ⟨rfl, hB⟩
  · go_wp2_with fail
    go_ret
    exact ⟨rfl, Below.refl _ _⟩
end Go.Proofs.Qxb6609070aDoor
