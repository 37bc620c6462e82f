import Derived.Test.Qxb6609070aDoorProg
import Derived.WalkKit
import Derived.LaidEql
import Derived.WalkSpells
namespace Go.Proofs.Qxb6609070aDoor
open Go.RowKit
set_option linter.unusedVariables false
set_option linter.unusedSimpArgs false

theorem new_any (s : ByteArray) (w : World) :
    Calls Tryd.prog 10 #[.string s] w fun e w' => e = .returned (.iface 33 (.pointer (some ⟨w.heap.size, 0, none⟩))) ∧ w' = w.alloc (.cells #[.string s] 35) := by
  go_enter Tryd.func10, Tryd.ntmps10
  go_wp2
  go_ret
  exact ⟨rfl, rfl⟩

theorem text_any (a : Addr) (s : ByteArray) (w : World) (hc : w.cell? a = some (.string s)) :
    Calls Tryd.prog 29 #[.pointer (some a)] w fun e w' => e = .returned (.string s) ∧ w' = w := by
  obtain ⟨b, o, sp⟩ := a
  go_enter Tryd.func29, Tryd.ntmps29
  go_wp2
  go_ret
  exact ⟨rfl, rfl⟩

theorem meth_error (a : Addr) (w : World) : (method 159 33 (.pointer (some a)) "Error").run Tryd.prog w = .ok (29, .pointer (some a)) w := by kernel_rfl

theorem errText_any (a : Addr) (s : ByteArray) (w : World) (hc : w.cell? a = some (.string s)) :
    Calls Tryd.prog 7 #[.iface 33 (.pointer (some a))] w fun e w' => e = .returned (.string s) ∧ w' = w := by
  have hm := meth_error a w
  go_enter Tryd.func7, Tryd.ntmps7
  go_wp2_with (go_at_call 29; refine (text_any a s _ hc).mono ?_; rintro e w' ⟨rfl, rfl⟩)
  go_ret
  exact ⟨rfl, rfl⟩

/-- Does s open with p? -/
def hasP (s p : ByteArray) : Bool := decide (p.size ≤ s.size) && (s.extract 0 p.size).toList == p.toList

theorem prefix_any (s p : ByteArray) (w : World) (hs : s.size ≤ 1000000) (hp : p.size ≤ 1000000) :
    Calls Tryd.prog 8 #[.string s, .string p] w fun e w' => e = .returned (.bool (hasP s p)) ∧ w' = w := by
  by_cases h : p.size ≤ s.size
  · have e : hasP s p = ((s.extract 0 p.size).toList == p.toList) := by simp [hasP, h]
    rw [e]
    clear e
    go_enter Tryd.func8, Tryd.ntmps8
    go_wp2
    go_ret
    exact ⟨rfl, rfl⟩
  · have e : hasP s p = false := by simp [hasP, h]
    rw [e]
    clear e
    have hd : decide ((p.size : Int) ≤ (s.size : Int)) = false := decide_eq_false (by omega)
    go_enter Tryd.func8, Tryd.ntmps8
    go_wp2
    go_ret
    exact ⟨rfl, rfl⟩

theorem lib_prefix (s p : ByteArray) (w : World) (hs : s.size ≤ 1000000) (hp : p.size ≤ 1000000) :
    Calls Tryd.prog 13 #[.string s, .string p] w fun e w' => e = .returned (.bool (hasP s p)) ∧ w' = w := by
  by_cases h : p.size ≤ s.size
  · have e : hasP s p = ((s.extract 0 p.size).toList == p.toList) := by simp [hasP, h]
    rw [e]
    clear e
    go_enter Tryd.func13, Tryd.ntmps13
    go_wp2
    go_ret
    exact ⟨rfl, rfl⟩
  · have e : hasP s p = false := by simp [hasP, h]
    rw [e]
    clear e
    have hd : decide ((p.size : Int) ≤ (s.size : Int)) = false := decide_eq_false (by omega)
    go_enter Tryd.func13, Tryd.ntmps13
    go_wp2
    go_ret
    exact ⟨rfl, rfl⟩

theorem hasP_size {s p : ByteArray} (h : hasP s p = true) : p.size ≤ s.size := by
  simp [hasP] at h
  exact h.1

theorem cut12_yes (s p : ByteArray) (w : World) (hs : s.size ≤ 1000000) (hp : p.size ≤ 1000000) (h : hasP s p = true) :
    Calls Tryd.prog 12 #[.string s, .string p] w fun e w' => e = .returned (.tuple #[.string (s.extract p.size s.size), .bool true]) ∧ w' = w := by
  have hz := hasP_size h
  go_enter Tryd.func12, Tryd.ntmps12
  go_wp2_with (go_at_call 13; refine (lib_prefix s p _ hs hp).mono ?_; rw [h]; rintro e w' ⟨rfl, rfl⟩)
  go_ret2
  exact ⟨rfl, rfl⟩

theorem cut12_no (s p : ByteArray) (w : World) (hs : s.size ≤ 1000000) (hp : p.size ≤ 1000000) (h : hasP s p = false) :
    Calls Tryd.prog 12 #[.string s, .string p] w fun e w' => e = .returned (.tuple #[.string s, .bool false]) ∧ w' = w := by
  go_enter Tryd.func12, Tryd.ntmps12
  go_wp2_with (go_at_call 13; refine (lib_prefix s p _ hs hp).mono ?_; rw [h]; rintro e w' ⟨rfl, rfl⟩)
  go_ret2
  exact ⟨rfl, rfl⟩

theorem cut_yes (s p : ByteArray) (w : World) (hs : s.size ≤ 1000000) (hp : p.size ≤ 1000000) (h : hasP s p = true) :
    Calls Tryd.prog 11 #[.string s, .string p] w fun e w' => e = .returned (.tuple #[.string (s.extract p.size s.size), .bool true]) ∧ w' = w := by
  go_enter Tryd.func11, Tryd.ntmps11
  go_wp2_with (go_at_call 12; refine (cut12_yes s p _ hs hp h).mono ?_; rintro e w' ⟨rfl, rfl⟩)
  go_ret2
  exact ⟨rfl, rfl⟩

theorem cut_no (s p : ByteArray) (w : World) (hs : s.size ≤ 1000000) (hp : p.size ≤ 1000000) (h : hasP s p = false) :
    Calls Tryd.prog 11 #[.string s, .string p] w fun e w' => e = .returned (.tuple #[.string s, .bool false]) ∧ w' = w := by
  go_enter Tryd.func11, Tryd.ntmps11
  go_wp2_with (go_at_call 12; refine (cut12_no s p _ hs hp h).mono ?_; rintro e w' ⟨rfl, rfl⟩)
  go_ret2
  exact ⟨rfl, rfl⟩

abbrev jS : ByteArray := { data := #[106, 115, 111, 110, 58, 32] }
abbrev emptyS : ByteArray := { data := #[101, 109, 112, 116, 121, 32, 102, 105, 108, 101, 59, 32, 119, 97, 110, 116, 32, 116, 104, 101, 32, 116, 101, 114, 109, 115, 32, 111, 98, 106, 101, 99, 116] }

theorem Tryd.comp33 : (Tryd.prog.info? 33).map (·.comparable) = some true := by kernel_rfl
theorem Tryd.size35 : (Tryd.prog.info? 35).map (·.size) = some 1 := by kernel_rfl

/-- jsonError(io.EOF). -/
theorem json_eof (z : Addr) (w : World) (hz : w.cell? ⟨0, 0, none⟩ = some (.iface 33 (.pointer (some z)))) :
    Calls Tryd.prog 9 #[.iface 33 (.pointer (some z))] w fun e w' => e = .returned (.iface 33 (.pointer (some ⟨w.heap.size, 0, none⟩))) ∧ w' = w.alloc (.cells #[.string emptyS] 35) := by
  obtain ⟨i, hi, hcmp⟩ := Option.map_eq_some_iff.1 Tryd.comp33
  obtain ⟨j, hj, hjs⟩ := Option.map_eq_some_iff.1 Tryd.size35
  have hq := run_eql_iface_ptr_same (P := Tryd.prog) w z Tryd.underlying24 Tryd.underlying33 hi hcmp hj
  go_enter Tryd.func9, Tryd.ntmps9
  go_wp2_with (go_at_call 10; refine (new_any emptyS _).mono ?_; rintro e w' ⟨rfl, rfl⟩)
  go_ret
  exact ⟨rfl, rfl⟩

/-- jsonError of another error whose text opens with the prefix. -/
theorem json_cut (a z : Addr) (s : ByteArray) (ca cz : Array Value) (ta tz : TypeId) (w : World) (hz : w.cell? ⟨0, 0, none⟩ = some (.iface 33 (.pointer (some z)))) (hc : w.cell? a = some (.string s))
    (hne : a ≠ z) (hba : w.heap[a.block]? = some (.cells ca ta (0, 0))) (hbz : w.heap[z.block]? = some (.cells cz tz (0, 0))) (hs : s.size ≤ 1000000) (hp : hasP s jS = true) :
    Calls Tryd.prog 9 #[.iface 33 (.pointer (some a))] w fun e w' => e = .returned (.iface 33 (.pointer (some ⟨w.heap.size, 0, none⟩))) ∧ w' = w.alloc (.cells #[.string (s.extract jS.size s.size)] 35) := by
  obtain ⟨i, hi, hcmp⟩ := Option.map_eq_some_iff.1 Tryd.comp33
  obtain ⟨j, hj, hjs⟩ := Option.map_eq_some_iff.1 Tryd.size35
  have hq := run_eql_iface_ptr_other (P := Tryd.prog) w Tryd.underlying24 Tryd.underlying33 hi hcmp hj (by rw [hjs]; decide) hne hba hbz
  have hm := meth_error a w
  go_enter Tryd.func9, Tryd.ntmps9
  go_wp2_with (first | (go_at_call 29; refine (text_any a s _ hc).mono ?_; rintro e w' ⟨rfl, rfl⟩) | (go_at_call 11; refine (cut_yes s jS _ hs (by decide) hp).mono ?_; rintro e w' ⟨rfl, rfl⟩) | (go_at_call 10; refine (new_any (s.extract jS.size s.size) _).mono ?_; rintro e w' ⟨rfl, rfl⟩))
  go_ret
  exact ⟨rfl, rfl⟩

/-- jsonError of another error whose text does not. -/
theorem json_keep (a z : Addr) (s : ByteArray) (ca cz : Array Value) (ta tz : TypeId) (w : World) (hz : w.cell? ⟨0, 0, none⟩ = some (.iface 33 (.pointer (some z)))) (hc : w.cell? a = some (.string s))
    (hne : a ≠ z) (hba : w.heap[a.block]? = some (.cells ca ta (0, 0))) (hbz : w.heap[z.block]? = some (.cells cz tz (0, 0))) (hs : s.size ≤ 1000000) (hp : hasP s jS = false) :
    Calls Tryd.prog 9 #[.iface 33 (.pointer (some a))] w fun e w' => e = .returned (.iface 33 (.pointer (some a))) ∧ w' = w := by
  obtain ⟨i, hi, hcmp⟩ := Option.map_eq_some_iff.1 Tryd.comp33
  obtain ⟨j, hj, hjs⟩ := Option.map_eq_some_iff.1 Tryd.size35
  have hq := run_eql_iface_ptr_other (P := Tryd.prog) w Tryd.underlying24 Tryd.underlying33 hi hcmp hj (by rw [hjs]; decide) hne hba hbz
  have hm := meth_error a w
  go_enter Tryd.func9, Tryd.ntmps9
  go_wp2_with (first | (go_at_call 29; refine (text_any a s _ hc).mono ?_; rintro e w' ⟨rfl, rfl⟩) | (go_at_call 11; refine (cut_no s jS _ hs (by decide) hp).mono ?_; rintro e w' ⟨rfl, rfl⟩))
  go_ret
  exact ⟨rfl, rfl⟩

end Go.Proofs.Qxb6609070aDoor
