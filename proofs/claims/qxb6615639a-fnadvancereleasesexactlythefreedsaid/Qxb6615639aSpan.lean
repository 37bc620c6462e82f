import Derived.Test.Qxb6615639aFacts
import Derived.Test.Qxb6615639aPlain
import Derived.WalkKit
import Derived.Deep.QuietTactic
import Derived.BigQuiet
namespace Go.Proofs.Qxb6615639a
set_option linter.unusedVariables false
set_option linter.unusedSimpArgs false
open Go.RowKit

/-- What the call of 'zzSpanWell' leaves. -/
def SpanPost (fAt fTxn fMate lAt lTxn lMate : List Int) (n : Nat) (w : World) (e : Ending) (w' : World) : Prop :=
  ∃ b, e = .returned (.bool b) ∧ (b = true → Well fAt fTxn fMate lAt lTxn lMate n) ∧ Below w.heap.size w w'

set_option maxRecDepth 100000 in
set_option maxHeartbeats 1000000 in
theorem span_any (a1 a2 a3 a4 a5 a6 : Option Addr) (c1 c2 c3 c4 c5 c6 : Nat) (fAt fTxn fMate lAt lTxn lMate : List Int) (n1 n2 n3 n4 n5 n6 n : Nat) (w : World)
    (e1 : Hid (n1 = fAt.length)) (e2 : Hid (n2 = fTxn.length)) (e3 : Hid (n3 = fMate.length)) (e4 : Hid (n4 = lAt.length)) (e5 : Hid (n5 = lTxn.length)) (e6 : Hid (n6 = lMate.length))
    (l1 : n1 ≤ 1000000) (l4 : n4 ≤ 1000000) (ln : n ≤ 1000000)
    (r1 : Row w a1 (ints fAt)) (r2 : Row w a2 (ints fTxn)) (r3 : Row w a3 (ints fMate)) (r4 : Row w a4 (ints lAt)) (r5 : Row w a5 (ints lTxn)) (r6 : Row w a6 (ints lMate)) :
    Calls Try.prog 6 #[.slice a1 n1 c1, .slice a2 n2 c2, .slice a3 n3 c3, .slice a4 n4 c4, .slice a5 n5 c5, .slice a6 n6 c6, .int .i64 n] w (SpanPost fAt fTxn fMate lAt lTxn lMate n w) := by
  go_enter Try.func6, Try.ntmps6
  by_cases hlen : n1 = n2 ∧ n1 = n3 ∧ n4 = n5 ∧ n4 = n6
  · obtain ⟨rfl, rfl, rfl, rfl⟩ := hlen
    go_wp2
    go_loopw [17] (fun i wr => ∃ k : Nat, (k ≤ n1 ∨ k = 0) ∧ i = .int .i64 (k + 1) ∧ Ups fAt (k + 1) ∧ Below w.heap.size w wr) (fun i _ => n1 + 1 - (intOf i).toNat)
    case atStart => exact ⟨0, .inr rfl, rfl, Ups.one _, Below.refl _ _⟩
    case round =>
      obtain ⟨k, hk, rfl, hup, hb⟩ := hrel
      by_cases hlt : k + 1 < n1
      · obtain ⟨b, off, x, ha, hx, hc⟩ := (r1.keep hb).int (k := k) (by rw [← e1.out]; omega)
        obtain ⟨b', off', y, ha', hy, hc'⟩ := (r1.keep hb).int (k := k + 1) (by rw [← e1.out]; omega)
        subst ha
        simp only [Option.some.injEq, Addr.mk.injEq, and_true] at ha'
        obtain ⟨rfl, rfl⟩ := ha'
        have HX : Hid (fAt[k]? = some x) := hx
        have HY : Hid (fAt[k + 1]? = some y) := hy
        clear hx hy
        go_wp2
        go_quiet (fail)
        go_wp2
        · go_ret
          exact ⟨_, rfl, by simp, below_drewN hb _⟩
        · have hxy : x < y := by assumption
          go_roundw
          case rel => exact ⟨k + 1, by omega, by go_num, hup.next HX.out HY.out hxy, below_drewN hb _⟩
          case measure => simp [intOf]; omega
      · have U1 : Hid (Ups fAt fAt.length) := fun p x y hp => hup p x y (by have := e1.out; omega)
        clear hup
        go_wp2
        clear hk hlt
        rename_i wr1
        go_loopw [18] (fun i wr => ∃ k : Nat, (k ≤ n4 ∨ k = 0) ∧ i = .int .i64 (k + 1) ∧ Ups lAt (k + 1) ∧ Below w.heap.size w wr) (fun i _ => n4 + 1 - (intOf i).toNat)
        case atStart => exact ⟨0, .inr rfl, rfl, Ups.one _, hb⟩
        case round =>
          clear hb
          obtain ⟨k, hk, rfl, hup, hb⟩ := hrel
          by_cases hlt : k + 1 < n4
          · obtain ⟨b, off, x, ha, hx, hc⟩ := (r4.keep hb).int (k := k) (by rw [← e4.out]; omega)
            obtain ⟨b', off', y, ha', hy, hc'⟩ := (r4.keep hb).int (k := k + 1) (by rw [← e4.out]; omega)
            subst ha
            simp only [Option.some.injEq, Addr.mk.injEq, and_true] at ha'
            obtain ⟨rfl, rfl⟩ := ha'
            have HX : Hid (lAt[k]? = some x) := hx
            have HY : Hid (lAt[k + 1]? = some y) := hy
            clear hx hy
            go_wp2
            go_quiet (fail)
            go_wp2
            · go_ret
              exact ⟨_, rfl, by simp, below_drewN hb _⟩
            · have hxy : x < y := by assumption
              go_roundw
              case rel => exact ⟨k + 1, by omega, by go_num, hup.next HX.out HY.out hxy, below_drewN hb _⟩
              case measure => simp [intOf]; omega
          · have U4 : Hid (Ups lAt lAt.length) := fun p x y hp => hup p x y (by have := e4.out; omega)
            clear hup
            obtain ⟨i0, hi, hz0, hz1, hz2⟩ := info_parts Try.info3
            go_wp2_with (first | (at_make; refine wpList_make_arr _ rfl (.tmp 84) (.tmp 84) 22 rfl 3 i0 (.int .i64 0) 8 Try.underlying22 hi hz0 hz1 hz2 rfl _ _ _ _ n (by rfl) (by rfl) rfl rfl (by omega) (by unfold maxLen; omega) ?_; intro w1 gF hgF hAF hB1) | (at_make; refine wpList_make_arr _ rfl (.tmp 86) (.tmp 86) 22 rfl 3 i0 (.int .i64 0) 8 Try.underlying22 hi hz0 hz1 hz2 rfl _ _ _ _ n (by rfl) (by rfl) rfl rfl (by omega) (by unfold maxLen; omega) ?_; intro w2 gL hgL hAL hB2))
            have hF0 : w.heap.size ≤ gF := by have := hb.size; have := hgF.out; omega
            have hFL : gF < gL := by have := hAF.lt; have := hgL.out; omega
            have hB : Below w.heap.size w w2 := (hb.trans (hB1.mono hb.size)).trans (hB2.mono (Nat.le_trans hb.size hB1.size))
            have hAF2 := hAF.keep hB2 hAF.lt
            clear hi hz0 hz1 hz2 hgF hgL hAF hB1 hB2 hb hk hlt
            go_loopw [21] (fun i wr => ∃ (k : Nat) (F L : List Int), k ≤ n ∧ i = .int .i64 k ∧ Arr wr gF 3 (ints F) ∧ Arr wr gL 3 (ints L) ∧ F.length = n ∧ L.length = n ∧ Negs F k ∧ Negs L k ∧ Below w.heap.size w wr) (fun i _ => n - (intOf i).toNat)
            case atStart => exact ⟨0, List.replicate n 0, List.replicate n 0, by omega, rfl, by simpa [ints] using hAF2, by simpa [ints] using hAL, by simp, by simp, Negs.zero _, Negs.zero _, hB⟩
            case round =>
              clear hAF2 hAL hB
              obtain ⟨k, F, L, hk, rfl, hAF, hAL, hF, hL, nF, nL, hb⟩ := hrel
              by_cases hlt : k < n
              · obtain ⟨mF, hmF⟩ := some_at (xs := F) (k := k) (by omega)
                obtain ⟨mL, hmL⟩ := some_at (xs := L) (k := k) (by omega)
                have cF := hAF.cell (ints_at hmF)
                have cL := hAL.cell (ints_at hmL)
                have fF := hAF.free k
                have fL := hAL.free k
                clear hmF hmL
                go_wp2
                go_roundw
                case rel => exact ⟨k + 1, F.set k (-1), L.set k (-1), by omega, by go_num, by rw [← ints_set]; exact (hAF.set k _).other (by simp; omega) _, by rw [← ints_set]; exact (hAL.other (by simp; omega) _).set k _, by simpa using hF, by simpa using hL, nF.next, nL.next, (hb.setCell (by simpa using hF0) _).setCell (by simp; omega) _⟩
                case measure => simp [intOf]; omega
              · have hkn : n = k := by omega
                subst hkn
                have pF0 : PosOf [] F := Negs.pos (by rw [hF]; exact nF)
                have pL0 : PosOf [] L := Negs.pos (by rw [hL]; exact nL)
                clear nF nL hk hlt
                go_wp2
                go_loopw [22] (fun i wr => ∃ (k : Nat) (F : List Int), k ≤ n1 ∧ i = .int .i64 k ∧ Arr wr gF 3 (ints F) ∧ Arr wr gL 3 (ints L) ∧ F.length = n ∧ PosOf (fTxn.take k) F ∧ Below w.heap.size w wr) (fun i _ => n1 - (intOf i).toNat)
                case atStart => exact ⟨0, F, by omega, rfl, hAF, hAL, hF, by simpa using pF0, hb⟩
                case round =>
                  clear hAF hAL hb pF0 hF
                  obtain ⟨k, F, hk, rfl, hAF, hAL, hF, pF, hb⟩ := hrel
                  by_cases hlt : k < n1
                  · obtain ⟨b, off, x, ha, hx, hc⟩ := (r2.keep hb).int (k := k) (by rw [← e2.out]; omega)
                    subst ha
                    have HX : Hid (fTxn[k]? = some x) := hx
                    clear hx
                    by_cases hx0 : x < 0
                    · go_wp2
                      go_ret
                      exact ⟨_, rfl, by simp, hb⟩
                    · by_cases hxn : (n : Int) ≤ x
                      · go_wp2
                        go_ret
                        exact ⟨_, rfl, by simp, hb⟩
                      · obtain ⟨t, rfl⟩ : ∃ t : Nat, x = t := ⟨x.toNat, by omega⟩
                        obtain ⟨m, hm⟩ := some_at (xs := F) (k := t) (by omega)
                        have cF := hAF.cell (ints_at hm)
                        have fF := hAF.free t
                        have HM : Hid (F[t]? = some m) := hm
                        clear hm
                        go_wp2
                        · go_ret
                          exact ⟨_, rfl, by simp, hb⟩
                        · have hm0 : m < 0 := by assumption
                          go_roundw
                          case rel => exact ⟨k + 1, F.set t k, by omega, by go_num, by rw [← ints_set]; exact hAF.set t _, hAL.other (by simp; omega) _, by simpa using hF, by have := pF.snoc HM.out hm0; rw [take_snoc HX.out]; simpa [show min k fTxn.length = k by have := e2.out; omega] using this, hb.setCell (by simpa using hF0) _⟩
                          case measure => simp [intOf]; omega
                  · have hkn : n1 = k := by omega
                    subst hkn
                    rw [take_all e2.out] at pF
                    clear hk hlt
                    go_wp2
                    go_loopw [24] (fun i wr => ∃ (k : Nat) (L : List Int), k ≤ n4 ∧ i = .int .i64 k ∧ Arr wr gF 3 (ints F) ∧ Arr wr gL 3 (ints L) ∧ L.length = n ∧ PosOf (lTxn.take k) L ∧ Below w.heap.size w wr) (fun i _ => n4 - (intOf i).toNat)
                    case atStart => exact ⟨0, L, by omega, rfl, hAF, hAL, hL, by simpa using pL0, hb⟩
                    case round =>
                      clear hAF hAL hb pL0 hL
                      obtain ⟨k, L, hk, rfl, hAF, hAL, hL, pL, hb⟩ := hrel
                      by_cases hlt : k < n4
                      · obtain ⟨b, off, x, ha, hx, hc⟩ := (r5.keep hb).int (k := k) (by rw [← e5.out]; omega)
                        subst ha
                        have HX : Hid (lTxn[k]? = some x) := hx
                        clear hx
                        by_cases hx0 : x < 0
                        · go_wp2
                          go_ret
                          exact ⟨_, rfl, by simp, hb⟩
                        · by_cases hxn : (n : Int) ≤ x
                          · go_wp2
                            go_ret
                            exact ⟨_, rfl, by simp, hb⟩
                          · obtain ⟨t, rfl⟩ : ∃ t : Nat, x = t := ⟨x.toNat, by omega⟩
                            obtain ⟨m, hm⟩ := some_at (xs := L) (k := t) (by omega)
                            have cL := hAL.cell (ints_at hm)
                            have fL := hAL.free t
                            have HM : Hid (L[t]? = some m) := hm
                            clear hm
                            go_wp2
                            · go_ret
                              exact ⟨_, rfl, by simp, hb⟩
                            · have hm0 : m < 0 := by assumption
                              go_roundw
                              case rel => exact ⟨k + 1, L.set t k, by omega, by go_num, hAF.other (by simp; omega) _, by rw [← ints_set]; exact hAL.set t _, by simpa using hL, by have := pL.snoc HM.out hm0; rw [take_snoc HX.out]; simpa [show min k lTxn.length = k by have := e5.out; omega] using this, hb.setCell (by simp; omega) _⟩
                              case measure => simp [intOf]; omega
                      · have hkn : n4 = k := by omega
                        subst hkn
                        rw [take_all e5.out] at pL
                        clear hk hlt
                        go_wp2
                        go_loopw [26] (fun i wr => ∃ (k : Nat), k ≤ n1 ∧ i = .int .i64 k ∧ Arr wr gF 3 (ints F) ∧ Arr wr gL 3 (ints L) ∧ Mates fTxn fMate L k ∧ Below w.heap.size w wr) (fun i _ => n1 - (intOf i).toNat)
                        case atStart => exact ⟨0, by omega, rfl, hAF, hAL, Mates.zero _ _ _, hb⟩
                        case round =>
                          clear hAF hAL hb
                          obtain ⟨k, hk, rfl, hAF, hAL, hM, hb⟩ := hrel
                          by_cases hlt : k < n1
                          · obtain ⟨b, off, x, ha, hx, hc⟩ := (r2.keep hb).int (k := k) (by rw [← e2.out]; omega)
                            subst ha
                            obtain ⟨b', off', y, ha, hy, hc'⟩ := (r3.keep hb).int (k := k) (by rw [← e3.out]; omega)
                            subst ha
                            have hx2 := pF.fwd k x hx
                            obtain ⟨t, rfl⟩ : ∃ t : Nat, x = t := ⟨x.toNat, by omega⟩
                            have ht : t < n := by omega
                            obtain ⟨m, hm⟩ := some_at (xs := L) (k := t) (by omega)
                            have cL := hAL.cell (ints_at hm)
                            have HX : Hid (fTxn[k]? = some (t : Int)) := hx
                            have HY : Hid (fMate[k]? = some y) := hy
                            have HM : Hid (L[t]? = some m) := hm
                            clear hm hx hy hx2
                            go_wp2
                            go_quiet (fail)
                            go_wp2
                            · go_ret
                              exact ⟨_, rfl, by simp, below_drewN hb _⟩
                            · have hym : (y != m) = false := by assumption
                              have hym' : y = m := by simpa using hym
                              go_roundw
                              case rel => exact ⟨k + 1, by omega, by go_num, hAF.draws _, hAL.draws _, hM.next HX.out HY.out (hym' ▸ HM.out), below_drewN hb _⟩
                              case measure => simp [intOf]; omega
                          · have hkn : n1 = k := by omega
                            subst hkn
                            have hW : Hid (Well fAt fTxn fMate lAt lTxn lMate n) := well_of hF hL (by rw [← e1.out, ← e2.out]) (by rw [← e1.out, ← e3.out]) (by rw [← e4.out, ← e5.out]) (by rw [← e4.out, ← e6.out]) U1.out U4.out pF pL (by rw [← e1.out]; exact hM)
                            clear hk hlt hM
                            go_wp2
                            go_loopw [27] (fun i wr => ∃ (k : Nat), k ≤ n4 ∧ i = .int .i64 k ∧ Arr wr gF 3 (ints F) ∧ Below w.heap.size w wr) (fun i _ => n4 - (intOf i).toNat)
                            case atStart => exact ⟨0, by omega, rfl, hAF, hb⟩
                            case round =>
                              clear hAF hAL hb
                              obtain ⟨k, hk, rfl, hAF, hb⟩ := hrel
                              by_cases hlt : k < n4
                              · obtain ⟨b, off, x, ha, hx, hc⟩ := (r5.keep hb).int (k := k) (by rw [← e5.out]; omega)
                                subst ha
                                obtain ⟨b', off', y, ha, hy, hc'⟩ := (r6.keep hb).int (k := k) (by rw [← e6.out]; omega)
                                subst ha
                                have hx2 := pL.fwd k x hx
                                obtain ⟨t, rfl⟩ : ∃ t : Nat, x = t := ⟨x.toNat, by omega⟩
                                have ht : t < n := by omega
                                obtain ⟨m, hm⟩ := some_at (xs := F) (k := t) (by omega)
                                have cF := hAF.cell (ints_at hm)
                                clear hm hx hy hx2
                                go_wp2
                                go_quiet (fail)
                                go_wp2
                                · go_ret
                                  exact ⟨_, rfl, by simp, below_drewN hb _⟩
                                · go_roundw
                                  case rel => exact ⟨k + 1, by omega, by go_num, hAF.draws _, below_drewN hb _⟩
                                  case measure => simp [intOf]; omega
                              · go_wp2
                                go_ret
                                exact ⟨_, rfl, fun _ => hW.out, hb⟩
  · go_wp2
    all_goals (go_ret; exact ⟨_, rfl, by simp, Below.refl _ _⟩)
end Go.Proofs.Qxb6615639a
