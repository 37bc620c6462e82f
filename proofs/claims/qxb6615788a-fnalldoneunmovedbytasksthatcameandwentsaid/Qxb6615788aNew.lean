import Derived.Test.Qxb6615788aCount
namespace Go.Proofs.Qxb6615788a
set_option linter.unusedVariables false
set_option linter.unusedSimpArgs false
open Go.RowKit

/-- A proc whose counts read x (spawned) and y (done), from block B on. -/
def ProcAt (w : World) (B : Nat) (q : Value) (x y : Int) : Prop := ∃ b, q = .pointer (some ⟨b, 0, none⟩) ∧ B ≤ b ∧ w.cell? ⟨b, 653, none⟩ = some (.int .u64 x) ∧ w.cell? ⟨b, 651, none⟩ = some (.int .u64 y)
theorem ProcAt.keep {w w' : World} {B : Nat} {q : Value} {x y : Int} (h : ProcAt w B q x y) (hb : Below w.heap.size w w') : ProcAt w' B q x y := by
  obtain ⟨b, e, hB, h1, h2⟩ := h
  exact ⟨b, e, hB, by rw [hb.cell (p := ⟨b, 653, none⟩) (lt_of_cell h1)]; exact h1, by rw [hb.cell (p := ⟨b, 651, none⟩) (lt_of_cell h2)]; exact h2⟩
theorem ProcAt.setCell {w : World} {B : Nat} {q : Value} {x y : Int} (h : ProcAt w B q x y) {p : Addr} (hp : p.block < B) (u : Value) : ProcAt (w.setCell p u) B q x y := by
  obtain ⟨b, e, hB, h1, h2⟩ := h
  refine ⟨b, e, hB, ?_, ?_⟩
  · rw [World.cell?_of_block (w := w) (Below.heap_setCell _ _ _ _ (by show b ≠ p.block; omega))]; exact h1
  · rw [World.cell?_of_block (w := w) (Below.heap_setCell _ _ _ _ (by show b ≠ p.block; omega))]; exact h2

/-- A scheduler of these counts. -/
def Sched (w : World) (p : Value) (h : Int) (xs ys : List Int) (n : Nat) : Prop :=
  ∃ s g ps, p = .pointer (some ⟨s, 0, none⟩) ∧ w.cell? ⟨s, 0, none⟩ = some (.slice (some ⟨g, 0, none⟩) n n) ∧ w.cell? ⟨s, 1, none⟩ = some (.int .u64 h) ∧ Row w (some ⟨g, 0, none⟩) ps ∧ ps.length = n ∧
    ∀ (i : Nat) q x y, ps[i]? = some q → xs[i]? = some x → ys[i]? = some y → ProcAt w 0 q x y

/-- What ZZnewCountedScheduler leaves. -/
def NewPost (h : Int) (xs ys : List Int) (n : Nat) (w : World) (e : Ending) (w' : World) : Prop := ∃ p, e = .returned p ∧ Sched w' p h xs ys n ∧ Below w.heap.size w w'

theorem wpList_op_build {w : World} {ops : Array Oper} {rest : List Oper} {o : Oper} {a : Act} {Q : Exit → Act → World → Prop} (hgd : o.guard = none) (t : TypeId) (x : Operand) (hop : o.op = Op.build t #[(0, x)])
    (v r : Value) (hx : a.eval x = v) (hrun : (Instr.build t #[(0, v)]).run Try.prog w = .ok r w) (hK : wpList Try.prog ops Q rest (a.put o.dst r) w) : wpList Try.prog ops Q (o :: rest) a w := by
  refine wpList_plain hgd fun K hK' => ?_
  unfold Oper.wp
  simp only [execOp, hop]
  simp [hx, hrun, Result.andThen]
  exact hK' _ _ hK

theorem wpList_op_box {w : World} {ops : Array Oper} {rest : List Oper} {o : Oper} {a : Act} {Q : Exit → Act → World → Prop} (hgd : o.guard = none) (t : TypeId) (x : Operand) (hop : o.op = Op.box t x)
    (v : Value) (cs : List Value) (hx : a.eval x = v) (hrun : (Instr.box t v).run Try.prog w = .ok (.pointer (some ⟨w.heap.size, 0, none⟩)) (w.alloc (.cells cs.toArray t)))
    (hK : ∀ w' g, Hid (g = w.heap.size) → Arr w' g t cs → Below w.heap.size w w' → wpList Try.prog ops Q rest (a.put o.dst (.pointer (some ⟨g, 0, none⟩))) w') : wpList Try.prog ops Q (o :: rest) a w := by
  refine wpList_plain hgd fun K hK' => ?_
  unfold Oper.wp
  simp only [execOp, hop]
  simp [hx, hrun, Result.andThen]
  exact hK' _ _ (hK _ w.heap.size rfl (heap_alloc_new _ _) ((Below.refl _ _).alloc (Nat.le_refl _) _))

theorem below_drew (w : World) : Below w.heap.size w w.drew := ⟨rfl, rfl, rfl, Nat.le_refl _, fun _ _ => rfl⟩

set_option maxRecDepth 100000 in
set_option maxHeartbeats 1000000 in
theorem new_any (h : Int) (a1 a2 : Option Addr) (c1 c2 n : Nat) (xs ys : List Int) (w : World) (ex : Hid (n = xs.length)) (ey : Hid (n = ys.length)) (ln : n ≤ 65536)
    (r1 : Row w a1 (u64s xs)) (r2 : Row w a2 (u64s ys)) :
    Calls Try.prog 8 #[.int .u64 h, .slice a1 n c1, .slice a2 n c2] w (NewPost h xs ys n w) := by
  obtain ⟨sc, ⟨z1, hz1'⟩, hsb, hsx⟩ := sched_made
  obtain ⟨pc, ⟨z2, hz2'⟩, ⟨z3, hz3'⟩, hpb, hpx⟩ := proc_made
  have HZ1 : Hid (sc[0]? = some z1) := hz1'
  have HZ2 : Hid (pc[650]? = some z2) := hz2'
  have HZ3 : Hid (pc[652]? = some z3) := hz3'
  have HSB : Hid (∀ (a : Option Addr) (n c : Nat) (w : World), (Instr.build 85 #[(0, .slice a n c)]).run Try.prog w = .ok (.agg (.slice a n c :: sc).toArray) w) := hsb
  have HSX : Hid (∀ (a : Option Addr) (n c : Nat) (w : World), (Instr.box 85 (.agg (.slice a n c :: sc).toArray)).run Try.prog w = .ok (.pointer (some ⟨w.heap.size, 0, none⟩)) (w.alloc (.cells (.slice a n c :: sc).toArray 85))) := hsx
  have HPB : Hid (∀ (i : Int) (w : World), (Instr.build 98 #[(0, .int .i64 i)]).run Try.prog w = .ok (.agg (.int .i64 i :: pc).toArray) w) := hpb
  have HPX : Hid (∀ (i : Int) (w : World), (Instr.box 98 (.agg (.int .i64 i :: pc).toArray)).run Try.prog w = .ok (.pointer (some ⟨w.heap.size, 0, none⟩)) (w.alloc (.cells (.int .i64 i :: pc).toArray 98))) := hpx
  clear hz1' hz2' hz3' hsb hsx hpb hpx
  obtain ⟨i0, hi, hz0, hz1, hz2⟩ := info_parts Try.info87
  go_enter Try.func8, Try.ntmps8
  go_wp2_with (first
    | (at_make; refine wpList_make_arr _ rfl _ _ 32 rfl 87 i0 (.pointer none) 8 Try.underlying32 hi hz0 hz1 hz2 rfl _ _ _ _ n (by rfl) (by rfl) rfl rfl (by omega) (by unfold maxLen; omega) ?_; intro w1 g hg hA hB1)
    | (refine wpList_op_build rfl 85 (.tmp 12) (by rfl) (.slice (some ⟨g, 0, none⟩) n n) _ (by rfl) (HSB.out _ _ _ _) ?_)
    | (refine wpList_op_box rfl 85 (.tmp 13) (by rfl) _ _ (by rfl) (HSX.out _ _ _ _) ?_; intro w2 s hs hS hB2))
  clear hi hz0 hz1 hz2
  have hglt := hA.lt
  have hgw : w.heap.size ≤ g := by have := hg.out; omega
  have hgs : g < s := by have := hs.out; omega
  have hA2 := hA.keep hB2 hglt
  have hB02 : Below w.heap.size w w2 := hB1.trans (hB2.mono hB1.size)
  clear hg hs hA hB1 hB2 hglt
  refine (store_any s 1 h z1 w2 (hS.cell (i := 1) HZ1.out) (hS.free 1)).mono ?_
  rintro e w3 ⟨rfl, hw3⟩
  obtain ⟨S, hSe⟩ : ∃ S, S = (Value.slice (some ⟨g, 0, none⟩) n n :: sc).set 1 (.int .u64 h) := ⟨_, rfl⟩
  have hS3 : Arr w3 s 85 S := by rw [hw3, hSe]; exact hS.set 1 _
  have hA3 : Arr w3 g 87 (List.replicate n (.pointer none)) := by rw [hw3]; exact hA2.other (by show g ≠ s; omega) _
  have hB3 : Below w.heap.size w w3 := by rw [hw3]; exact hB02.setCell (by show w.heap.size ≤ s; omega) _
  have S0 : Hid (S[0]? = some (.slice (some ⟨g, 0, none⟩) n n)) := by show _ = _; rw [hSe]; rfl
  have S1 : Hid (S[1]? = some (.int .u64 h)) := by
    show _ = _
    rw [hSe]
    have := at_lt HZ1.out
    simp [this]
  clear hSe hw3 hS hA2 hB02
  have c3 := hS3.cell S0.out
  go_wp2_with fail
  clear c3
  go_loopg [25] n (fun gk iv wr => ∃ (i : Nat) (ps : List Value), gk = n - i ∧ i ≤ n ∧ iv = .int .i64 i ∧ ps.length = n ∧ (∀ (j : Nat) q x y, j < i → ps[j]? = some q → xs[j]? = some x → ys[j]? = some y → ProcAt wr (s + 1) q x y) ∧ Arr wr g 87 ps ∧ Arr wr s 85 S ∧ Below w.heap.size w wr)
  case atStart => exact ⟨0, List.replicate n (.pointer none), by omega, by omega, rfl, by simp, fun j q x y h => by omega, hA3, hS3, hB3⟩
  case round =>
    clear hA3 hS3 hB3
    obtain ⟨i, ps, hgk, hi, rfl, hpl, hps, hA, hS, hB⟩ := hrel
    have HGK : Hid (gk = n - i) := hgk
    have HPS : Hid (∀ (j : Nat) q x y, j < i → ps[j]? = some q → xs[j]? = some x → ys[j]? = some y → ProcAt wr (s + 1) q x y) := hps
    clear hgk hps
    by_cases hlt : i < n
    · have hslt := hS.lt
      obtain ⟨b1, o1, x, ha1, hx, hcx⟩ := (r1.keep hB).u64 (k := i) (by rw [← ex.out]; exact hlt)
      obtain ⟨b2, o2, y, ha2, hy, hcy⟩ := (r2.keep hB).u64 (k := i) (by rw [← ey.out]; exact hlt)
      subst ha1 ha2
      have HX : Hid (xs[i]? = some x) := hx
      have HY : Hid (ys[i]? = some y) := hy
      have hb1 := lt_of_cell hcx
      have hb2 := lt_of_cell hcy
      clear hx hy
      go_wp2_with (first
        | (refine wpList_op_build rfl 98 (.tmp 28) (by rfl) (.int .i64 i) _ (by rfl) (HPB.out _ _) ?_)
        | (refine wpList_op_box rfl 98 (.tmp 29) (by rfl) _ _ (by rfl) (HPX.out _ _) ?_; intro w4 q hq hQ hB4))
      have hqw : wr.heap.size = q := by have := hq.out; omega
      have hcx4 : w4.cell? ⟨b1, o1 + i, none⟩ = some (.int .u64 x) := by rw [hB4.cell (p := ⟨b1, o1 + i, none⟩) hb1]; exact hcx
      clear hq
      go_region_with (go_at_call 11; refine (store_any q 653 x z3 w4.drew (hQ.draw.cell (i := 653) (by exact HZ3.out)) (hQ.draw.free 653)).mono ?_; rintro e w5 ⟨rfl, hw5⟩; have HW5 : Hid (w5 = w4.drew.setCell ⟨q, 653, none⟩ (.int .u64 x)) := hw5; clear hw5)
      all_goals
        have hw5 := HW5.out
        obtain ⟨Q5, hQe⟩ : ∃ Q5, Q5 = (Value.int .i64 i :: pc).set 653 (.int .u64 x) := ⟨_, rfl⟩
        have hQ5 : Arr w5 q 98 Q5 := by rw [hw5, hQe]; exact hQ.draw.set 653 _
        have hB5 : Below wr.heap.size wr w5 := by rw [hw5]; exact (hB4.trans ((below_drew w4).mono hB4.size)).setCell (by show wr.heap.size ≤ q; omega) _
        have hcy5 : w5.cell? ⟨b2, o2 + i, none⟩ = some (.int .u64 y) := by rw [hB5.cell (p := ⟨b2, o2 + i, none⟩) hb2]; exact hcy
        have HQ653 : Hid (Q5[653]? = some (.int .u64 x)) := by show _ = _; rw [hQe]; have := at_lt HZ3.out; simp [this]
        have HQ651 : Hid (Q5[651]? = some z2) := by show _ = _; rw [hQe, List.getElem?_set_ne (by omega)]; exact HZ2.out
        clear hw5 HW5 hQe hQ hcx4 hB4
        go_wp2_with fail
        go_region_with (go_at_call 11; refine (store_any q 651 y z2 w5.drew (hQ5.draw.cell (i := 651) HQ651.out) (hQ5.draw.free 651)).mono ?_; rintro e w6 ⟨rfl, hw6⟩; have HW6 : Hid (w6 = w5.drew.setCell ⟨q, 651, none⟩ (.int .u64 y)) := hw6; clear hw6)
        all_goals
          have hw6 := HW6.out
          have hQ6 : Arr w6 q 98 (Q5.set 651 (.int .u64 y)) := by rw [hw6]; exact hQ5.draw.set 651 _
          have hB6 : Below wr.heap.size wr w6 := by rw [hw6]; exact (hB5.trans ((below_drew w5).mono hB5.size)).setCell (by show wr.heap.size ≤ q; omega) _
          have hnew : ProcAt w6 (s + 1) (.pointer (some ⟨q, 0, none⟩)) x y := ⟨q, rfl, by omega, hQ6.cell (i := 653) (by rw [List.getElem?_set_ne (by omega)]; exact HQ653.out), hQ6.cell (i := 651) (by have := at_lt HQ651.out; simp [this])⟩
          have hA6 := hA.keep hB6 (by omega)
          have hS6 := hS.keep hB6 hslt
          obtain ⟨m0, hm0⟩ := some_at (xs := ps) (k := i) (by omega)
          have cg := hA6.cell hm0
          have fg := hA6.free i
          have cs := hS6.cell S0.out
          clear hw6 HW6 hQ5 hcy5 hB5 hm0
          go_wp2_with fail
          go_roundg (n - (i + 1))
          case measure => rw [HGK.out]; omega
          case rel =>
            refine ⟨i + 1, ps.set i (.pointer (some ⟨q, 0, none⟩)), rfl, by omega, by go_num, by simpa using hpl, fun j q' x' y' h1 h2 h3 h4 => ?_, hA6.set i _, hS6.other (by show s ≠ g; omega) _, (hB.trans (hB6.mono hB.size)).setCell (by simpa using hgw) _⟩
            rw [List.getElem?_set] at h2
            split at h2
            · rename_i e
              subst e
              split at h2
              · cases h2
                rw [HX.out] at h3
                rw [HY.out] at h4
                cases h3
                cases h4
                exact hnew.setCell (by show g < s + 1; omega) _
              · cases h2
            · exact ((HPS.out j q' x' y' (by omega) h2 h3 h4).keep hB6).setCell (by show g < s + 1; omega) _
    · have hin : n = i := by omega
      subst hin
      go_wp2_with fail
      go_ret
      exact ⟨_, rfl, ⟨s, g, ps, rfl, hS.cell S0.out, hS.cell S1.out, hA.row, hpl, fun j q x y h1 h2 h3 => by obtain ⟨b, e, _, h4⟩ := HPS.out j q x y (by have := at_lt h1; omega) h1 h2 h3; exact ⟨b, e, Nat.zero_le _, h4⟩⟩, hB⟩
end Go.Proofs.Qxb6615788a
