import Derived.Test.Qxb6615788aDone
import Derived.Laws.CopyOwn
namespace Go.Proofs.Qxb6615788a
set_option linter.unusedVariables false
set_option linter.unusedSimpArgs false
open Go.RowKit

theorem Try.size22 : (Try.prog.info? 22).map (·.size) = some 1 := by kernel_rfl
theorem u64s_one (xs : List Int) : ∀ v ∈ u64s xs, v.oneCell' = true := by
  intro u hu
  obtain ⟨_, _, rfl⟩ := List.mem_map.1 hu
  rfl

theorem splice_all {α : Type} (L cs : List α) (h : L.length = cs.length) : splice L 0 cs = cs := by
  simp [splice, ← h]

/-- 'copy(dst, src)', dst a block of the call's own, as long as src. -/
theorem wpList_copy_arr {P : Program} {w : World} {ops : Array Oper} {rest : List Oper} {o : Oper} {a : Act} {Q : Exit → Act → World → Prop} (hgd : o.guard = none) (d s : Operand) (t : TypeId)
    (ho : o.op = .call { callee := .builtin .copy, args := #[d, s], argTypes := #[t, t] }) (elem : TypeId) (hu : P.underlying t = some (.slice elem)) (hsz : (P.info? elem).map (·.size) = some 1)
    (g : Nat) (sa : Option Addr) (n c1 c2 : Nat) (hd : a.eval d = .slice (some ⟨g, 0, none⟩) n c1) (hs : a.eval s = .slice sa n c2)
    (old cs : List Value) (hA : Arr w g elem old) (hn : old.length = n) (hcs : cs.length = n) (hr : Row w sa cs) (h1 : ∀ v ∈ cs, v.oneCell' = true) (B : Nat) (hB : B ≤ g)
    (h : ∀ w', Arr w' g elem cs → Below B w w' → wpList P ops Q rest (a.put o.dst (goInt n)) w') :
    wpList P ops Q (o :: rest) a w := by
  refine wpList_copy_splice hgd d s t t ho elem hu hsz _ _ n c1 n c2 hd hs g 0 old elem hA cs (by rw [hcs]; simp) ?_ (by omega) h1 B w (Below.refl _ _) hB ?_
  · intro hpos
    refine ⟨rfl, ?_⟩
    rcases hr with hr | ⟨b, off, ha, _, hc⟩
    · subst hr; simp at hpos
    · exact ⟨_, ha, fun j v hv => by rw [Addr.add_lit]; exact hc j v hv⟩
  · intro w' hw hb
    rw [hcs]
    refine h w' ?_ hb
    have := hw.out
    rw [splice_all _ _ (by omega)] at this
    exact this

/-! ### A long body, cut into groups of statements -/
/-- What is left behind the first k statements. -/
def tlN : Nat → Code → Code
  | 0, c => c
  | k + 1, .seq _ b => tlN k b
  | _ + 1, c => c
/-- The first m statements, and then 'r'. -/
def grp : Nat → Code → Code → Code
  | 0, _, r => r
  | m + 1, .seq a b, r => .seq a (grp m b r)
  | _ + 1, _, r => r

/-- A frame, slot by slot. -/
theorem frame_of (a : Act) {n : Nat} (hs : a.tmps.size = n) (hd : a.defers = []) : a = ⟨((List.range n).map fun i => a.tmps.getD i undef).toArray, []⟩ := by
  obtain ⟨t, d⟩ := a
  simp only at hs hd
  subst hd
  congr 1
  apply Array.ext
  · simp [hs]
  · intro i h1 h2
    simp [h1]

/-- What the body of the law comes to. -/
def Q4 (w0 : World) : Exit → Act → World → Prop := bodyPost Try.prog Try.f4 (fun e w' => e = .returned (.bool true) ∧ Below w0.heap.size w0 w')

set_option maxRecDepth 100000 in
theorem frame4 (a : Act) (hs : a.tmps.size = 168) (hd : a.defers = []) : ∃ u : Nat → Value, (∀ i, a.tmps.getD i undef = u i) ∧ a = ⟨#[u 0, u 1, u 2, u 3, u 4, u 5, u 6, u 7, u 8, u 9, u 10, u 11, u 12, u 13, u 14, u 15, u 16, u 17, u 18, u 19, u 20, u 21, u 22, u 23, u 24, u 25, u 26, u 27, u 28, u 29, u 30, u 31, u 32, u 33, u 34, u 35, u 36, u 37, u 38, u 39, u 40, u 41, u 42, u 43, u 44, u 45, u 46, u 47, u 48, u 49, u 50, u 51, u 52, u 53, u 54, u 55, u 56, u 57, u 58, u 59, u 60, u 61, u 62, u 63, u 64, u 65, u 66, u 67, u 68, u 69, u 70, u 71, u 72, u 73, u 74, u 75, u 76, u 77, u 78, u 79, u 80, u 81, u 82, u 83, u 84, u 85, u 86, u 87, u 88, u 89, u 90, u 91, u 92, u 93, u 94, u 95, u 96, u 97, u 98, u 99, u 100, u 101, u 102, u 103, u 104, u 105, u 106, u 107, u 108, u 109, u 110, u 111, u 112, u 113, u 114, u 115, u 116, u 117, u 118, u 119, u 120, u 121, u 122, u 123, u 124, u 125, u 126, u 127, u 128, u 129, u 130, u 131, u 132, u 133, u 134, u 135, u 136, u 137, u 138, u 139, u 140, u 141, u 142, u 143, u 144, u 145, u 146, u 147, u 148, u 149, u 150, u 151, u 152, u 153, u 154, u 155, u 156, u 157, u 158, u 159, u 160, u 161, u 162, u 163, u 164, u 165, u 166, u 167], []⟩ :=
  ⟨fun i => a.tmps.getD i undef, fun _ => rfl, (frame_of a hs hd).trans rfl⟩

/-- A slice at hand. -/
def Has (w : World) (v : Value) (n : Nat) (xs : List Int) : Prop := ∃ a c, v = .slice a n c ∧ Row w a (u64s xs)
theorem Has.keep {w w' : World} {v : Value} {n : Nat} {xs : List Int} (h : Has w v n xs) (hb : Below w.heap.size w w') : Has w' v n xs := by
  obtain ⟨a, c, e, r⟩ := h
  exact ⟨a, c, e, r.keep hb⟩

/-- What holds of the input. -/
structure Dom (h k : Int) (i j n : Nat) (xs ys : List Int) : Prop where
  ex : n = xs.length
  ey : n = ys.length
  ln : n ≤ 65536
  hi : i < n
  hj : j < n
  h0 : 0 ≤ h
  h1 : h ≤ 18446744073709551615
  k0 : 0 ≤ k
  k1 : k ≤ 18446744073709551615
  fx : Fits xs
  fy : Fits ys

/-- The input, as it stands in the frame. -/
structure Inv (w0 wx : World) (a : Act) (h k : Int) (i j n : Nat) (xs ys : List Int) : Prop where
  sz : a.tmps.size = 168
  df : a.defers = []
  s0 : a.tmps.getD 0 undef = .int .u64 h
  s1 : Has wx (a.tmps.getD 1 undef) n xs
  s2 : Has wx (a.tmps.getD 2 undef) n ys
  s3 : a.tmps.getD 3 undef = .int .i64 i
  s4 : a.tmps.getD 4 undef = .int .i64 j
  s5 : a.tmps.getD 5 undef = .int .u64 k
  b : Below w0.heap.size w0 wx

set_option maxRecDepth 100000 in
set_option maxHeartbeats 1000000 in
theorem head4 (w : World) (a : Act) (h k i0 j0 : Int) (a1 a2 : Option Addr) (c1 c2 n1 n2 : Nat) (xs ys : List Int) (ex : Hid (n1 = xs.length)) (ey : Hid (n2 = ys.length)) (r1 : Row w a1 (u64s xs)) (r2 : Row w a2 (u64s ys)) (fx : Hid (Fits xs)) (fy : Hid (Fits ys))
    (h0 : 0 ≤ h) (h1 : h ≤ 18446744073709551615) (k0 : 0 ≤ k) (k1 : k ≤ 18446744073709551615) (sz : a.tmps.size = 168) (df : a.defers = [])
    (s0 : a.tmps.getD 0 undef = .int .u64 h) (s1 : a.tmps.getD 1 undef = .slice a1 n1 c1) (s2 : a.tmps.getD 2 undef = .slice a2 n2 c2) (s3 : a.tmps.getD 3 undef = .int .i64 i0) (s4 : a.tmps.getD 4 undef = .int .i64 j0) (s5 : a.tmps.getD 5 undef = .int .u64 k)
    (rest : Code) (hrest : ∀ (i j n : Nat) a' w', Dom h k i j n xs ys → Inv w w' a' h k i j n xs ys → rest.wp Try.prog (Q4 w) a' w') : (grp 4 (tlN 0 (Try.f4.body.getD .skip)) rest).wp Try.prog (Q4 w) a w := by
  obtain ⟨u, hu, ha⟩ := frame4 a sz df
  simp only [hu] at s0 s1 s2 s3 s4 s5
  subst ha
  clear hu sz df
  rw [s0, s1, s2, s3, s4, s5]
  clear s0 s1 s2 s3 s4 s5
  conv => arg 2; whnf
  simp only [grp]
  go_wp2_with fail
  refine (bytes_any _ _ _ _ _ _ _ _ _ _ _).mono ?_
  rintro e w' ⟨b, rfl, hw⟩
  have hw := hw.symm
  subst hw
  cases b
  · go_wp2_with fail
    unfold Q4
    go_ret
    exact ⟨rfl, Below.refl _ _⟩
  by_cases l1 : n1 ≤ 65536
  · by_cases l2 : n2 ≤ 65536
    · by_cases en : n1 = n2
      · subst en
        by_cases hi0 : 0 ≤ i0
        · obtain ⟨i, rfl⟩ : ∃ i : Nat, i0 = i := ⟨i0.toNat, by omega⟩
          by_cases hi1 : i < n1
          · by_cases hj0 : 0 ≤ j0
            · obtain ⟨j, rfl⟩ : ∃ j : Nat, j0 = j := ⟨j0.toNat, by omega⟩
              by_cases hj1 : j < n1
              · go_wp2_with fail
                exact hrest i j n1 _ _ ⟨ex.out, ey.out, l1, hi1, hj1, h0, h1, k0, k1, fx.out, fy.out⟩ ⟨rfl, rfl, rfl, ⟨_, _, rfl, r1⟩, ⟨_, _, rfl, r2⟩, rfl, rfl, rfl, Below.refl _ _⟩
              · go_wp2_with fail
                unfold Q4
                go_ret
                exact ⟨rfl, Below.refl _ _⟩
            · go_wp2_with fail
              unfold Q4
              go_ret
              exact ⟨rfl, Below.refl _ _⟩
          · go_wp2_with fail
            unfold Q4
            go_ret
            exact ⟨rfl, Below.refl _ _⟩
        · go_wp2_with fail
          unfold Q4
          go_ret
          exact ⟨rfl, Below.refl _ _⟩
      · go_wp2_with fail
        unfold Q4
        go_ret
        exact ⟨rfl, Below.refl _ _⟩
    · go_wp2_with fail
      unfold Q4
      go_ret
      exact ⟨rfl, Below.refl _ _⟩
  · go_wp2_with fail
    unfold Q4
    go_ret
    exact ⟨rfl, Below.refl _ _⟩

set_option maxRecDepth 100000 in
set_option maxHeartbeats 1000000 in
theorem dup1 (w0 w : World) (a : Act) (h k : Int) (i j n : Nat) (xs ys : List Int) (D : Dom h k i j n xs ys) (I : Inv w0 w a h k i j n xs ys)
    (rest : Code) (hrest : ∀ a' w', Inv w0 w' a' h k i j n xs ys → rest.wp Try.prog (Q4 w0) a' w') : (grp 1 (tlN 4 (Try.f4.body.getD .skip)) rest).wp Try.prog (Q4 w0) a w := by
  obtain ⟨sz, df, s0, ⟨x, c, e1, R⟩, s2, s3, s4, s5, hB⟩ := I
  obtain ⟨u, hu, ha⟩ := frame4 a sz df
  simp only [hu] at s0 e1 s2 s3 s4 s5
  subst ha
  clear hu sz df
  rw [s0, e1, s3, s4, s5]
  clear s0 e1 s3 s4 s5
  have HL : Hid ((u64s xs).length = n) := by rw [u64s_length]; exact D.ex.symm
  have ln := D.ln
  clear D
  have hnil := fun (W : World) (a : Option Addr) (m c m' c' : Nat) => run_neq_slice_nil_any (P := Try.prog) W 23 22 a m c m' c' Try.underlying23
  obtain ⟨i0, hi, hz0, hz1, hz2⟩ := info_parts Try.info22
  conv => arg 2; whnf
  simp only [grp]
  cases x with
  | none =>
    go_wp2_with fail
    exact hrest _ _ ⟨rfl, rfl, rfl, ⟨none, c, rfl, R⟩, s2, rfl, rfl, rfl, hB⟩
  | some x =>
    go_wp2_with (first | (at_make; refine wpList_make_arr _ rfl _ _ 23 rfl 22 i0 (.int .u64 0) 8 Try.underlying23 hi hz0 hz1 hz2 rfl _ _ _ _ n (by rfl) (by rfl) rfl rfl (by omega) (by unfold maxLen; omega) ?_; intro wm g hg hA hBm) | (refine wpList_copy_arr rfl (.tmp 78) (.tmp 79) 23 rfl 22 Try.underlying23 Try.size22 g (some x) n n c (by rfl) (by rfl) _ (u64s xs) hA (by simp) HL.out (R.keep hBm) (u64s_one _) w.heap.size (by have := hg.out; omega) ?_; intro wn hAn hBn))
    have hK := hBm.trans hBn
    exact hrest _ _ ⟨rfl, rfl, rfl, ⟨_, _, rfl, hAn.row⟩, s2.keep hK, rfl, rfl, rfl, hB.trans (hK.mono hB.size)⟩

set_option maxRecDepth 100000 in
set_option maxHeartbeats 1000000 in
theorem dup2 (w0 w : World) (a : Act) (h k : Int) (i j n : Nat) (xs ys : List Int) (D : Dom h k i j n xs ys) (I : Inv w0 w a h k i j n xs ys)
    (rest : Code) (hrest : ∀ a' w', Inv w0 w' a' h k i j n xs ys → rest.wp Try.prog (Q4 w0) a' w') : (grp 1 (tlN 5 (Try.f4.body.getD .skip)) rest).wp Try.prog (Q4 w0) a w := by
  obtain ⟨sz, df, s0, s1, ⟨x, c, e1, R⟩, s3, s4, s5, hB⟩ := I
  obtain ⟨u, hu, ha⟩ := frame4 a sz df
  simp only [hu] at s0 e1 s1 s3 s4 s5
  subst ha
  clear hu sz df
  rw [s0, e1, s3, s4, s5]
  clear s0 e1 s3 s4 s5
  have HL : Hid ((u64s ys).length = n) := by rw [u64s_length]; exact D.ey.symm
  have ln := D.ln
  clear D
  have hnil := fun (W : World) (a : Option Addr) (m c m' c' : Nat) => run_neq_slice_nil_any (P := Try.prog) W 23 22 a m c m' c' Try.underlying23
  obtain ⟨i0, hi, hz0, hz1, hz2⟩ := info_parts Try.info22
  conv => arg 2; whnf
  simp only [grp]
  cases x with
  | none =>
    go_wp2_with fail
    exact hrest _ _ ⟨rfl, rfl, rfl, s1, ⟨none, c, rfl, R⟩, rfl, rfl, rfl, hB⟩
  | some x =>
    go_wp2_with (first | (at_make; refine wpList_make_arr _ rfl _ _ 23 rfl 22 i0 (.int .u64 0) 8 Try.underlying23 hi hz0 hz1 hz2 rfl _ _ _ _ n (by rfl) (by rfl) rfl rfl (by omega) (by unfold maxLen; omega) ?_; intro wm g hg hA hBm) | (refine wpList_copy_arr rfl (.tmp 87) (.tmp 88) 23 rfl 22 Try.underlying23 Try.size22 g (some x) n n c (by rfl) (by rfl) _ (u64s ys) hA (by simp) HL.out (R.keep hBm) (u64s_one _) w.heap.size (by have := hg.out; omega) ?_; intro wn hAn hBn))
    have hK := hBm.trans hBn
    exact hrest _ _ ⟨rfl, rfl, rfl, s1.keep hK, ⟨_, _, rfl, hAn.row⟩, rfl, rfl, rfl, hB.trans (hK.mono hB.size)⟩
end Go.Proofs.Qxb6615788a
