import Derived.Test.Qxb6615639aFacts
import Derived.Test.Qxb6615639aAdvPlain
import Derived.Test.Qxb6615639aRelease
import Derived.WalkKit
import Derived.Deep.QuietTactic
import Derived.BigQuiet
import Derived.Deep.LoopGhost
import Derived.Deep.CutBlock
import Derived.Deep.DeepCutAuto
namespace Go.Proofs.Qxb6615639a
set_option linter.unusedVariables false
set_option linter.unusedSimpArgs false
open Go.RowKit

set_option maxHeartbeats 400000 in
theorem at_any (k n1 n4 gb gs g1 g2 : Nat) (fAt fTxn fMate : List Int) (c1 c2 : List Value) (ap : Option Addr) (placed : List Bool) (w : World) (h : Env w gb gs g1 g2 n1 n4 c1 c2 ap placed) (hS : SlotsAt c1 fAt fTxn fMate n1)
    (e1 : Hid (n1 = fAt.length)) (e2 : Hid (n1 = fTxn.length)) (e3 : Hid (n1 = fMate.length)) :
    Calls Try.prog 14 #[.int .i64 k, .pointer (some ⟨gb, 0, none⟩)] w fun e w' => e = .returned (.int .i64 (atv fAt k)) ∧ w' = w := by
  have hb := h.b.cell (i := 0) rfl
  have hs := h.s.cell (i := 0) rfl
  by_cases hk : k < n1
  · obtain ⟨x, hx⟩ := some_at (xs := fAt) (k := k) (by rw [← e1.out]; exact hk)
    obtain ⟨y, hy⟩ := some_at (xs := fTxn) (k := k) (by rw [← e2.out]; exact hk)
    obtain ⟨z, hz⟩ := some_at (xs := fMate) (k := k) (by rw [← e3.out]; exact hk)
    have hc := h.a1.cell (hS k x y z hk hx hy hz).1
    rw [atv_lo hx]
    clear hx hy hz
    go_enter Try.func14, Try.ntmps14
    go_wp2
    go_ret
    exact ⟨rfl, rfl⟩
  · rw [atv_hi (by rw [← e1.out]; omega)]
    go_enter Try.func14, Try.ntmps14
    go_wp2
    go_ret
    exact ⟨rfl, rfl⟩

/-- What stands in every round of 'advance'. -/
structure Mem (w wr : World) (gf gr gb gs g1 g2 n1 n4 : Nat) (c1 c2 : List Value) (ap : Option Addr) (placed : List Bool) (f s c : Int) (rel : List Int) : Prop where
  env : Env wr gb gs g1 g2 n1 n4 c1 c2 ap placed
  front : Arr wr gf 40 [.int .i64 f, .int .i64 s, .int .i64 c]
  rel : Rel wr (gb + 1) gr rel
  kept : Kept gb (fun k => k = gf ∨ k = gr) w wr
  size : gb < wr.heap.size

/-- How the blocks lie. -/
structure Lie (gf gr gb gs g1 g2 : Nat) (ap : Option Addr) (placed : List Bool) : Prop where
  f : gf < gb
  r : gr < gb
  s : gs < gb
  l1 : g1 < gb
  l2 : g2 < gb
  fr : gf ≠ gr
  fs : gf ≠ gs
  f1 : gf ≠ g1
  f2 : gf ≠ g2
  rs : gr ≠ gs
  r1 : gr ≠ g1
  r2 : gr ≠ g2
  p : placed = [] ∨ Off ap gb (fun k => k = gf ∨ k = gr)

theorem Mem.draws {w wr : World} {gf gr gb gs g1 g2 n1 n4 : Nat} {c1 c2 : List Value} {ap : Option Addr} {placed : List Bool} {f s c : Int} {rel : List Int} (h : Mem w wr gf gr gb gs g1 g2 n1 n4 c1 c2 ap placed f s c rel) (n : Nat) : Mem w (wr.drewN n) gf gr gb gs g1 g2 n1 n4 c1 c2 ap placed f s c rel :=
  ⟨h.env.draws n, h.front.draws n, h.rel, h.kept.draws n, h.size⟩

theorem Mem.draw {w wr : World} {gf gr gb gs g1 g2 n1 n4 : Nat} {c1 c2 : List Value} {ap : Option Addr} {placed : List Bool} {f s c : Int} {rel : List Int} (h : Mem w wr gf gr gb gs g1 g2 n1 n4 c1 c2 ap placed f s c rel) : Mem w wr.drew gf gr gb gs g1 g2 n1 n4 c1 c2 ap placed f s c rel := h.draws 1

theorem Rel.kept {w w' : World} {base gr : Nat} {xs : List Int} (h : Rel w base gr xs) (hb : ∀ k, base ≤ k → k < w.heap.size → w'.heap[k]? = w.heap[k]?) (hr : w'.heap[gr]? = w.heap[gr]?) : Rel w' base gr xs := by
  obtain ⟨v, hA, hown⟩ := h
  refine ⟨v, ?_, ownsRow_at hown hb⟩
  unfold Arr
  rw [hr]
  exact hA

/-- A store into the front. -/
theorem Mem.store {w wr : World} {gf gr gb gs g1 g2 n1 n4 : Nat} {c1 c2 : List Value} {ap : Option Addr} {placed : List Bool} {f s c : Int} {rel : List Int} (h : Mem w wr gf gr gb gs g1 g2 n1 n4 c1 c2 ap placed f s c rel) (L : Lie gf gr gb gs g1 g2 ap placed)
    (i : Nat) (u : Value) {f' s' c' : Int} (he : [Value.int .i64 f, .int .i64 s, .int .i64 c].set i u = [.int .i64 f', .int .i64 s', .int .i64 c']) : Mem w (wr.setCell ⟨gf, i, none⟩ u) gf gr gb gs g1 g2 n1 n4 c1 c2 ap placed f' s' c' rel := by
  have hf := L.f
  refine ⟨h.env.kept (B := gb + 1) (p := fun k => k = gf) ((Kept.refl _ (fun k => k = gf) _).setCell (q := ⟨gf, i, none⟩) (.inl rfl) u) ⟨by omega, by omega⟩ ⟨by have := L.s; omega, fun e => L.fs e.symm⟩ ⟨by have := L.l1; omega, fun e => L.f1 e.symm⟩ ⟨by have := L.l2; omega, fun e => L.f2 e.symm⟩ ?_, ?_, ?_, h.kept.setCell (.inl (.inl rfl)) u, by simpa [World.setCell] using h.size⟩
  · rcases L.p with hp | hp
    · exact .inl hp
    · exact .inr (hp.mono (by omega) fun k _ e => .inl e)
  · rw [← he]; exact h.front.set i u
  · exact h.rel.kept (fun k hk _ => Below.heap_setCell _ _ _ _ (by simp; omega)) (Below.heap_setCell _ _ _ _ (fun e => L.fr e.symm))

/-- Behind a release. -/
theorem Mem.released {w wr w' : World} {gf gr gb gs g1 g2 n1 n4 : Nat} {c1 c2 : List Value} {ap : Option Addr} {placed : List Bool} {f s c : Int} {rel rel' : List Int} (h : Mem w wr gf gr gb gs g1 g2 n1 n4 c1 c2 ap placed f s c rel) (L : Lie gf gr gb gs g1 g2 ap placed)
    (hr : Rel w' (gb + 1) gr rel') (hk : Kept (gb + 1) (fun k => k = gr) wr w') : Mem w w' gf gr gb gs g1 g2 n1 n4 c1 c2 ap placed f s c rel' := by
  have hf := L.f
  refine ⟨h.env.kept hk ⟨by omega, by have := L.r; omega⟩ ⟨by have := L.s; omega, fun e => L.rs e.symm⟩ ⟨by have := L.l1; omega, fun e => L.r1 e.symm⟩ ⟨by have := L.l2; omega, fun e => L.r2 e.symm⟩ ?_, h.front.kept hk (by omega) L.fr, hr, h.kept.trans (hk.mono (by omega) fun k _ e => .inr e), Nat.lt_of_lt_of_le h.size hk.size⟩
  rcases L.p with hp | hp
  · exact .inl hp
  · exact .inr (hp.mono (by omega) fun k _ e => .inr e)

theorem rels_le (lTxn : List Int) (placed : List Bool) (a b : Nat) : (rels lTxn placed a b).length ≤ lTxn.length := by
  unfold rels
  refine Nat.le_trans (List.length_filter_le _ _) ?_
  simp
  omega

theorem Env.same {w w' : World} {gb gs g1 g2 n1 n4 : Nat} {c1 c2 : List Value} {ap : Option Addr} {placed : List Bool} (h : Env w gb gs g1 g2 n1 n4 c1 c2 ap placed) (hh : w'.heap = w.heap) : Env w' gb gs g1 g2 n1 n4 c1 c2 ap placed := by
  refine ⟨?_, ?_, ?_, ?_, ?_⟩
  · have := h.b; unfold Arr at this ⊢; rw [hh]; exact this
  · have := h.s; unfold Arr at this ⊢; rw [hh]; exact this
  · have := h.a1; unfold Arr at this ⊢; rw [hh]; exact this
  · have := h.a2; unfold Arr at this ⊢; rw [hh]; exact this
  · rcases h.p with h' | ⟨b, off, ha, hlt, hc⟩
    · exact .inl h'
    · refine .inr ⟨b, off, ha, by rw [hh]; exact hlt, fun i u hu => ?_⟩
      rw [World.cell?_of_block (w := w) (by rw [hh])]
      exact hc i u hu

/-- The same memory. -/
theorem Mem.like {w wr wr' : World} {gf gr gb gs g1 g2 n1 n4 : Nat} {c1 c2 : List Value} {ap : Option Addr} {placed : List Bool} {f s c : Int} {rel : List Int} (h : Mem w wr gf gr gb gs g1 g2 n1 n4 c1 c2 ap placed f s c rel)
    (hh : wr'.heap = wr.heap ∧ wr'.os = wr.os ∧ wr'.tape = wr.tape ∧ wr'.output = wr.output) : Mem w wr' gf gr gb gs g1 g2 n1 n4 c1 c2 ap placed f s c rel := by
  obtain ⟨h1, h2, h3, h4⟩ := hh
  refine ⟨h.env.same h1, ?_, h.rel.kept (fun k _ _ => by rw [h1]) (by rw [h1]), h.kept.trans ⟨h2, h3, h4, by rw [h1]; exact Nat.le_refl _, fun k _ _ => by rw [h1]⟩, by rw [h1]; exact h.size⟩
  have := h.front
  unfold Arr at this ⊢
  rw [h1]
  exact this

theorem set1_eq {a b c : Value} {v v' : Int} (h : v = v') : [a, b, c].set 1 (.int .i64 v) = [a, .int .i64 v', c] := by rw [h]; rfl

set_option maxRecDepth 100000 in
set_option maxHeartbeats 1000000 in
theorem advance_any (fAt fTxn fMate lAt lTxn lMate : List Int) (placed : List Bool) (n n1 n4 : Nat) (first : Nat) (second : Int) (cleared : Nat) (gf gr gb gs g1 g2 : Nat) (c1 c2 : List Value) (ap : Option Addr) (cp : Nat) (w : World)
    (hW : Well fAt fTxn fMate lAt lTxn lMate n) (e1 : Hid (n1 = fAt.length)) (e4 : Hid (n4 = lAt.length)) (en : Hid (n = placed.length)) (l1 : n1 ≤ 1000000) (l4 : n4 ≤ 1000000) (ln : n ≤ 1000000)
    (hf : first ≤ n1) (hs : second ≤ n1 + 1) (hs' : -9223372036854775808 ≤ second) (hc : (cleared : Int) ≤ 9223372036854775807)
    (hS1 : SlotsAt c1 fAt fTxn fMate n1) (hS2 : SlotsAt c2 lAt lTxn lMate n4)
    (L : Lie gf gr gb gs g1 g2 ap placed) (hgb : w.heap.size = gb)
    (hF : Arr w gf 40 [.int .i64 first, .int .i64 second, .int .i64 cleared]) (hR : Arr w gr 22 [.slice none 0 0])
    (hs0 : Arr w gs 35 [.slice (some ⟨g1, 0, none⟩) n1 n1, .slice (some ⟨g2, 0, none⟩) n4 n4]) (ha1 : Arr w g1 37 c1) (ha2 : Arr w g2 37 c2) (hp : Row w ap (bools placed)) :
    Calls Try.prog 12 #[.pointer (some ⟨gf, 0, none⟩), .pointer (some ⟨gs, 0, none⟩), .slice ap n cp, .func (.func 13) #[] #[.pointer (some ⟨gr, 0, none⟩)]] w
      fun e w' => e = .returned (.tuple #[]) ∧ ∃ f s c rel, Adv fAt fTxn fMate lAt lTxn placed first second cleared f s c rel ∧ Arr w' gf 40 [.int .i64 (f : Nat), .int .i64 (s : Nat), .int .i64 (c : Nat)] ∧ Rel w' (gb + 1) gr rel ∧ Kept gb (fun k => k = gf ∨ k = gr) w w' := by
  have HL : Hid (Lie gf gr gb gs g1 g2 ap placed) := L
  have M0 : Mem w (w.alloc (.cells #[.pointer (some ⟨gs, 0, none⟩)] 32)) gf gr gb gs g1 g2 n1 n4 c1 c2 ap placed first second cleared [] :=
    ⟨⟨by unfold Arr; rw [← hgb]; exact heap_alloc_new _ _, hs0.alloc _, ha1.alloc _, ha2.alloc _, hp.keep ((Below.refl _ _).alloc (Nat.le_refl _) _)⟩, hF.alloc _, ⟨_, hR.alloc _, World.ownsRow_nil _ _ _ _⟩, (Kept.refl _ _ _).alloc (by omega) _, by simp; omega⟩
  clear L hF hR hs0 ha1 ha2 hp
  go_enter Try.func12, Try.ntmps12
  go_upto_block 0 with fail
  go_cut [] (fun wc => ∃ f : Nat, first ≤ f ∧ f ≤ n1 ∧ Skips fTxn placed first f ∧ Stops fTxn placed f ∧ Mem w wc gf gr gb gs g1 g2 n1 n4 c1 c2 ap placed f second cleared [])
  case first =>
    go_wp2_with fail
    go_loopg [] (n1 - first) (fun gk wr => ∃ f : Nat, gk = n1 - f ∧ first ≤ f ∧ f ≤ n1 ∧ Skips fTxn placed first f ∧ Mem w wr gf gr gb gs g1 g2 n1 n4 c1 c2 ap placed f second cleared [])
    case atStart => exact ⟨first, rfl, Nat.le_refl _, hf, Skips.nil _ _ _, M0⟩
    case round =>
      clear M0 hgb
      obtain ⟨f, hgk, hf1, hf2, hsk, M⟩ := hrel
      have HGK : Hid (gk = n1 - f) := hgk
      clear hgk
      have cb := M.env.b.cell (i := 0) rfl
      have cs0 := M.env.s.cell (i := 0) rfl
      have cf := M.front.cell (i := 0) rfl
      have ff := M.front.free 0
      by_cases hlt : f < n1
      · have hltI : (f : Int) < (n1 : Int) := by omega
        obtain ⟨x, hx⟩ := some_at (xs := fAt) (k := f) (by rw [← e1.out]; exact hlt)
        obtain ⟨y, hy⟩ := some_at (xs := fTxn) (k := f) (by rw [hW.lf1, ← e1.out]; exact hlt)
        obtain ⟨z, hz⟩ := some_at (xs := fMate) (k := f) (by rw [hW.lf2, ← e1.out]; exact hlt)
        have hr := hW.rngF f y hy
        obtain ⟨t, rfl⟩ : ∃ t : Nat, y = t := ⟨y.toNat, by omega⟩
        have htI : (t : Int) < (n : Int) := hr.2
        have hc1 := M.env.a1.cell (hS1 f x t z hlt hx hy hz).2.1
        obtain ⟨bp, op, pb, hap, hpb, hcp⟩ := M.env.p.bool (k := t) (by rw [← en.out]; omega)
        subst hap
        have HY : Hid (fTxn[f]? = some (t : Int)) := hy
        have HP : Hid (placed[t]? = some pb) := hpb
        clear hx hy hz hpb hr
        go_wp2
        go_quiet (fail)
        go_wp2_with fail
        · have hpb : pb = true := by assumption
          go_roundg (n1 - (f + 1))
          case measure => rw [HGK.out]; omega
          case rel => exact ⟨f + 1, rfl, by omega, by omega, hsk.next HY.out (by rw [pl_at HP.out]; exact hpb), (M.draws _).store HL.out 0 _ rfl⟩
        · go_meet
          case rel => exact ⟨f, hf1, hf2, hsk, Stops.of HY.out (by rw [pl_at HP.out]; assumption), M.draws _⟩
      · have hd : decide ((f : Int) < (n1 : Int)) = false := decide_eq_false (by omega)
        go_wp2
        go_quiet (fail)
        go_wp2_with fail
        go_meet
        case rel => exact ⟨f, hf1, hf2, hsk, Stops.past (by rw [hW.lf1, ← e1.out]; omega), M.draws _⟩
  case rest =>
    clear M0 hgb
    obtain ⟨f, hf1, hf2, hsk, hst, M⟩ := hcut
    have cf0 := M.front.cell (i := 0) rfl
    have cf1 := M.front.cell (i := 1) rfl
    have ff1 := M.front.free 1
    obtain ⟨s0, hs0⟩ : ∃ s0, s0 = max second.toNat (f + 1) := ⟨_, rfl⟩
    have hs0f : f + 1 ≤ s0 := by omega
    have hs0n : s0 ≤ n1 + 1 := by omega
    have HS0 : Hid (s0 = max second.toNat (f + 1)) := hs0
    clear hs0
    go_upto_region 3 with fail
    go_cut [] (fun wc => Mem w wc gf gr gb gs g1 g2 n1 n4 c1 c2 ap placed f (s0 : Int) cleared [])
    case first =>
      go_region
      go_wp2_with fail
      all_goals
        go_meet
        case rel => exact (M.store HL.out 1 _ (set1_eq (by have := HS0.out; omega))).draw
    clear cf0 cf1 ff1 M
    have M1 := hcut
    clear hcut
    go_upto_block 2 with fail
    go_cut [] (fun wc => ∃ s : Nat, s0 ≤ s ∧ (s ≤ s0 ∨ s ≤ n1) ∧ Skips fTxn placed s0 s ∧ Stops fTxn placed s ∧ Mem w wc gf gr gb gs g1 g2 n1 n4 c1 c2 ap placed f s cleared [])
    case first =>
      go_wp2_with fail
      go_loopg [] (n1 + 1 - s0) (fun gk wr => ∃ s : Nat, gk = n1 + 1 - s ∧ s0 ≤ s ∧ (s ≤ s0 ∨ s ≤ n1) ∧ Skips fTxn placed s0 s ∧ Mem w wr gf gr gb gs g1 g2 n1 n4 c1 c2 ap placed f s cleared [])
      case atStart => exact ⟨s0, rfl, Nat.le_refl _, .inl (Nat.le_refl _), Skips.nil _ _ _, M1⟩
      case round =>
        clear M1
        obtain ⟨s, hgk, hs1, hs2, hsk2, M⟩ := hrel
        have HGK : Hid (gk = n1 + 1 - s) := hgk
        clear hgk
        have cb := M.env.b.cell (i := 0) rfl
        have cs0 := M.env.s.cell (i := 0) rfl
        have cf := M.front.cell (i := 1) rfl
        have ff := M.front.free 1
        by_cases hlt : s < n1
        · have hltI : (s : Int) < (n1 : Int) := by omega
          obtain ⟨x, hx⟩ := some_at (xs := fAt) (k := s) (by rw [← e1.out]; exact hlt)
          obtain ⟨y, hy⟩ := some_at (xs := fTxn) (k := s) (by rw [hW.lf1, ← e1.out]; exact hlt)
          obtain ⟨z, hz⟩ := some_at (xs := fMate) (k := s) (by rw [hW.lf2, ← e1.out]; exact hlt)
          have hr := hW.rngF s y hy
          obtain ⟨t, rfl⟩ : ∃ t : Nat, y = t := ⟨y.toNat, by omega⟩
          have htI : (t : Int) < (n : Int) := hr.2
          have hc1 := M.env.a1.cell (hS1 s x t z hlt hx hy hz).2.1
          obtain ⟨bp, op, pb, hap, hpb, hcp⟩ := M.env.p.bool (k := t) (by rw [← en.out]; omega)
          subst hap
          have HY : Hid (fTxn[s]? = some (t : Int)) := hy
          have HP : Hid (placed[t]? = some pb) := hpb
          clear hx hy hz hpb hr
          go_wp2
          go_quiet (fail)
          go_wp2_with fail
          · have hpb : pb = true := by assumption
            go_roundg (n1 + 1 - (s + 1))
            case measure => rw [HGK.out]; omega
            case rel => exact ⟨s + 1, rfl, by omega, by omega, hsk2.next HY.out (by rw [pl_at HP.out]; exact hpb), (M.draws _).store HL.out 1 _ rfl⟩
          · go_meet
            case rel => exact ⟨s, hs1, hs2, hsk2, Stops.of HY.out (by rw [pl_at HP.out]; assumption), M.draws _⟩
        · have hd : decide ((s : Int) < (n1 : Int)) = false := decide_eq_false (by omega)
          go_wp2
          go_quiet (fail)
          go_wp2_with fail
          go_meet
          case rel => exact ⟨s, hs1, hs2, hsk2, Stops.past (by rw [hW.lf1, ← e1.out]; omega), M.draws _⟩
    case rest =>
      clear M1
      obtain ⟨s, hs1, hs2, hsk2, hst2, M⟩ := hcut
      go_upto_block 4 with fail
      go_cut [] (fun wc => ∃ (c : Nat), cleared ≤ c ∧ (c ≤ cleared ∨ c ≤ n4) ∧ Clears lAt (atv fAt f) cleared c ∧ (∀ x, lAt[c]? = some x → atv fAt f < x) ∧ Mem w wc gf gr gb gs g1 g2 n1 n4 c1 c2 ap placed f s c (rels lTxn placed cleared c))
      case first =>
        go_wp2_with fail
        go_loopg [] (n4 - cleared) (fun gk wr => ∃ c : Nat, gk = n4 - c ∧ cleared ≤ c ∧ (c ≤ cleared ∨ c ≤ n4) ∧ Clears lAt (atv fAt f) cleared c ∧ Mem w wr gf gr gb gs g1 g2 n1 n4 c1 c2 ap placed f s c (rels lTxn placed cleared c))
        case atStart => exact ⟨cleared, rfl, Nat.le_refl _, .inl (Nat.le_refl _), Clears.nil _ _ _, by rw [rels_nil]; exact M⟩
        case round =>
          clear M
          obtain ⟨c, hgk, hc1, hc2, hcl, M⟩ := hrel
          have HGK : Hid (gk = n4 - c) := hgk
          clear hgk
          have cb := M.env.b.cell (i := 0) rfl
          have cs1 := M.env.s.cell (i := 1) rfl
          have cf0 := M.front.cell (i := 0) rfl
          have cf := M.front.cell (i := 2) rfl
          have ff := M.front.free 2
          by_cases hlt : c < n4
          · have hltI : (c : Int) < (n4 : Int) := by omega
            obtain ⟨x, hx⟩ := some_at (xs := lAt) (k := c) (by rw [← e4.out]; exact hlt)
            obtain ⟨y, hy⟩ := some_at (xs := lTxn) (k := c) (by rw [hW.ll1, ← e4.out]; exact hlt)
            obtain ⟨z, hz⟩ := some_at (xs := lMate) (k := c) (by rw [hW.ll2, ← e4.out]; exact hlt)
            have hr := hW.rngL c y hy
            obtain ⟨t, rfl⟩ : ∃ t : Nat, y = t := ⟨y.toNat, by omega⟩
            have htI : (t : Int) < (n : Int) := hr.2
            have hca := M.env.a2.cell (hS2 c x t z hlt hx hy hz).1
            have hct := M.env.a2.cell (hS2 c x t z hlt hx hy hz).2.1
            obtain ⟨bp, op, pb, hap, hpb, hcp⟩ := M.env.p.bool (k := t) (by rw [← en.out]; omega)
            subst hap
            have HX : Hid (lAt[c]? = some x) := hx
            have HY : Hid (lTxn[c]? = some (t : Int)) := hy
            have HP : Hid (placed[t]? = some pb) := hpb
            clear hx hy hz hpb hr
            go_wp2
            go_quiet ((go_at_call 14; exact Calls.quiet_of_same (at_any f n1 n4 gb gs g1 g2 fAt fTxn fMate c1 c2 _ placed _ (M.env.draws _) hS1 e1 (by rw [e1.out]; exact hW.lf1.symm) (by rw [e1.out]; exact hW.lf2.symm))))
            go_wp2_with fail
            · have hxv : x ≤ atv fAt f := by assumption
              have hle := rels_le lTxn placed cleared c
              have hl4 : (rels lTxn placed cleared c).length ≤ 1000000 := by have := hW.ll1; have := e4.out; omega
              have hgr := HL.out.r
              clear hle
              go_quiet (fail)
              go_wp2_with fail
              · have hpb' : (!pb) = true := by assumption
                have hpb : pb = false := by simpa using hpb'
                refine (release_any (t : Int) (gb + 1) gr (rels lTxn placed cleared c) _ (by exact (M.draws _).rel) (by omega) (by exact (M.draws _).size) hl4).mono ?_
                rintro e w' ⟨rfl, hR, hK⟩
                have M2 := (M.draws _).released HL.out hR hK
                have cf2 := M2.front.cell (i := 2) rfl
                have ff2 := M2.front.free 2
                clear hR hK
                go_wp2_with fail
                go_roundg (n4 - (c + 1))
                case measure => rw [HGK.out]; omega
                case rel => exact ⟨c + 1, rfl, by omega, by omega, hcl.next HX.out hxv, by rw [rels_next hc1 HY.out, pl_at HP.out, hpb]; exact M2.store HL.out 2 _ rfl⟩
              · have hpb' : (!pb) = false := by assumption
                have hpb : pb = true := by simpa using hpb'
                go_roundg (n4 - (c + 1))
                case measure => rw [HGK.out]; omega
                case rel => exact ⟨c + 1, rfl, by omega, by omega, hcl.next HX.out hxv, by rw [rels_next hc1 HY.out, pl_at HP.out, hpb]; simpa using (M.draws _).store HL.out 2 _ rfl⟩
            · have hxv : atv fAt f < x := by assumption
              go_meet
              case rel => exact ⟨c, hc1, hc2, hcl, fun x' hx' => by rw [HX.out] at hx'; cases hx'; exact hxv, M.draws _⟩
          · have hd : decide ((c : Int) < (n4 : Int)) = false := decide_eq_false (by omega)
            go_wp2
            go_quiet (fail)
            go_wp2_with fail
            go_meet
            case rel => exact ⟨c, hc1, hc2, hcl, fun x hx => by have := at_lt hx; have := e4.out; omega, M.draws _⟩
      case rest =>
        clear M
        obtain ⟨c, hc1, hc2, hcl, hcs, M⟩ := hcut
        have cb := M.env.b.cell (i := 0) rfl
        have cs0 := M.env.s.cell (i := 0) rfl
        have cs1 := M.env.s.cell (i := 1) rfl
        have cf0 := M.front.cell (i := 0) rfl
        have cf1 := M.front.cell (i := 1) rfl
        have cf2 := M.front.cell (i := 2) rfl
        have fin : Hid (∀ ex, Extra fAt fMate lAt lTxn f s c ex → Adv fAt fTxn fMate lAt lTxn placed first second cleared f s c (rels lTxn placed cleared c ++ ex)) := fun ex hex =>
          { f1 := hf1, f2 := by rw [← e1.out]; exact hf2, f3 := hsk, f4 := hst, s1 := by rw [← HS0.out]; exact hs1, s2 := by rw [← HS0.out, ← e1.out]; exact hs2, s3 := by rw [← HS0.out]; exact hsk2, s4 := hst2,
            c1 := hc1, c2 := by rw [← e4.out]; exact hc2, c3 := hcl, c4 := hcs, r := ⟨ex, rfl, hex⟩ }
        clear hcs hcl hsk2 hst2 hsk hst
        by_cases hlt : f < n1
        · have hne : ((f : Int) == (n1 : Int)) = false := by simp; omega
          have hltI : (f : Int) < (n1 : Int) := by omega
          obtain ⟨x, hx⟩ := some_at (xs := fAt) (k := f) (by rw [← e1.out]; exact hlt)
          obtain ⟨y, hy⟩ := some_at (xs := fTxn) (k := f) (by rw [hW.lf1, ← e1.out]; exact hlt)
          obtain ⟨z, hz⟩ := some_at (xs := fMate) (k := f) (by rw [hW.lf2, ← e1.out]; exact hlt)
          have hcm := M.env.a1.cell (hS1 f x y z hlt hx hy hz).2.2
          have hmate := hW.mate f y z hy hz
          have HZ : Hid (fMate[f]? = some z) := hz
          clear hx hy hz
          by_cases hzc : z < (c : Int)
          · clear hmate
            have hd : decide ((c : Int) ≤ z) = false := decide_eq_false (by omega)
            go_wp2_with fail
            go_quiet (fail)
            go_wp2_with fail
            go_quiet (fail)
            go_wp2_with fail
            go_quiet (fail)
            go_wp2_with fail
            go_end0
            refine ⟨rfl, f, s, c, _, fin.out [] (.inr ⟨z, HZ.out, .inl ⟨rfl, .inl hzc⟩⟩), (M.like (by exact ⟨rfl, rfl, rfl, rfl⟩)).front, ?_, (M.like (by exact ⟨rfl, rfl, rfl, rfl⟩)).kept⟩
            rw [List.append_nil]
            exact (M.like (by exact ⟨rfl, rfl, rfl, rfl⟩)).rel
          · obtain ⟨q, rfl, hq⟩ : ∃ q : Nat, z = q ∧ lTxn[q]? = some y := by
              rcases hmate with ⟨h, _⟩ | h
              · omega
              · exact h
            clear hmate
            have hq4 : q < n4 := by have := at_lt hq; have := hW.ll1; have := e4.out; omega
            have hq4I : (q : Int) < (n4 : Int) := by omega
            have hcq : c ≤ q := by omega
            have hcqI : (c : Int) ≤ (q : Int) := by omega
            obtain ⟨x', hx'⟩ := some_at (xs := lAt) (k := q) (by rw [← e4.out]; exact hq4)
            obtain ⟨z', hz'⟩ := some_at (xs := lMate) (k := q) (by rw [hW.ll2, ← e4.out]; exact hq4)
            have hca := M.env.a2.cell (hS2 q x' y z' hq4 hx' hq hz').1
            have hct := M.env.a2.cell (hS2 q x' y z' hq4 hx' hq hz').2.1
            have HX : Hid (lAt[q]? = some x') := hx'
            have HY : Hid (lTxn[q]? = some y) := hq
            have hle := rels_le lTxn placed cleared c
            have hl4 : (rels lTxn placed cleared c).length ≤ 1000000 := by have := hW.ll1; have := e4.out; omega
            have hgr := HL.out.r
            clear hx' hz' hq hle hzc
            go_wp2_with fail
            go_quiet (fail)
            go_wp2_with fail
            go_quiet (fail)
            go_wp2_with fail
            go_quiet ((go_at_call 14; refine (at_any s n1 n4 gb gs g1 g2 fAt fTxn fMate c1 c2 ap placed _ (M.env.draws _) hS1 e1 (by rw [e1.out]; exact hW.lf1.symm) (by rw [e1.out]; exact hW.lf2.symm)).mono ?_; rintro e w' ⟨rfl, rfl⟩; exact ⟨rfl, _, rfl⟩))
            go_wp2_with fail
            · have hxv : x' ≤ atv fAt s := by assumption
              refine (release_any y (gb + 1) gr (rels lTxn placed cleared c) _ (by exact (M.like (by exact ⟨rfl, rfl, rfl, rfl⟩)).rel) (by omega) (by exact (M.like (by exact ⟨rfl, rfl, rfl, rfl⟩)).size) hl4).mono ?_
              rintro e w' ⟨rfl, hR, hK⟩
              have M2 := (M.like (by exact ⟨rfl, rfl, rfl, rfl⟩)).released HL.out hR hK
              clear hR hK
              go_wp2_with fail
              go_end0
              exact ⟨rfl, f, s, c, _, fin.out [y] (.inr ⟨q, HZ.out, .inr ⟨q, x', y, rfl, hcq, HX.out, hxv, HY.out, rfl⟩⟩), M2.front, M2.rel, M2.kept⟩
            · have hxv : atv fAt s < x' := by assumption
              go_end0
              refine ⟨rfl, f, s, c, _, fin.out [] (.inr ⟨q, HZ.out, .inl ⟨rfl, .inr ⟨q, x', rfl, HX.out, hxv⟩⟩⟩), (M.like (by exact ⟨rfl, rfl, rfl, rfl⟩)).front, ?_, (M.like (by exact ⟨rfl, rfl, rfl, rfl⟩)).kept⟩
              rw [List.append_nil]
              exact (M.like (by exact ⟨rfl, rfl, rfl, rfl⟩)).rel
        · have hne : ((f : Int) == (n1 : Int)) = true := by simp; omega
          go_wp2_with fail
          go_quiet (fail)
          go_wp2_with fail
          refine bodyPost_ret (results_none rfl _ _ _) rfl ?_
          refine ⟨rfl, f, s, c, _, fin.out [] (.inl ⟨by rw [← e1.out]; omega, rfl⟩), (M.draws _).front, ?_, (M.draws _).kept⟩
          rw [List.append_nil]
          exact (M.draws _).rel
end Go.Proofs.Qxb6615639a
