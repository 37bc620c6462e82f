import Derived.Test.Qxb6615639aAdv
import Derived.RegionTactic
import Derived.BigRegion
namespace Go.Proofs.Qxb6615639a
set_option linter.unusedVariables false
set_option linter.unusedSimpArgs false
open Go.RowKit

def zslots (n : Nat) : List Value := List.replicate (n * 3) (.int .i64 0)

theorem made_three (n : Nat) : (madeCells #[Value.int .i64 0, .int .i64 0, .int .i64 0] (n * 3)).toList = zslots n := by
  apply List.ext_getElem
  · simp [madeCells, zslots]
  · intro i h1 h2
    simp only [zslots, List.getElem_replicate, madeCells, Array.getElem_toList, Array.getElem_map, Array.getElem_range]
    have : i % 3 < 3 := Nat.mod_lt _ (by omega)
    have h : i % 3 = 0 ∨ i % 3 = 1 ∨ i % 3 = 2 := by omega
    rcases h with h | h | h <;> simp [h]

theorem make_slots (n : Nat) (hn : n ≤ 1000000) (w : World) : (Instr.makeSlice 33 (.int .i64 n) (.int .i64 n)).run Try.prog w = .ok (.slice (some ⟨w.heap.size, 0, none⟩) n n) (w.alloc (.cells (zslots n).toArray 37)) := by
  obtain ⟨i0, hi, hz0, hz1, hz2⟩ := info_parts Try.info37
  have h := run_make (P := Try.prog) (w := w) 33 37 i0 _ Try.underlying33 hi hz0 .i64 .i64 n n (by omega) (by omega) (by rw [hz2]; omega) (by omega)
  rw [h, hz1]
  have e := made_three n
  simp only [Int.toNat_natCast]
  rw [← e]
  rfl

/-- The memory of 'ZZadvance' while it fills its span. -/
structure Zst (w wc : World) (gr g1 g2 gs n1 n4 : Nat) (c1 c2 : List Value) : Prop where
  r : Arr wc gr 22 [.slice none 0 0]
  s : Arr wc gs 35 [.slice (some ⟨g1, 0, none⟩) n1 n1, .slice (some ⟨g2, 0, none⟩) n4 n4]
  a1 : Arr wc g1 37 c1
  a2 : Arr wc g2 37 c2
  b : Below gr w wc
  o1 : gr < g1
  o2 : gr < g2
  o3 : g1 ≠ g2
  o4 : g1 < gs
  o5 : g2 < gs

theorem arr_new (w : World) (cs : List Value) (t : TypeId) {g : Nat} (hg : g = w.heap.size) : Arr (w.alloc (.cells cs.toArray t)) g t cs := by
  subst hg; exact heap_alloc_new _ _

theorem zst_made {w : World} {gr : Nat} (hgr : w.heap.size = gr) (za zb : List Value) (x : Value) (y : Value) :
    let W := ((((w.alloc (.cells #[.slice none 0 0] 22)).alloc (.cells za.toArray 37)).alloc (.cells zb.toArray 37)).alloc (.cells #[x, y] 35)).drew
    Arr W gr 22 [.slice none 0 0] ∧ Arr W (gr + 1) 37 za ∧ Arr W (gr + 1 + 1) 37 zb ∧ Arr W (gr + 1 + 1 + 1) 35 [x, y] ∧ Below gr w W := by
  intro W
  have h0 := arr_new w [.slice none 0 0] 22 (g := gr) hgr.symm
  have h1 := arr_new (w.alloc (.cells [Value.slice none 0 0].toArray 22)) za 37 (g := gr + 1) (by simp [hgr])
  have h2 := arr_new ((w.alloc (.cells [Value.slice none 0 0].toArray 22)).alloc (.cells za.toArray 37)) zb 37 (g := gr + 1 + 1) (by simp [hgr])
  have h3 := arr_new (((w.alloc (.cells [Value.slice none 0 0].toArray 22)).alloc (.cells za.toArray 37)).alloc (.cells zb.toArray 37)) [x, y] 35 (g := gr + 1 + 1 + 1) (by simp [hgr])
  exact ⟨((h0.alloc _).alloc _).alloc _, (h1.alloc _).alloc _, h2.alloc _, h3, (((((Below.refl _ _).alloc (Nat.le_of_eq hgr.symm) _).alloc (by rw [World.size_alloc]; omega) _).alloc (by simp only [World.size_alloc]; omega) _).alloc (by simp only [World.size_alloc]; omega) _).drew⟩

theorem Zst.set1 {w wc : World} {gr g1 g2 gs n1 n4 : Nat} {c1 c2 : List Value} (h : Zst w wc gr g1 g2 gs n1 n4 c1 c2) (i : Nat) (u : Value) : Zst w (wc.setCell ⟨g1, i, none⟩ u) gr g1 g2 gs n1 n4 (c1.set i u) c2 := by
  have := h.o1; have := h.o2; have := h.o3; have := h.o4; have := h.o5
  exact ⟨h.r.other (by simp; omega) _, h.s.other (by simp; omega) _, h.a1.set i u, h.a2.other (by simp; omega) _, h.b.setCell (by simp; omega) _, h.o1, h.o2, h.o3, h.o4, h.o5⟩
theorem Zst.set2 {w wc : World} {gr g1 g2 gs n1 n4 : Nat} {c1 c2 : List Value} (h : Zst w wc gr g1 g2 gs n1 n4 c1 c2) (i : Nat) (u : Value) : Zst w (wc.setCell ⟨g2, i, none⟩ u) gr g1 g2 gs n1 n4 c1 (c2.set i u) := by
  have := h.o1; have := h.o2; have := h.o3; have := h.o4; have := h.o5
  exact ⟨h.r.other (by simp; omega) _, h.s.other (by simp; omega) _, h.a1.other (by simp; omega) _, h.a2.set i u, h.b.setCell (by simp; omega) _, h.o1, h.o2, h.o3, h.o4, h.o5⟩

theorem SlotsAt.next {d : List Value} {a t m : List Int} {k : Nat} (h : SlotsAt d a t m k) {x y z : Int} (hx : a[k]? = some x) (hy : t[k]? = some y) (hz : m[k]? = some z) (hl : k * 3 + 2 < d.length) :
    SlotsAt (((d.set (k * 3) (.int .i64 x)).set (k * 3 + 1) (.int .i64 y)).set (k * 3 + 2) (.int .i64 z)) a t m (k + 1) := by
  intro j x' y' z' hj h1 h2 h3
  by_cases e : j = k
  · subst e
    rw [hx] at h1; rw [hy] at h2; rw [hz] at h3
    cases h1; cases h2; cases h3
    refine ⟨?_, ?_, ?_⟩
    · rw [List.getElem?_set_ne (by omega), List.getElem?_set_ne (by omega), List.getElem?_set_self (by omega)]
    · rw [List.getElem?_set_ne (by omega), List.getElem?_set_self (by simp; omega)]
    · rw [List.getElem?_set_self (by simp; omega)]
  · obtain ⟨i1, i2, i3⟩ := h j x' y' z' (by omega) h1 h2 h3
    refine ⟨?_, ?_, ?_⟩
    · rw [List.getElem?_set_ne (by omega), List.getElem?_set_ne (by omega), List.getElem?_set_ne (by omega)]; exact i1
    · rw [List.getElem?_set_ne (by omega), List.getElem?_set_ne (by omega), List.getElem?_set_ne (by omega)]; exact i2
    · rw [List.getElem?_set_ne (by omega), List.getElem?_set_ne (by omega), List.getElem?_set_ne (by omega)]; exact i3

theorem Rel.view {w : World} {base gr : Nat} {xs : List Int} (h : Rel w base gr xs) (hg : gr < base) :
    ∃ a cap, Arr w gr 22 [.slice a xs.length cap] ∧ Row w a (ints xs) ∧ ∀ b off, a = some ⟨b, off, none⟩ → base ≤ b := by
  obtain ⟨v, hA, hown⟩ := h
  rcases hown.2 with ⟨rfl, h0⟩ | ⟨g, cap, cur, rfl, hb, hh, _, _, _, ht⟩
  · have e : xs = [] := List.eq_nil_of_length_eq_zero h0
    subst e
    exact ⟨none, 0, hA, .inl rfl, fun b off h => by cases h⟩
  · refine ⟨some ⟨g, 0, none⟩, cap, hA, .inr ⟨g, 0, rfl, lt_of_block hh, fun i u hu => ?_⟩, fun b off h => by cases h; omega⟩
    have hi := at_lt hu
    rw [ints_length] at hi
    rw [Nat.zero_add, hown.cellAt i (by omega)]
    exact hu

theorem Row.setCell {w : World} {a : Option Addr} {cs : List Value} (h : Row w a cs) {q : Addr} (hq : ∀ b off, a = some ⟨b, off, none⟩ → b ≠ q.block) (u : Value) : Row (w.setCell q u) a cs := by
  rcases h with h | ⟨b, off, ha, hlt, hc⟩
  · exact .inl h
  · refine .inr ⟨b, off, ha, by simpa [World.setCell] using hlt, fun i v hv => ?_⟩
    rw [World.cell?_of_block (w := w) (Below.heap_setCell _ _ _ _ (hq b off ha))]
    exact hc i v hv

theorem lie_of {w : World} {gr gf gs g1 g2 : Nat} {ap : Option Addr} {placed : List Bool} (hgr : w.heap.size = gr) (h1 : gr < g1) (h2 : gr < g2) (h3 : g1 < gs) (h4 : g2 < gs) (h5 : gs < gf) (rp : Row w ap (bools placed)) : Lie gf gr (gf + 1) gs g1 g2 ap placed where
  f := by omega
  r := by omega
  s := by omega
  l1 := by omega
  l2 := by omega
  fr := by omega
  fs := by omega
  f1 := by omega
  f2 := by omega
  rs := by omega
  r1 := by omega
  r2 := by omega
  p := by
    rcases rp with h | ⟨b, off, ha, hlt, _⟩
    · exact .inl (by simpa [bools] using h)
    · refine .inr fun b' off' h' => ?_
      rw [ha] at h'
      cases h'
      exact ⟨by omega, by omega⟩

theorem Zst.like {w wc wc' : World} {gr g1 g2 gs n1 n4 : Nat} {c1 c2 : List Value} (h : Zst w wc gr g1 g2 gs n1 n4 c1 c2) (hh : wc'.heap = wc.heap ∧ wc'.os = wc.os ∧ wc'.tape = wc.tape ∧ wc'.output = wc.output) : Zst w wc' gr g1 g2 gs n1 n4 c1 c2 := by
  obtain ⟨h1, h2, h3, h4⟩ := hh
  refine ⟨?_, ?_, ?_, ?_, h.b.trans ⟨h2, h3, h4, by rw [h1]; exact Nat.le_refl _, fun k _ => by rw [h1]⟩, h.o1, h.o2, h.o3, h.o4, h.o5⟩
  · have := h.r; unfold Arr at this ⊢; rw [h1]; exact this
  · have := h.s; unfold Arr at this ⊢; rw [h1]; exact this
  · have := h.a1; unfold Arr at this ⊢; rw [h1]; exact this
  · have := h.a2; unfold Arr at this ⊢; rw [h1]; exact this

set_option maxRecDepth 100000 in
set_option maxHeartbeats 1000000 in
theorem zz_any (fAt fTxn fMate lAt lTxn lMate : List Int) (placed : List Bool) (n n1 n4 : Nat) (first : Nat) (second : Int) (cleared : Nat) (a1 a2 a3 a4 a5 a6 ap : Option Addr) (c1 c2 c3 c4 c5 c6 cp : Nat) (w : World)
    (hW : Well fAt fTxn fMate lAt lTxn lMate n) (e1 : Hid (n1 = fAt.length)) (e4 : Hid (n4 = lAt.length)) (en : Hid (n = placed.length)) (l1 : n1 ≤ 1000000) (l4 : n4 ≤ 1000000) (ln : n ≤ 1000000)
    (hf : first ≤ n1) (hs : second ≤ n1 + 1) (hs' : -9223372036854775808 ≤ second) (hc : (cleared : Int) ≤ 9223372036854775807)
    (r1 : Row w a1 (ints fAt)) (r2 : Row w a2 (ints fTxn)) (r3 : Row w a3 (ints fMate)) (r4 : Row w a4 (ints lAt)) (r5 : Row w a5 (ints lTxn)) (r6 : Row w a6 (ints lMate)) (rp : Row w ap (bools placed)) :
    Calls Try.prog 8 #[.int .i64 first, .int .i64 second, .int .i64 cleared, .slice a1 n1 c1, .slice a2 n1 c2, .slice a3 n1 c3, .slice a4 n4 c4, .slice a5 n4 c5, .slice a6 n4 c6, .slice ap n cp] w
      fun e w' => ∃ f s c rel a cap, e = .returned (.tuple #[.int .i64 (f : Nat), .int .i64 (s : Nat), .int .i64 (c : Nat), .slice a rel.length cap]) ∧ Adv fAt fTxn fMate lAt lTxn placed first second cleared f s c rel ∧ Row w' a (ints rel) ∧ (∀ b off, a = some ⟨b, off, none⟩ → w.heap.size ≤ b) ∧ Below w.heap.size w w' := by
  obtain ⟨gr, hgr⟩ : ∃ gr, w.heap.size = gr := ⟨_, rfl⟩
  have hm1 := make_slots n1 l1
  have hm4 := make_slots n4 l4
  go_enter Try.func8, Try.ntmps8
  go_upto_region 1 with fail
  go_cut [24] (fun v wc => ∃ g1 g2 gs : Nat, v = .pointer (some ⟨gs, 0, none⟩) ∧ Zst w wc gr g1 g2 gs n1 n4 (zslots n1) (zslots n4))
  case first =>
    go_region
    all_goals (go_wp2_with fail)
    all_goals go_meet
    case rel =>
      obtain ⟨h0, h1, h2, h3, hb⟩ := zst_made hgr (zslots n1) (zslots n4) (.slice (some ⟨gr + 1, 0, none⟩) n1 n1) (.slice (some ⟨gr + 1 + 1, 0, none⟩) n4 n4)
      exact ⟨gr + 1, gr + 1 + 1, gr + 1 + 1 + 1, rfl, h0, h3, h1, h2, hb, by omega, by omega, by omega, by omega, by omega⟩
    case rel =>
      obtain ⟨h0, h1, h2, h3, hb⟩ := zst_made hgr (zslots n4) (zslots n1) (.slice (some ⟨gr + 1 + 1, 0, none⟩) n1 n1) (.slice (some ⟨gr + 1, 0, none⟩) n4 n4)
      exact ⟨gr + 1 + 1, gr + 1, gr + 1 + 1 + 1, rfl, h0, h3, h2, h1, hb, by omega, by omega, by omega, by omega, by omega⟩
  case rest =>
    obtain ⟨g1, g2, gs, rfl, Z⟩ := hcut
    have HGR : Hid (w.heap.size = gr) := hgr
    clear hm1 hm4 hgr
    go_wp2_with fail
    go_loopg [38] n1 (fun gk i wr => ∃ (k : Nat) (d1 : List Value), gk = n1 - k ∧ k ≤ n1 ∧ i = .int .i64 k ∧ d1.length = n1 * 3 ∧ SlotsAt d1 fAt fTxn fMate k ∧ Zst w wr gr g1 g2 gs n1 n4 d1 (zslots n4))
    case atStart => exact ⟨0, zslots n1, by omega, by omega, rfl, by simp [zslots], fun k x y z h => by omega, Z⟩
    case round =>
      clear Z
      obtain ⟨k, d1, hgk, hk, rfl, hd1, hS, Z⟩ := hrel
      have HGK : Hid (gk = n1 - k) := hgk
      clear hgk
      by_cases hlt : k < n1
      · have hltI : (k : Int) < (n1 : Int) := by omega
        have hB : Below w.heap.size w wr := by rw [HGR.out]; exact Z.b
        obtain ⟨b1, o1, x, ha1, hx, hcx⟩ := (r1.keep hB).int (k := k) (by rw [← e1.out]; exact hlt)
        obtain ⟨b2, o2, y, ha2, hy, hcy⟩ := (r2.keep hB).int (k := k) (by rw [hW.lf1, ← e1.out]; exact hlt)
        obtain ⟨b3, o3, z, ha3, hz, hcz⟩ := (r3.keep hB).int (k := k) (by rw [hW.lf2, ← e1.out]; exact hlt)
        subst ha1 ha2 ha3
        have cs0 := Z.s.cell (i := 0) rfl
        obtain ⟨u0, hu0⟩ := some_at (xs := d1) (k := k * 3) (by omega)
        obtain ⟨u1, hu1⟩ := some_at (xs := d1) (k := k * 3 + 1) (by omega)
        obtain ⟨u2, hu2⟩ := some_at (xs := d1) (k := k * 3 + 2) (by omega)
        have k0 := Z.a1.cell hu0
        have k1 := Z.a1.cell hu1
        have k2 := Z.a1.cell hu2
        have f0 := Z.a1.free (k * 3)
        have f1 := Z.a1.free (k * 3 + 1)
        have f2 := Z.a1.free (k * 3 + 2)
        have HX : Hid (fAt[k]? = some x) := hx
        have HY : Hid (fTxn[k]? = some y) := hy
        have HZ : Hid (fMate[k]? = some z) := hz
        clear hx hy hz hu0 hu1 hu2
        go_wp2_with fail
        go_region
        go_wp2_with fail
        go_roundg (n1 - (k + 1))
        case measure => rw [HGK.out]; omega
        case rel => exact ⟨k + 1, _, rfl, by omega, by go_num, by simpa using hd1, hS.next HX.out HY.out HZ.out (by omega), (((Z.set1 _ _).set1 _ _).set1 _ _).like (by exact ⟨rfl, rfl, rfl, rfl⟩)⟩
      · have hkn : n1 = k := by omega
        subst hkn
        clear hk hlt
        go_wp2_with fail
        go_loopg [63] n4 (fun gk i wr => ∃ (k : Nat) (d2 : List Value), gk = n4 - k ∧ k ≤ n4 ∧ i = .int .i64 k ∧ d2.length = n4 * 3 ∧ SlotsAt d2 lAt lTxn lMate k ∧ Zst w wr gr g1 g2 gs n1 n4 d1 d2)
        case atStart => exact ⟨0, zslots n4, by omega, by omega, rfl, by simp [zslots], fun k x y z h => by omega, Z⟩
        case round =>
          clear Z HGK
          obtain ⟨k, d2, hgk, hk, rfl, hd2, hS2, Z⟩ := hrel
          have HGK : Hid (gk = n4 - k) := hgk
          clear hgk
          by_cases hlt : k < n4
          · have hltI : (k : Int) < (n4 : Int) := by omega
            have hB : Below w.heap.size w wr := by rw [HGR.out]; exact Z.b
            obtain ⟨b1, o1, x, ha1, hx, hcx⟩ := (r4.keep hB).int (k := k) (by rw [← e4.out]; exact hlt)
            obtain ⟨b2, o2, y, ha2, hy, hcy⟩ := (r5.keep hB).int (k := k) (by rw [hW.ll1, ← e4.out]; exact hlt)
            obtain ⟨b3, o3, z, ha3, hz, hcz⟩ := (r6.keep hB).int (k := k) (by rw [hW.ll2, ← e4.out]; exact hlt)
            subst ha1 ha2 ha3
            have cs1 := Z.s.cell (i := 1) rfl
            obtain ⟨u0, hu0⟩ := some_at (xs := d2) (k := k * 3) (by omega)
            obtain ⟨u1, hu1⟩ := some_at (xs := d2) (k := k * 3 + 1) (by omega)
            obtain ⟨u2, hu2⟩ := some_at (xs := d2) (k := k * 3 + 2) (by omega)
            have k0 := Z.a2.cell hu0
            have k1 := Z.a2.cell hu1
            have k2 := Z.a2.cell hu2
            have f0 := Z.a2.free (k * 3)
            have f1 := Z.a2.free (k * 3 + 1)
            have f2 := Z.a2.free (k * 3 + 2)
            have HX : Hid (lAt[k]? = some x) := hx
            have HY : Hid (lTxn[k]? = some y) := hy
            have HZ : Hid (lMate[k]? = some z) := hz
            clear hx hy hz hu0 hu1 hu2
            go_wp2_with fail
            go_region
            go_wp2_with fail
            go_roundg (n4 - (k + 1))
            case measure => rw [HGK.out]; omega
            case rel => exact ⟨k + 1, _, rfl, by omega, by go_num, by simpa using hd2, hS2.next HX.out HY.out HZ.out (by omega), (((Z.set2 _ _).set2 _ _).set2 _ _).like (by exact ⟨rfl, rfl, rfl, rfl⟩)⟩
          · have hkn : n4 = k := by omega
            subst hkn
            clear hk hlt
            obtain ⟨gf, hgf⟩ : ∃ gf, wr.heap.size = gf := ⟨_, rfl⟩
            have hW2 : Below w.heap.size w wr := by rw [HGR.out]; exact Z.b
            have hZs := Z.s.lt
            have hZ1 := Z.o1
            have hZ2 := Z.o2
            have hZ4 := Z.o4
            have hZ5 := Z.o5
            have L : Hid (Lie gf gr (gf + 1) gs g1 g2 ap placed) := lie_of HGR.out hZ1 hZ2 hZ4 hZ5 (by omega) rp
            go_wp2_with fail
            refine (advance_any fAt fTxn fMate lAt lTxn lMate placed n n1 n4 first second cleared gf gr (gf + 1) gs g1 g2 d1 d2 ap cp _ hW e1 e4 en l1 l4 ln hf hs hs' hc hS hS2 L.out (by rw [World.size_alloc]; omega) (arr_new wr _ 40 hgf.symm) (Z.r.alloc _) (Z.s.alloc _) (Z.a1.alloc _) (Z.a2.alloc _) ((rp.keep hW2).keep ((Below.refl _ _).alloc (Nat.le_refl _) _))).mono ?_
            rintro e w' ⟨rfl, f, s, c, rel, hAdv, hF, hRel, hK⟩
            obtain ⟨a, cap, hA, hrow, hne⟩ := hRel.view (by omega)
            have HA : Hid (Adv fAt fTxn fMate lAt lTxn placed first second cleared f s c rel) := hAdv
            have hB : Below gr w w' := (Z.b.alloc (by omega) _).trans (hK.below (by omega) (by omega))
            have hgrf : gr < gf := by omega
            have q0 := hF.cell (i := 0) rfl
            have q1 := hF.cell (i := 1) rfl
            have q2 := hF.cell (i := 2) rfl
            have q3 := hA.cell (i := 0) rfl
            have q4 := hA.free 0
            clear hAdv hRel hK hW2
            clear Z hgf
            go_wp2_with fail
            go_region
            go_wp2_with fail
            refine bodyPost_ret (v := .tuple #[.int .i64 f, .int .i64 s, .int .i64 c, .slice a rel.length cap]) (by simp [results, Try.results8, go_sem, q3]) rfl ?_
            exact ⟨f, s, c, rel, a, cap, rfl, HA.out, (hrow.setCell (fun b off h => by have := hne b off h; show b ≠ gr; omega) _).keep (Below.refl _ _).drew, (fun b off h => by have := hne b off h; have := HGR.out; omega), by rw [HGR.out]; exact (hB.setCell (Nat.le_refl _) _).drew⟩
end Go.Proofs.Qxb6615639a
