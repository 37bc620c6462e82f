import Derived.Test.Qxb6615639aFreed
namespace Go.Proofs.Qxb6615639a
set_option linter.unusedVariables false
set_option linter.unusedSimpArgs false
open Go.RowKit

/-- The run is over. -/
structure InvE (w0 wx : World) (a : Act) (n n1 n4 n7 : Nat) (fAt fTxn fMate lAt lTxn lMate order P FQ : List Int) (ever : List Bool) : Prop where
  i : InvD w0 wx a n n1 n4 n7 fAt fTxn fMate lAt lTxn lMate order P FQ
  s33 : HasB wx (a.tmps.getD 33 undef) n ever
  ev : Ever lTxn P FQ ever (n7 + 1)
  le : ever.length = n

theorem told_of {w0 wx : World} {a : Act} {n n1 n4 n7 : Nat} {fAt fTxn fMate lAt lTxn lMate order P FQ : List Int} (D : Dom n n1 n4 n7 fAt fTxn fMate lAt lTxn lMate order) (h : InvD w0 wx a n n1 n4 n7 fAt fTxn fMate lAt lTxn lMate order P FQ) : Told fAt fTxn fMate lAt lTxn lMate order P FQ n where
  well := D.well
  pos := by rw [← D.e7]; exact h.i.pos
  lp := h.i.lp
  lq := by rw [h.lq]; exact D.e4
  fq := by rw [← D.e4]; exact h.fq
  top := D.top

theorem rel_len {fAt fTxn fMate lAt lTxn : List Int} {placed : List Bool} {first : Nat} {second : Int} {cleared f s c : Nat} {rel : List Int} (h : Adv fAt fTxn fMate lAt lTxn placed first second cleared f s c rel) : rel.length ≤ lTxn.length + 1 := by
  obtain ⟨ex, rfl, hex⟩ := h.r
  have h1 := rels_le lTxn placed cleared c
  have h2 : ex.length ≤ 1 := by
    rcases hex with ⟨_, h⟩ | ⟨m, _, ⟨h, _⟩ | ⟨_, _, _, _, _, _, _, _, h⟩⟩ <;> simp [h]
  simp
  omega

theorem placed_at {placed : List Bool} {t n : Nat} (hl : placed.length = n) (ht : t < n) (h : pl placed (t : Int) = false) : placed[t]? = some false := by
  obtain ⟨b, hb⟩ := some_at (xs := placed) (k := t) (by omega)
  rw [pl_at hb] at h
  rw [hb, h]

theorem index_n (a : Option Addr) (c n : Nat) (xs : List Int) (v : Int) (w : World) (hn : n = xs.length) (hl : n ≤ 1000000) (h : Row w a (ints xs)) :
    Calls Try.prog 11 #[.slice a n c, .int .i64 v] w fun e w' => (∃ k : Int, e = .returned (.int .i64 k) ∧ ((k = -1 ∧ v ∉ xs) ∨ ∃ j : Nat, k = j ∧ xs[j]? = some v)) ∧ w' = w := by
  subst hn
  exact index_any a c xs v w hl h

set_option maxRecDepth 100000 in
set_option maxHeartbeats 2000000 in
theorem main4 (w0 wx : World) (a : Act) (n n1 n4 n7 : Nat) (fAt fTxn fMate lAt lTxn lMate order P FQ : List Int) (D : Dom n n1 n4 n7 fAt fTxn fMate lAt lTxn lMate order) (h : InvD w0 wx a n n1 n4 n7 fAt fTxn fMate lAt lTxn lMate order P FQ)
    (rest : Code) (hrest : ∀ ever a' w', InvE w0 w' a' n n1 n4 n7 fAt fTxn fMate lAt lTxn lMate order P FQ ever → rest.wp Try.prog (Q4 w0) a' w') : (grp 4 (tlN 19 (Try.f4.body.getD .skip)) rest).wp Try.prog (Q4 w0) a wx := by
  have T : Hid (Told fAt fTxn fMate lAt lTxn lMate order P FQ n) := told_of D h
  obtain ⟨u, hu, ha⟩ := frame4 a h.i.i.sz h.i.i.df
  obtain ⟨x1, c1, e1, R1⟩ := h.i.i.s1
  obtain ⟨x2, c2, e2, R2⟩ := h.i.i.s2
  obtain ⟨x3, c3, e3, R3⟩ := h.i.i.s3
  obtain ⟨x4, c4, e4, R4⟩ := h.i.i.s4
  obtain ⟨x5, c5, e5, R5⟩ := h.i.i.s5
  obtain ⟨x6, c6, e6, R6⟩ := h.i.i.s6
  obtain ⟨x7, c7, e7, R7⟩ := h.i.i.s7
  obtain ⟨xp, cp, ep, Rp⟩ := h.i.s24
  obtain ⟨xq, cq, eq, Rq⟩ := h.s28
  have e0 := h.i.i.s0
  have e23 := h.i.s23
  have hB := h.i.i.b
  have HP : Hid (OPos order P n7) := h.i.pos
  have lp := h.i.lp
  have HFR : Hid (Frees fAt fTxn lAt lTxn P FQ n4) := h.fq
  have lq := h.lq
  clear h
  simp only [hu] at e0 e1 e2 e3 e4 e5 e6 e7 e23 ep eq
  subst ha
  clear hu
  rw [e0, e1, e2, e3, e4, e5, e6, e7, e23, ep, eq]
  clear e0 e1 e2 e3 e4 e5 e6 e7 e23 ep eq
  have l1 := D.l1
  have l4 := D.l4
  have l7 := D.l7
  have ln := D.ln
  have E1 : Hid (n1 = fAt.length) := D.e1
  have E4 : Hid (n4 = lAt.length) := D.e4
  have E7 : Hid (n7 = order.length) := D.e7
  have HW : Hid (Well fAt fTxn fMate lAt lTxn lMate n) := D.well
  clear D
  obtain ⟨i0, hi, hz0, hz1, hz2⟩ := info_parts Try.info4
  conv => arg 2; whnf
  simp only [grp]
  go_wp2_with (first | (at_make; refine wpList_make_arr _ rfl (.tmp 253) (.tmp 253) 23 rfl 4 i0 (.bool false) 1 Try.underlying23 hi hz0 hz1 hz2 rfl _ _ _ _ n (by rfl) (by rfl) rfl rfl (by omega) (by unfold maxLen; omega) ?_; intro w1 gp hgp hAp hB1) | (at_make; refine wpList_make_arr _ rfl (.tmp 255) (.tmp 255) 23 rfl 4 i0 (.bool false) 1 Try.underlying23 hi hz0 hz1 hz2 rfl _ _ _ _ n (by rfl) (by rfl) rfl rfl (by omega) (by unfold maxLen; omega) ?_; intro w2 ge hge hAe hB2))
  clear hi hz0 hz1 hz2
  have hpx : wx.heap.size ≤ gp := by have := hgp.out; omega
  have hpe : gp < ge := by have := hAp.lt; have := hge.out; omega
  have hBs : Below wx.heap.size wx w2 := hB1.trans (hB2.mono hB1.size)
  have hAp2 := hAp.keep hB2 hAp.lt
  clear hgp hge hAp hB1 hB2
  go_loopg [34, 35, 36, 37] (n7 + 1) (fun gk v1 v2 v3 sv wr => ∃ (st first second cleared : Nat) (placed ever : List Bool), gk = n7 + 1 - st ∧ st ≤ n7 + 1 ∧ sv = .int .i64 st ∧ v1 = .int .i64 first ∧ v2 = .int .i64 second ∧ v3 = .int .i64 cleared ∧ cleared ≤ n4 ∧
      placed.length = n ∧ ever.length = n ∧ Placed P placed (st - 1) ∧ Front fAt fTxn FQ placed first second cleared st ∧ Ever lTxn P FQ ever st ∧ Arr wr gp 4 (bools placed) ∧ Arr wr ge 4 (bools ever) ∧ Below wx.heap.size wx wr)
  case atStart =>
    refine ⟨0, 0, 0, 0, List.replicate n false, List.replicate n false, by omega, by omega, rfl, rfl, rfl, rfl, by omega, by simp, by simp, ?_, ?_, ?_, by simpa [bools] using hAp2, by simpa [bools] using hAe, hBs⟩
    · exact Placed.zero HP.out (by omega) _ (fun b hb => (List.mem_replicate.1 hb).2)
    · exact ⟨by omega, by omega, fun j t h => by omega, fun j t h1 h2 => by omega, fun q k h => by omega⟩
    · intro q t k m b h1 h2 h3 h4
      have hb : b = false := (List.mem_replicate.1 (List.mem_of_getElem? h4)).2
      have h0 : 0 ≤ k := by
        obtain ⟨la, hla⟩ := some_at (xs := lAt) (k := q) (by have := at_lt h2; have := E4.out; omega)
        exact (HFR.out q la t k (by have := at_lt h2; omega) hla h1 h2).pos
      subst hb
      simp
      omega
  case round =>
    clear hAp2 hAe hBs
    obtain ⟨st, first, second, cleared, placed, ever, hgk, hst, rfl, rfl, rfl, rfl, hcl, hlp, hle, hPl, hFr, hEv, hAp, hAe, hBr⟩ := hrel
    have HGK : Hid (gk = n7 + 1 - st) := hgk
    clear hgk
    by_cases hlt : st ≤ n7
    · go_upto_if 263 with fail
      go_cut [] from 257 to 325 (fun wc => ∃ placed' : List Bool, placed'.length = n ∧ Placed P placed' st ∧ Front fAt fTxn FQ placed' first second cleared st ∧ Arr wc gp 4 (bools placed') ∧ Arr wc ge 4 (bools ever) ∧ Below wx.heap.size wx wc)
      case first =>
        by_cases h0 : st = 0
        · subst h0
          go_wp2_with fail
          go_meet
          case rel => exact ⟨placed, hlp, hPl, hFr, hAp, hAe, hBr⟩
        · obtain ⟨k, rfl⟩ : ∃ k, st = k + 1 := ⟨st - 1, by omega⟩
          obtain ⟨b7, o7, x, ha7, hx, hcx⟩ := (R7.keep hBr).int (k := k) (by rw [← E7.out]; omega)
          subst ha7
          have hr := HP.out.fwd k x hx
          obtain ⟨t, rfl⟩ : ∃ t : Nat, x = t := ⟨x.toNat, by omega⟩
          have htn : t < n := by omega
          obtain ⟨pb, hpb⟩ := some_at (xs := placed) (k := t) (by omega)
          have cp1 := hAp.cell (bools_at hpb)
          have fp1 := hAp.free t
          have HX : Hid (order[k]? = some (t : Int)) := hx
          clear hx hr hpb
          go_wp2_with fail
          go_meet
          case rel => exact ⟨placed.set t true, by simpa using hlp, Placed.next (by rw [← E7.out]; exact HP.out) hPl HX.out, front_placed hPl (by omega) hFr, by rw [← bools_set]; exact hAp.set t _, hAe.other (by simp; omega) _, hBr.setCell (by simpa using hpx) _⟩
      clear hlp hPl hFr hAp hAe hBr
      obtain ⟨placed', hlp, hPl, hFr, hAp, hAe, hBr⟩ := hcut
      have hf := hFr.f
      have hs1 := hFr.s1
      rw [← E1.out] at hf hs1
      go_wp2_with fail
      refine (zz_any fAt fTxn fMate lAt lTxn lMate placed' n n1 n4 first second cleared x1 x2 x3 x4 x5 x6 _ c1 c2 c3 c4 c5 c6 n _ HW.out E1 E4 hlp.symm (by omega) (by omega) (by omega) hf (by omega) (by omega) (by omega) (R1.keep hBr) (R2.keep hBr) (R3.keep hBr) (R4.keep hBr) (R5.keep hBr) (R6.keep hBr) hAp.row).mono ?_
      rintro e w' ⟨f, s, c, rel, ra, rc, rfl, hAdv, hRow, hfar, hBz⟩
      have HA : Hid (Adv fAt fTxn fMate lAt lTxn placed' first second cleared f s c rel) := hAdv
      have hrl : rel.length ≤ 1025 := by have := rel_len hAdv; have := HW.out.ll1; have := E4.out; omega
      have hcn : c ≤ n4 := by rcases hAdv.c2 with h | h; omega; have := E4.out; omega
      have hAp' := hAp.keep hBz hAp.lt
      have hAe' := hAe.keep hBz hAe.lt
      have hBr' : Below wx.heap.size wx w' := hBr.trans (hBz.mono hBr.size)
      have hge := hAe.lt
      have hfar' : ∀ b off, ra = some ⟨b, off, none⟩ → b ≠ ge := fun b off h => by have := hfar b off h; omega
      have HB : Hid (Behind fTxn placed' f s) := behind_of hAdv hFr.p1 hFr.p2
      have HF : Hid (Front fAt fTxn FQ placed' first second cleared st) := hFr
      have HFAR : Hid (∀ b off, ra = some ⟨b, off, none⟩ → b ≠ ge) := hfar'
      clear hAdv hfar hfar' hBz hAp hAe hBr hFr hge hf hs1
      obtain ⟨rl, hrlen⟩ : ∃ rl, rl = rel.length := ⟨_, rfl⟩
      rw [← hrlen] at hrl ⊢
      have HRL : Hid (rl = rel.length) := hrlen
      clear hrlen
      go_wp2_with fail
      go_loopg [39] rl (fun gk iv wr => ∃ (i : Nat) (ev : List Bool), gk = rl - i ∧ i ≤ rl ∧ iv = .int .i64 i ∧ ev.length = n ∧ Marks ever (rel.take i) ev ∧ Arr wr gp 4 (bools placed') ∧ Arr wr ge 4 (bools ev) ∧ Row wr ra (ints rel) ∧ Below wx.heap.size wx wr)
      case atStart => exact ⟨0, ever, by omega, by omega, rfl, hle, by simpa using Marks.nil ever, hAp', hAe', hRow, hBr'⟩
      case round =>
        clear hAp' hAe' hRow hBr'
        obtain ⟨i, ev, hgk, hi, rfl, hlev, hMk, hAp, hAe, hRow, hBr⟩ := hrel
        have HGK2 : Hid (gk = rl - i) := hgk
        clear hgk
        by_cases hilt : i < rl
        · obtain ⟨b1, o1, x, ha1, hx, hcx⟩ := hRow.int (k := i) (by rw [← HRL.out]; exact hilt)
          subst ha1
          obtain ⟨hun, q, kq, hq, hkq, hks⟩ := rel_good T.out hPl hlp HA.out HB.out (List.mem_of_getElem? hx)
          have hr := HW.out.rngL q x hq
          obtain ⟨t, rfl⟩ : ∃ t : Nat, x = t := ⟨x.toNat, by omega⟩
          have htn : t < n := by omega
          have cpl := hAp.cell (bools_at (placed_at hlp htn hun))
          obtain ⟨be, hbe⟩ := some_at (xs := ev) (k := t) (by omega)
          have cev := hAe.cell (bools_at hbe)
          have fev := hAe.free t
          have hq4 : q < n4 := by have := at_lt hq; have := HW.out.ll1; have := E4.out; omega
          obtain ⟨bq, oq, kq', hxq, hkq', hcq⟩ := (Rq.keep hBr).int (k := q) (by omega)
          subst hxq
          obtain rfl : kq' = kq := by rw [hkq] at hkq'; exact (Option.some.inj hkq').symm
          have HX : Hid (rel[i]? = some (t : Int)) := hx
          have HQ : Hid (lTxn[q]? = some (t : Int)) := hq
          have R5' := R5.keep hBr
          clear hx hq hr hun hbe hkq hkq'
          go_wp2_with fail
          refine (index_n x5 c5 n4 lTxn t wr (by rw [HW.out.ll1]; exact E4.out) (by omega) R5').mono ?_
          rintro e w'' ⟨⟨kk, rfl, hkk⟩, hw⟩
          have hw := hw.symm
          subst hw
          obtain rfl : kk = (q : Int) := by
            rcases hkk with ⟨_, h⟩ | ⟨j, h, h'⟩
            · exact absurd (List.mem_of_getElem? HQ.out) h
            · rw [h, HW.out.injL j q t h' HQ.out]
          clear hkk
          have hqI : (q : Int) < (n4 : Int) := by omega
          go_wp2_with fail
          go_roundg (rl - (i + 1))
          case measure => rw [HGK2.out]; omega
          case rel => exact ⟨i + 1, ev.set t true, rfl, by omega, by go_num, by simpa using hlev, by rw [take_snoc HX.out]; exact hMk.snoc t, hAp.other (by simp; omega) _, by rw [← bools_set]; exact hAe.set t _, hRow.setCell HFAR.out _, hBr.setCell (by simp; omega) _⟩
        · have hin : rl = i := by omega
          rw [take_all (by rw [← hin]; exact HRL.out)] at hMk
          go_wp2_with fail
          go_roundg (n7 + 1 - (st + 1))
          case measure => rw [HGK.out]; omega
          case rel => exact ⟨st + 1, f, s, c, placed', ev, rfl, by omega, by go_num, rfl, rfl, rfl, hcn, hlp, hlev, by simpa using hPl, front_next T.out hPl hlp HF.out HA.out, ever_next T.out hPl hlp (by omega) HF.out HA.out hEv hMk, hAp, hAe, hBr⟩
    · have hsn : st = n7 + 1 := by omega
      subst hsn
      go_wp2_with fail
      exact hrest ever _ _ ⟨⟨⟨⟨rfl, rfl, rfl, ⟨_, _, rfl, R1.keep hBr⟩, ⟨_, _, rfl, R2.keep hBr⟩, ⟨_, _, rfl, R3.keep hBr⟩, ⟨_, _, rfl, R4.keep hBr⟩, ⟨_, _, rfl, R5.keep hBr⟩, ⟨_, _, rfl, R6.keep hBr⟩, ⟨_, _, rfl, R7.keep hBr⟩, hB.trans (hBr.mono hB.size)⟩, rfl, ⟨_, _, rfl, Rp.keep hBr⟩, HP.out, lp⟩, ⟨_, _, rfl, Rq.keep hBr⟩, HFR.out, lq⟩, ⟨_, _, rfl, hAe.row⟩, hEv, hle⟩
end Go.Proofs.Qxb6615639a
