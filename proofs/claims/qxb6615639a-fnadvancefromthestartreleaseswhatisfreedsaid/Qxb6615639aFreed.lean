import Derived.Test.Qxb6615639aPos
namespace Go.Proofs.Qxb6615639a
set_option linter.unusedVariables false
set_option linter.unusedSimpArgs false
open Go.RowKit

/-- The steps at which the slots of lasts are freed are reckoned. -/
structure InvD (w0 wx : World) (a : Act) (n n1 n4 n7 : Nat) (fAt fTxn fMate lAt lTxn lMate order P FQ : List Int) : Prop where
  i : InvC w0 wx a n n1 n4 n7 fAt fTxn fMate lAt lTxn lMate order P
  s28 : Has wx (a.tmps.getD 28 undef) n4 FQ
  fq : Frees fAt fTxn lAt lTxn P FQ n4
  lq : FQ.length = n4

theorem OPos.range {xs P : List Int} {d : Nat} (h : OPos xs P d) (hd : xs.length ≤ d) {t : Nat} {m : Int} (hm : P[t]? = some m) : 0 ≤ m ∧ m ≤ d := by
  rcases h.bwd t m hm with ⟨h1, _⟩ | ⟨p, h1, h2⟩
  · omega
  · have := at_lt h2; omega

set_option maxRecDepth 100000 in
set_option maxHeartbeats 1000000 in
theorem freed4 (w0 wx : World) (a : Act) (n n1 n4 n7 : Nat) (fAt fTxn fMate lAt lTxn lMate order P : List Int) (D : Dom n n1 n4 n7 fAt fTxn fMate lAt lTxn lMate order) (h : InvC w0 wx a n n1 n4 n7 fAt fTxn fMate lAt lTxn lMate order P)
    (rest : Code) (hrest : ∀ FQ a' w', InvD w0 w' a' n n1 n4 n7 fAt fTxn fMate lAt lTxn lMate order P FQ → rest.wp Try.prog (Q4 w0) a' w') : (grp 2 (tlN 17 (Try.f4.body.getD .skip)) rest).wp Try.prog (Q4 w0) a wx := by
  obtain ⟨u, hu, ha⟩ := frame4 a h.i.sz h.i.df
  obtain ⟨x1, c1, e1, R1⟩ := h.i.s1
  obtain ⟨x2, c2, e2, R2⟩ := h.i.s2
  obtain ⟨x4, c4, e4, R4⟩ := h.i.s4
  obtain ⟨x5, c5, e5, R5⟩ := h.i.s5
  obtain ⟨xp, cp, ep, Rp⟩ := h.s24
  have e0 := h.i.s0
  have h3 := h.i.s3
  have h6 := h.i.s6
  have h7 := h.i.s7
  have h23 := h.s23
  have hB := h.i.b
  have hpos := h.pos
  have lp := h.lp
  clear h
  simp only [hu] at e0 e1 e2 h3 e4 e5 h6 h7 h23 ep
  subst ha
  clear hu
  rw [e0, e1, e2, e4, e5, ep]
  clear e0 e1 e2 e4 e5 ep
  have l1 := D.l1
  have l4 := D.l4
  have E1 : Hid (n1 = fAt.length) := D.e1
  have E4 : Hid (n4 = lAt.length) := D.e4
  have E7 : Hid (n7 = order.length) := D.e7
  have l7 := D.l7
  have hW := D.well
  have HP : Hid (OPos order P n7) := hpos
  have H23 : Hid (u 23 = .int .i64 n7) := h23
  clear hpos h23
  obtain ⟨i0, hi, hz0, hz1, hz2⟩ := info_parts Try.info3
  conv => arg 2; whnf
  simp only [grp]
  go_wp2_with (at_make; refine wpList_make_arr _ rfl _ _ 22 rfl 3 i0 (.int .i64 0) 8 Try.underlying22 hi hz0 hz1 hz2 rfl _ _ _ _ n4 (by rfl) (by rfl) rfl rfl (by omega) (by unfold maxLen; omega) ?_; intro wm g hg hA hBm)
  clear hi hz0 hz1 hz2
  have hgx : wx.heap.size ≤ g := by have := hg.out; omega
  clear hg
  go_loopg [29] n4 (fun gk i wr => ∃ (q : Nat) (FQ : List Int), gk = n4 - q ∧ q ≤ n4 ∧ i = .int .i64 q ∧ FQ.length = n4 ∧ Frees fAt fTxn lAt lTxn P FQ q ∧ Arr wr g 3 (ints FQ) ∧ Below wx.heap.size wx wr)
  case atStart => exact ⟨0, List.replicate n4 0, by omega, by omega, rfl, by simp, Frees.zero _ _ _ _ _ _, by simpa [ints] using hA, hBm⟩
  case round =>
    clear hA hBm
    obtain ⟨q, FQ, hgk, hq, rfl, hF, hFr, hA, hBr⟩ := hrel
    have HGK : Hid (gk = n4 - q) := hgk
    clear hgk
    by_cases hlt : q < n4
    · obtain ⟨la, hla⟩ := some_at (xs := lAt) (k := q) (by rw [← E4.out]; exact hlt)
      obtain ⟨t, ht⟩ := some_at (xs := lTxn) (k := q) (by rw [hW.ll1, ← E4.out]; exact hlt)
      have HLA : Hid (lAt[q]? = some la) := hla
      have HTQ : Hid (lTxn[q]? = some t) := ht
      obtain ⟨m0, hm0⟩ := some_at (xs := FQ) (k := q) (by omega)
      have fq := hA.free q
      clear hla ht
      have hqI : (q : Int) < (n4 : Int) := by omega
      go_wp2_with fail
      go_loopg [30, 31] n1 (fun gk2 kv pv wr => ∃ (p : Nat) (k : Int), gk2 = n1 - p ∧ p ≤ n1 ∧ pv = .int .i64 p ∧ kv = .int .i64 k ∧ k ≤ 4097 ∧ FK fAt fTxn P la t p k ∧ Arr wr g 3 (ints FQ) ∧ Below wx.heap.size wx wr)
      case atStart => exact ⟨0, 0, by omega, by omega, rfl, rfl, by omega, FK.zero _ _ _ _ _, hA, hBr⟩
      case round =>
        clear hA hBr
        obtain ⟨p, k, hgk2, hp, rfl, rfl, hk, hFK, hA, hBr⟩ := hrel
        have HGK2 : Hid (gk = n1 - p) := hgk2
        clear hgk2
        have k0 := hFK.pos
        by_cases hplt : p < n1
        · have hpI : (p : Int) < (n1 : Int) := by omega
          obtain ⟨b1, o1, x, ha1, hx, hcx⟩ := (R1.keep hBr).int (k := p) (by rw [← E1.out]; exact hplt)
          obtain ⟨b2, o2, y, ha2, hy, hcy⟩ := (R2.keep hBr).int (k := p) (by rw [hW.lf1, ← E1.out]; exact hplt)
          obtain ⟨b4, o4, la', ha4, hla', hcl⟩ := (R4.keep hBr).int (k := q) (by rw [← E4.out]; exact hlt)
          obtain ⟨b5, o5, t', ha5, ht', hct⟩ := (R5.keep hBr).int (k := q) (by rw [hW.ll1, ← E4.out]; exact hlt)
          obtain rfl : la' = la := by rw [HLA.out] at hla'; exact (Option.some.inj hla').symm
          obtain rfl : t' = t := by rw [HTQ.out] at ht'; exact (Option.some.inj ht').symm
          have hr := hW.rngF p y hy
          obtain ⟨yn, rfl⟩ : ∃ yn : Nat, y = yn := ⟨y.toNat, by omega⟩
          have hynI : (yn : Int) < (n : Int) := hr.2
          obtain ⟨bp, op, m, hap, hm, hcm⟩ := (Rp.keep hBr).int (k := yn) (by rw [lp]; omega)
          subst ha1 ha2 ha4 ha5 hap
          have hmr := HP.out.range (by rw [← E7.out]; exact Nat.le_refl _) hm
          have hm1 := hmr.1
          have hm2 := hmr.2
          have HX : Hid (fAt[p]? = some x) := hx
          have HY : Hid (fTxn[p]? = some (yn : Int)) := hy
          have HM : Hid (P[((yn : Int)).toNat]? = some m) := by show _ = _; simpa using hm
          clear hx hy hla' ht' hr hmr hm
          by_cases hxl : x < la'
          · by_cases hyt : (yn : Int) = t'
            · have hd : ((yn : Int) != t') = false := by simpa using hyt
              have HYT : Hid ((yn : Int) = t') := hyt
              clear hyt
              go_wp2_with fail
              go_quiet (fail)
              go_wp2_with fail
              go_roundg (n1 - (p + 1))
              case measure => rw [HGK2.out]; omega
              case rel => exact ⟨p + 1, k, rfl, by omega, by go_num, rfl, hk, hFK.skip HX.out HY.out HM.out (fun _ h => absurd HYT.out h), hA.draws _, below_drewN hBr _⟩
            · have hd : ((yn : Int) != t') = true := by simpa using hyt
              have HYT : Hid (¬ (yn : Int) = t') := hyt
              clear hyt
              by_cases hkm : k < m + 1
              · go_wp2_with fail
                go_quiet (fail)
                go_wp2_with fail
                go_roundg (n1 - (p + 1))
                case measure => rw [HGK2.out]; omega
                case rel => exact ⟨p + 1, m + 1, rfl, by omega, by go_num, rfl, by omega, hFK.take HX.out HY.out HM.out hxl HYT.out hkm, hA.draws _, below_drewN hBr _⟩
              · go_wp2_with fail
                go_quiet (fail)
                go_wp2_with fail
                go_roundg (n1 - (p + 1))
                case measure => rw [HGK2.out]; omega
                case rel => exact ⟨p + 1, k, rfl, by omega, by go_num, rfl, hk, hFK.skip HX.out HY.out HM.out (fun _ _ => by omega), hA.draws _, below_drewN hBr _⟩
          · have hd : decide (x < la') = false := decide_eq_false hxl
            go_wp2_with fail
            go_quiet (fail)
            go_wp2_with fail
            go_roundg (n1 - (p + 1))
            case measure => rw [HGK2.out]; omega
            case rel => exact ⟨p + 1, k, rfl, by omega, by go_num, rfl, hk, hFK.skip HX.out HY.out HM.out (fun h => by omega), hA.draws _, below_drewN hBr _⟩
        · have hpn : p = fAt.length := by have := E1.out; omega
          have HFK : Hid (FK fAt fTxn P la t fAt.length k) := by rw [← hpn]; exact hFK
          have cq := hA.cell (ints_at hm0)
          have fq2 := hA.free q
          clear hFK hpn hm0
          go_wp2_with fail
          go_roundg (n4 - (q + 1))
          case measure => rw [HGK.out]; omega
          case rel => exact ⟨q + 1, FQ.set q k, rfl, by omega, by go_num, by simpa using hF, hFr.next HLA.out HTQ.out HFK.out, by rw [← ints_set]; exact hA.set q _, hBr.setCell (by simpa using hgx) _⟩
    · have hqn : n4 = q := by omega
      subst hqn
      go_wp2_with fail
      exact hrest FQ _ _ ⟨⟨⟨rfl, rfl, rfl, ⟨_, _, rfl, R1.keep hBr⟩, ⟨_, _, rfl, R2.keep hBr⟩, h3.keep hBr, ⟨_, _, rfl, R4.keep hBr⟩, ⟨_, _, rfl, R5.keep hBr⟩, h6.keep hBr, h7.keep hBr, hB.trans (hBr.mono hB.size)⟩, H23.out, ⟨_, _, rfl, Rp.keep hBr⟩, HP.out, lp⟩, ⟨_, _, rfl, hA.row⟩, hFr, hF⟩
end Go.Proofs.Qxb6615639a
