import Derived.Test.Qxb6615622aCmp
import Derived.Deep.RegionLaw
namespace Go.Proofs.Qxb6615622a
set_option linter.unusedVariables false
set_option linter.unusedSimpArgs false
open Go.RowKit

/-- The last certificate's bytes of each chain. -/
def lasts (b3 : List (List (List Int))) : List (List Int) := b3.map fun b => b.getLastD []
theorem lasts_at {b3 : List (List (List Int))} {i : Nat} {b : List (List Int)} (h : b3[i]? = some b) : (lasts b3)[i]? = some (b.getLastD []) := by simp [lasts, h]

/-- The two operations that make a certificate, each as one step of a region that draws. -/
theorem step_build_cert {ops : Array Oper} {o : Oper} {a : Act} {w : World} {K : Act → World → Prop} {Q : Exit → Act → World → Prop} {E : Prop} (hg : o.guard = none) (x : Operand) (hop : o.op = Op.build 59 #[(0, x)])
    (sa : Option Addr) (n c : Nat) (hx : a.eval x = .slice sa n c) (hK : K (a.put o.dst (certAgg (.slice sa n c))) w) : if Region.wanted o (yielded ops a.tmps) = true then Oper.wp Try.prog o a w K Q else E := by
  have hw : Region.wanted o (yielded ops a.tmps) = true := by simp [Region.wanted, hg]
  rw [if_pos hw]
  unfold Oper.wp
  simp only [execOp, hop]
  simp [hx, run_build_cert, Result.andThen]
  exact hK
theorem step_box_cert {ops : Array Oper} {o : Oper} {a : Act} {w : World} {K : Act → World → Prop} {Q : Exit → Act → World → Prop} {E : Prop} (hg : o.guard = none) (x : Operand) (hop : o.op = Op.box 59 x)
    (sa : Option Addr) (n c : Nat) (hx : a.eval x = certAgg (.slice sa n c)) (hK : K (a.put o.dst (.pointer (some ⟨w.heap.size, 0, none⟩))) (w.alloc (.cells (.slice sa n c :: certRest).toArray 59))) : if Region.wanted o (yielded ops a.tmps) = true then Oper.wp Try.prog o a w K Q else E := by
  have hw : Region.wanted o (yielded ops a.tmps) = true := by simp [Region.wanted, hg]
  rw [if_pos hw]
  unfold Oper.wp
  simp only [execOp, hop]
  simp [hx, run_box_cert, Result.andThen]
  exact hK

set_option maxRecDepth 100000 in
set_option maxHeartbeats 1000000 in
theorem lasts3 (w0 w : World) (a : Act) (n m k B : Nat) (b3 : List (List (List Int))) (css : List (List Int)) (vs : List Value) (G : Nat → Nat) (D : Dom n m k b3 css) (I : InvE w0 w a n B b3 vs G)
    (rest : Code) (hrest : ∀ B' ps G a' w', InvE w0 w' a' n B' b3 vs G → (∃ ca cc, a'.tmps.getD 16 undef = .slice ca n cc ∧ Row w' ca ps) → Certs w' B' ps (lasts b3) → rest.wp Try.prog (Q3 w0) a' w') : (grp 2 (tlN 12 (Try.f3.body.getD .skip)) rest).wp Try.prog (Q3 w0) a w := by
  obtain ⟨sz, df, s0, ⟨g7, s7, hr7⟩, hC, hb⟩ := I
  obtain ⟨u, hu, ha⟩ := frame3 a sz df
  simp only [hu] at s0 s7
  subst ha
  clear hu sz df
  have S0 := s0
  obtain ⟨a0, c0, us, e0, hvl, hr, hbs⟩ := s0
  rw [s7, e0]
  rw [e0] at S0
  have HS0 : Hid (Strss w (.slice a0 b3.length c0) b3) := S0
  rw [← D.en] at HS0 ⊢
  clear s7 e0 S0
  have hn : Hid (n = b3.length) := D.en
  have ln := D.ln
  have HLB : Hid (∀ (i : Nat) b, b3[i]? = some b → 0 < b.length ∧ b.length ≤ 1048576) := D.lb
  have HLC : Hid (∀ (i : Nat) b, b3[i]? = some b → b.length ≤ 1048576 ∧ ∀ (j : Nat) c, b[j]? = some c → c.length ≤ 1048576) := D.lc
  have HV : Hid (us.length = b3.length) := hvl
  have HST : Hid (∀ (i : Nat) x b, us[i]? = some x → b3[i]? = some b → Strs w x b) := hbs
  clear D hvl hbs
  obtain ⟨i0, hi, hz0, hz1, hz2⟩ := info_parts Try.info35
  conv => arg 2; whnf
  simp only [grp]
  go_wp2_with (at_make; refine wpList_make_arr _ rfl _ _ 29 rfl 35 i0 (.pointer none) 8 Try.underlying29 hi hz0 hz1 hz2 rfl _ _ _ _ n (by rfl) (by rfl) rfl rfl (by omega) (by unfold maxLen; omega) ?_; intro w1 g hg hA hB1)
  clear hi hz0 hz1 hz2
  have hgw : w.heap.size ≤ g := by have := hg.out; omega
  clear hg
  go_loopg [17] n (fun gk iv wr => ∃ (k : Nat) (ps : List Value), gk = n - k ∧ k ≤ n ∧ iv = .int .i64 k ∧ ps.length = n ∧ (∀ (j : Nat) p b, j < k → ps[j]? = some p → (lasts b3)[j]? = some b → IsCert wr (g + 1) p b) ∧ Arr wr g 35 ps ∧ Below w.heap.size w wr)
  case atStart => exact ⟨0, List.replicate n (.pointer none), by omega, by omega, rfl, by simp, fun j u b h => by omega, hA, hB1⟩
  case round =>
    clear hA hB1
    obtain ⟨k, ps, hgk, hk, rfl, hul, hch, hA, hB⟩ := hrel
    have HGK : Hid (gk = n - k) := hgk
    have HCH : Hid (∀ (j : Nat) p b, j < k → ps[j]? = some p → (lasts b3)[j]? = some b → IsCert wr (g + 1) p b) := hch
    clear hgk hch
    by_cases hlt : k < n
    · obtain ⟨b1, o1, x, ha, hx, hcx⟩ := (hr.keep hB).at (k := k) (by rw [HV.out, ← hn.out]; exact hlt)
      obtain ⟨b, hb'⟩ := some_at (xs := b3) (k := k) (by rw [← hn.out]; exact hlt)
      obtain ⟨l0, l1⟩ := HLB.out k b hb'
      obtain ⟨a1, c1, vs1, ex, hvl1, hr1, hbs1⟩ := (HST.out k x b hx hb').keep hB
      have hlast := last_at l0
      have hcl := (HLC.out k b hb').2 _ _ hlast
      obtain ⟨b2, o2, y, ha2, hy, hcy⟩ := hr1.at (k := b.length - 1) (by omega)
      have hby := hbs1 _ y _ hy hlast
      obtain ⟨L, hL⟩ : ∃ L, L = b.length := ⟨_, rfl⟩
      rw [← hL] at ex l1 l0 hcy
      obtain ⟨M, hM⟩ : ∃ M, M = L - 1 := ⟨_, rfl⟩
      rw [← hM] at hcy
      have hwr : IntKind.i64.wrap ((L : Int) - 1) = (M : Int) := by
        have e1 : (L : Int) - 1 = (M : Int) := by omega
        rw [e1, IntKind.wrap_i64]
        omega
      have hML : M < L := by omega
      clear hM
      have hkI : (k : Int) < (n : Int) := by omega
      subst ha ha2 ex
      have HB : Hid (b3[k]? = some b) := hb'
      obtain ⟨z, hz⟩ : ∃ z, z = b.getLastD [] := ⟨_, rfl⟩
      obtain ⟨Z, hZ⟩ : ∃ Z, Z = z.length := ⟨_, rfl⟩
      rw [← hz] at hby hcl
      have HBY : Hid (IsBytes wr 0 y z) := hby
      have HCL : Hid (z.length ≤ 1048576) := hcl
      have HLZ : Hid ((lasts b3)[k]? = some z) := by show _ = _; rw [hz]; exact lasts_at HB.out
      have hglt := hA.lt
      obtain ⟨m0, hm0⟩ := some_at (xs := ps) (k := k) (by omega)
      have HM0 : Hid (ps[k]? = some m0) := hm0
      have HZ : Hid (Z = z.length) := hZ
      clear hx hb' hvl1 hr1 hbs1 hy hlast hby hcl l0 hL hz hm0 hZ
      have hd := below_drew wr
      go_wp2_with fail
      go_region_law (rename_i K hK; go_simp; refine (clone_any y z 0 wr.drew (HBY.out.keep hd) HCL.out).mono ?_; rintro e w2 ⟨v2, rfl, hv2, hB2⟩; obtain ⟨a2, c2, e2, hr2, ho2⟩ := hv2; rw [← HZ.out] at e2; subst e2; have hA2 := hA.keep (hd.trans hB2) hglt; have cgA := fun o => (hA2.alloc o).cell HM0.out; have fgA := fun o => (hA2.alloc o).free k; go_simp; refine hK _ _ ?_; refine wpAny_ready (rs := [15]) (by kernel_rfl) (by simp) ?_; refine AllReady.cons rfl (fun K2 hK2 => ?_) AllReady.nil; refine step_build_cert (by rfl) (.tmp 139) (by rfl) a2 Z c2 (by rfl) ?_; go_simp; refine hK2 _ _ ?_; refine wpAny_ready (rs := [16]) (by kernel_rfl) (by simp) ?_; refine AllReady.cons rfl (fun K3 hK3 => ?_) AllReady.nil; refine step_box_cert (by rfl) (.tmp 140) (by rfl) a2 Z c2 (by rfl) ?_; go_simp; refine hK3 _ _ ?_; clear hK hK2 hK3)
      all_goals
        have hB0 : Below wr.heap.size wr w2 := hd.trans hB2
        have hB1 : Below wr.heap.size wr (w2.alloc (.cells (.slice a2 Z c2 :: certRest).toArray 59)) := hB0.alloc hB0.size _
        have hAl : Below w2.heap.size w2 (w2.alloc (.cells (.slice a2 Z c2 :: certRest).toArray 59)) := (Below.refl _ _).alloc (Nat.le_refl _) _
        have hsz : wr.heap.size ≤ w2.heap.size := hB0.size
        have hnew : IsCert (w2.alloc (.cells (.slice a2 Z c2 :: certRest).toArray 59)) (g + 1) (.pointer (some ⟨w2.heap.size, 0, none⟩)) z :=
          ⟨w2.heap.size, .slice a2 Z c2, rfl, by omega, new_first _ _ _ _, a2, c2, by rw [HZ.out], hr2.keep hAl, fun b off h => by have := ho2 b off h; have : wr.heap.size ≤ b := this; omega⟩
        have hA3 := hA2.alloc (.cells (.slice a2 Z c2 :: certRest).toArray 59)
        clear cgA fgA hA2 hr2 ho2
        go_wp2_with fail
        go_roundg (n - (k + 1))
        case measure => rw [HGK.out]; omega
        case rel =>
          refine ⟨k + 1, ps.set k (.pointer (some ⟨w2.heap.size, 0, none⟩)), rfl, by omega, by go_num, by simpa using hul, fun j p b' h1 h2 h3 => ?_, hA3.set k _, (hB.trans (hB1.mono hB.size)).setCell (by simpa using hgw) _⟩
          rw [List.getElem?_set] at h2
          split at h2
          · rename_i e
            subst e
            split at h2
            · cases h2
              rw [HLZ.out] at h3
              cases h3
              exact hnew.setCell (by simp) _
            · cases h2
          · exact ((HCH.out j p b' (by omega) h2 h3).keep hB1).setCell (by simp) _
    · have hin : n = k := by omega
      subst hin
      go_wp2_with fail
      refine hrest (min B (g + 1)) ps G _ _ ⟨rfl, rfl, HS0.out.keep hB, ⟨_, rfl, hr7.keep hB⟩, ⟨hC.len, fun i v b h1 h2 => ((hC.keep hB).at' i v b h1 h2).mono (by omega), hC.inj⟩, hb.trans (hB.mono hb.size)⟩ ⟨_, _, rfl, hA.row⟩ ⟨by simp [lasts, hul]; exact hn.out, fun i p b h1 h2 => (HCH.out i p b (by have := at_lt h1; omega) h1 h2).mono (by omega)⟩
end Go.Proofs.Qxb6615622a
