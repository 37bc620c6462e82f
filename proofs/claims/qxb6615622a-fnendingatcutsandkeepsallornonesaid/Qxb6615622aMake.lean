import Derived.Test.Qxb6615622aMask
namespace Go.Proofs.Qxb6615622a
open Go.RowKit
set_option linter.unusedVariables false
set_option linter.unusedSimpArgs false

/-- What zzCerts leaves: a new array of pointers to new certificates. -/
def CertsPost (bss : List (List Int)) (n : Nat) (w : World) (e : Ending) (w' : World) : Prop :=
  ∃ g ps, e = .returned (.slice (some ⟨g, 0, none⟩) n n) ∧ Arr w' g 35 ps ∧ Certs w' (g + 1) ps bss ∧ w.heap.size ≤ g ∧ Below w.heap.size w w'

/-- The certificate's cells behind Raw: all zero. -/
def certRest : List Value := [.slice none 0 0, .slice none 0 0, .slice none 0 0, .slice none 0 0, .slice none 0 0, .slice none 0 0, .int .i64 0, .int .i64 0, .nilIface, .int .i64 0, .pointer none, .slice none 0 0, .slice none 0 0, .slice none 0 0, .slice none 0 0, .slice none 0 0, .slice none 0 0, .slice none 0 0, .string ⟨#[]⟩, .string ⟨#[]⟩, .slice none 0 0, .slice none 0 0, .slice none 0 0, .slice none 0 0, .slice none 0 0, .slice none 0 0, .slice none 0 0, .slice none 0 0, .slice none 0 0, .string ⟨#[]⟩, .string ⟨#[]⟩, .slice none 0 0, .slice none 0 0, .int .u64 0, .int .i64 0, .pointer none, .int .u64 0, .int .i64 0, .pointer none, .int .i64 0, .slice none 0 0, .slice none 0 0, .slice none 0 0, .slice none 0 0, .slice none 0 0, .bool false, .bool false, .int .i64 0, .bool false, .slice none 0 0, .slice none 0 0, .slice none 0 0, .slice none 0 0, .slice none 0 0, .slice none 0 0, .slice none 0 0, .slice none 0 0, .bool false, .slice none 0 0, .slice none 0 0, .slice none 0 0, .slice none 0 0, .slice none 0 0, .slice none 0 0, .slice none 0 0, .slice none 0 0, .slice none 0 0, .slice none 0 0, .slice none 0 0, .int .i64 0, .bool false, .int .i64 0, .bool false, .int .i64 0, .bool false, .slice none 0 0]
/-- A certificate with that Raw alone. -/
def certAgg (v : Value) : Value := .agg (v :: certRest).toArray

theorem run_build_cert (a : Option Addr) (n c : Nat) (w : World) : (Instr.build 59 #[(0, .slice a n c)]).run Try.prog w = .ok (certAgg (.slice a n c)) w := by kernel_rfl
theorem run_box_cert (a : Option Addr) (n c : Nat) (w : World) : (Instr.box 59 (certAgg (.slice a n c))).run Try.prog w = .ok (.pointer (some ⟨w.heap.size, 0, none⟩)) (w.alloc (.cells (.slice a n c :: certRest).toArray 59)) := by kernel_rfl

theorem new_first (w : World) (v : Value) (cs : List Value) (t : TypeId) : (w.alloc (.cells (v :: cs).toArray t)).cell? ⟨w.heap.size, 0, none⟩ = some v := by
  have h : Arr (w.alloc (.cells (v :: cs).toArray t)) w.heap.size t (v :: cs) := heap_alloc_new _ _
  exact h.cell rfl

theorem wpList_build_cert {w : World} {ops : Array Oper} {rest : List Oper} {o : Oper} {a : Act} {Q : Exit → Act → World → Prop} (hgd : o.guard = none) (x : Operand) (hop : o.op = Op.build 59 #[(0, x)])
    (sa : Option Addr) (n c : Nat) (hx : a.eval x = .slice sa n c) (hK : wpList Try.prog ops Q rest (a.put o.dst (certAgg (.slice sa n c))) w) : wpList Try.prog ops Q (o :: rest) a w := by
  refine wpList_plain hgd fun K hK' => ?_
  unfold Oper.wp
  simp only [execOp, hop]
  simp [hx, run_build_cert, Result.andThen]
  exact hK' _ _ hK

theorem wpList_box_cert {w : World} {ops : Array Oper} {rest : List Oper} {o : Oper} {a : Act} {Q : Exit → Act → World → Prop} (hgd : o.guard = none) (x : Operand) (hop : o.op = Op.box 59 x)
    (sa : Option Addr) (n c : Nat) (hx : a.eval x = certAgg (.slice sa n c))
    (hK : ∀ w' g, Hid (g = w.heap.size) → w'.cell? ⟨g, 0, none⟩ = some (.slice sa n c) → Below w.heap.size w w' → wpList Try.prog ops Q rest (a.put o.dst (.pointer (some ⟨g, 0, none⟩))) w') : wpList Try.prog ops Q (o :: rest) a w := by
  refine wpList_plain hgd fun K hK' => ?_
  unfold Oper.wp
  simp only [execOp, hop]
  simp [hx, run_box_cert, Result.andThen]
  exact hK' _ _ (hK _ w.heap.size rfl (new_first _ _ _ _) ((Below.refl _ _).alloc (Nat.le_refl _) _))

set_option maxRecDepth 100000 in
set_option maxHeartbeats 1000000 in
theorem certs_any (v : Value) (bss : List (List Int)) (n : Nat) (w : World) (h : Strs w v bss) (hn : Hid (n = bss.length)) (ln : n ≤ 1048576) (hlen : ∀ (i : Nat) b, bss[i]? = some b → b.length ≤ 1048576) :
    Calls Try.prog 8 #[v] w (CertsPost bss n w) := by
  obtain ⟨a, c, vs, rfl, hvl, hr, hb⟩ := h
  rw [← hn.out]
  have HLEN : Hid (∀ (i : Nat) b, bss[i]? = some b → b.length ≤ 1048576) := hlen
  have HV : Hid (vs.length = bss.length) := hvl
  have HBY : Hid (∀ (i : Nat) x b, vs[i]? = some x → bss[i]? = some b → IsBytes w 0 x b) := hb
  clear hlen hvl hb
  obtain ⟨i0, hi, hz0, hz1, hz2⟩ := info_parts Try.info35
  go_enter Try.func8, Try.ntmps8
  go_wp2_with (at_make; refine wpList_make_arr _ rfl _ _ 29 rfl 35 i0 (.pointer none) 8 Try.underlying29 hi hz0 hz1 hz2 rfl _ _ _ _ n (by rfl) (by rfl) rfl rfl (by omega) (by unfold maxLen; omega) ?_; intro w1 g hg hA hB1)
  clear hi hz0 hz1 hz2
  have hgw : w.heap.size ≤ g := by have := hg.out; omega
  clear hg
  go_loopg [4] n (fun gk iv wr => ∃ (k : Nat) (ps : List Value), gk = n - k ∧ k ≤ n ∧ iv = .int .i64 k ∧ ps.length = n ∧ (∀ (j : Nat) p b, j < k → ps[j]? = some p → bss[j]? = some b → IsCert wr (g + 1) p b) ∧ Arr wr g 35 ps ∧ Below w.heap.size w wr)
  case atStart => exact ⟨0, List.replicate n (.pointer none), by omega, by omega, rfl, by simp, fun j p b h => by omega, hA, hB1⟩
  case round =>
    clear hA hB1
    obtain ⟨k, ps, hgk, hk, rfl, hpl, hcs, hA, hB⟩ := hrel
    have HGK : Hid (gk = n - k) := hgk
    have HCS : Hid (∀ (j : Nat) p b, j < k → ps[j]? = some p → bss[j]? = some b → IsCert wr (g + 1) p b) := hcs
    clear hgk hcs
    by_cases hlt : k < n
    · obtain ⟨b1, o1, x, ha, hx, hcx⟩ := (hr.keep hB).at (k := k) (by rw [HV.out, ← hn.out]; exact hlt)
      obtain ⟨b, hb⟩ := some_at (xs := bss) (k := k) (by rw [← hn.out]; exact hlt)
      have hby := (HBY.out k x b hx hb).keep hB
      have hbl := HLEN.out k b hb
      subst ha
      have HB : Hid (bss[k]? = some b) := hb
      have hglt := hA.lt
      clear hx hb
      go_wp2_with fail
      refine (clone_any x b 0 wr hby hbl).mono ?_
      rintro e w2 ⟨v2, rfl, hv2, hB2⟩
      obtain ⟨a2, c2, rfl, hr2, ho2⟩ := hv2
      have hA2 := hA.keep hB2 hglt
      have hsz : g < w2.heap.size := hA2.lt
      obtain ⟨m0, hm0⟩ := some_at (xs := ps) (k := k) (by omega)
      have cg := hA2.cell hm0
      have fg := hA2.free k
      clear hm0 hby
      have hB02 := hB.trans (hB2.mono hB.size)
      go_wp2_with (first | (refine wpList_build_cert rfl (.tmp 20) (by rfl) a2 b.length c2 (by rfl) ?_) | (refine wpList_box_cert rfl (.tmp 21) (by rfl) a2 b.length c2 (by rfl) ?_; intro w3 g3 hg3 hc3 hB3; have hA3 := hA2.keep hB3 hsz; have cg3 := hB3.cell (p := ⟨g, k, none⟩) hsz; have fg3 := hA3.free k))
      have hg3' : g < g3 := by have := hg3.out; omega
      have hcert : IsCert w3 (g + 1) (.pointer (some ⟨g3, 0, none⟩)) b := ⟨g3, _, rfl, hg3', hc3, ⟨a2, c2, rfl, hr2.keep hB3, fun b' off h' => by have := ho2 b' off h'; omega⟩⟩
      go_roundg (n - (k + 1))
      case measure => rw [HGK.out]; omega
      case rel =>
        refine ⟨k + 1, ps.set k (.pointer (some ⟨g3, 0, none⟩)), rfl, by omega, by go_num, by simpa using hpl, fun j p b' h1 h2 h3 => ?_, hA3.set k _, (hB02.trans (hB3.mono hB02.size)).setCell (by simpa using hgw) _⟩
        rw [List.getElem?_set] at h2
        split at h2
        · rename_i e
          subst e
          split at h2
          · cases h2
            rw [HB.out] at h3
            cases h3
            exact hcert.setCell (by simp) _
          · cases h2
        · exact (((HCS.out j p b' (by omega) h2 h3).keep hB2).keep hB3).setCell (by simp) _
    · have hkn : k = n := by omega
      subst hkn
      go_wp2_with fail
      go_ret
      exact ⟨g, ps, rfl, hA, ⟨by rw [hpl]; exact hn.out, fun j p b h1 h2 => HCS.out j p b (by have := at_lt h1; omega) h1 h2⟩, hgw, hB⟩

/-- What zzBuild leaves: a new array of new chains. -/
def BuildPost (b3 : List (List (List Int))) (n : Nat) (w : World) (e : Ending) (w' : World) : Prop :=
  ∃ g vs G, e = .returned (.slice (some ⟨g, 0, none⟩) n n) ∧ Arr w' g 29 vs ∧ Chains w' w.heap.size vs b3 G ∧ w.heap.size ≤ g ∧ Below w.heap.size w w'

theorem Certs.setCell {w : World} {B : Nat} {ps : List Value} {bss : List (List Int)} (h : Certs w B ps bss) {q : Addr} (hq : q.block < B) (u : Value) : Certs (w.setCell q u) B ps bss := ⟨h.1, fun i p b h1 h2 => (h.2 i p b h1 h2).setCell hq u⟩
theorem ChainOf.setCell {w : World} {B : Nat} {v : Value} {b : List (List Int)} {g : Nat} (h : ChainOf w B v b g) {q : Addr} (hq : q.block < B) (u : Value) : ChainOf (w.setCell q u) B v b g := by
  obtain ⟨ps, e, hA, hC, hB⟩ := h
  exact ⟨ps, e, hA.other (by omega) u, hC.setCell hq u, hB⟩

set_option maxRecDepth 100000 in
set_option maxHeartbeats 1000000 in
theorem build_any (v : Value) (b3 : List (List (List Int))) (n : Nat) (w : World) (h : Strss w v b3) (hn : Hid (n = b3.length)) (ln : n ≤ 4096) (hlen : ∀ (i : Nat) b, b3[i]? = some b → b.length ≤ 1048576 ∧ ∀ (j : Nat) c, b[j]? = some c → c.length ≤ 1048576) :
    Calls Try.prog 7 #[v] w (BuildPost b3 n w) := by
  obtain ⟨a, c, vs, rfl, hvl, hr, hb⟩ := h
  rw [← hn.out]
  have HLEN : Hid (∀ (i : Nat) b, b3[i]? = some b → b.length ≤ 1048576 ∧ ∀ (j : Nat) c, b[j]? = some c → c.length ≤ 1048576) := hlen
  have HV : Hid (vs.length = b3.length) := hvl
  have HST : Hid (∀ (i : Nat) x b, vs[i]? = some x → b3[i]? = some b → Strs w x b) := hb
  clear hlen hvl hb
  obtain ⟨i0, hi, hz0, hz1, hz2⟩ := info_parts Try.info29
  go_enter Try.func7, Try.ntmps7
  go_wp2_with (at_make; refine wpList_make_arr _ rfl _ _ 27 rfl 29 i0 (.slice none 0 0) 24 Try.underlying27 hi hz0 hz1 hz2 rfl _ _ _ _ n (by rfl) (by rfl) rfl rfl (by omega) (by unfold maxLen; omega) ?_; intro w1 g hg hA hB1)
  clear hi hz0 hz1 hz2
  have hgw : w.heap.size ≤ g := by have := hg.out; omega
  clear hg
  go_loopg [4] n (fun gk iv wr => ∃ (k : Nat) (us : List Value) (G : Nat → Nat), gk = n - k ∧ k ≤ n ∧ iv = .int .i64 k ∧ us.length = n ∧ (∀ (j : Nat) u b, j < k → us[j]? = some u → b3[j]? = some b → ChainOf wr (g + 1) u b (G j)) ∧ (∀ i j, i < k → j < k → G i = G j → i = j) ∧ (∀ i, i < k → G i < wr.heap.size) ∧ Arr wr g 29 us ∧ Below w.heap.size w wr)
  case atStart => exact ⟨0, List.replicate n (.slice none 0 0), fun _ => 0, by omega, by omega, rfl, by simp, fun j u b h => by omega, fun i j h => by omega, fun i h => by omega, hA, hB1⟩
  case round =>
    clear hA hB1
    obtain ⟨k, us, G, hgk, hk, rfl, hul, hch, hinj, hGl, hA, hB⟩ := hrel
    have HGK : Hid (gk = n - k) := hgk
    have HCH : Hid (∀ (j : Nat) u b, j < k → us[j]? = some u → b3[j]? = some b → ChainOf wr (g + 1) u b (G j)) := hch
    have HIN : Hid (∀ i j, i < k → j < k → G i = G j → i = j) := hinj
    have HGL : Hid (∀ i, i < k → G i < wr.heap.size) := hGl
    clear hgk hch hinj hGl
    by_cases hlt : k < n
    · obtain ⟨b1, o1, x, ha, hx, hcx⟩ := (hr.keep hB).at (k := k) (by rw [HV.out, ← hn.out]; exact hlt)
      obtain ⟨b, hb⟩ := some_at (xs := b3) (k := k) (by rw [← hn.out]; exact hlt)
      have hst := (HST.out k x b hx hb).keep hB
      obtain ⟨hbl, hbc⟩ := HLEN.out k b hb
      subst ha
      have HB : Hid (b3[k]? = some b) := hb
      have HBC : Hid (∀ (j : Nat) c, b[j]? = some c → c.length ≤ 1048576) := hbc
      have hglt := hA.lt
      clear hx hb hbc
      go_wp2_with fail
      refine (certs_any x b b.length wr hst rfl hbl HBC.out).mono ?_
      rintro e w2 ⟨g2, ps, rfl, hA2, hcs, hg2, hB2⟩
      have hAg := hA.keep hB2 hglt
      obtain ⟨m0, hm0⟩ := some_at (xs := us) (k := k) (by omega)
      have cg := hAg.cell hm0
      have fg := hAg.free k
      have hB02 := hB.trans (hB2.mono hB.size)
      clear hm0 hst
      go_wp2_with fail
      have hnew : ChainOf w2 (g + 1) (.slice (some ⟨g2, 0, none⟩) b.length b.length) b g2 := ⟨ps, rfl, hA2, hcs.mono (by omega), by omega⟩
      go_roundg (n - (k + 1))
      case measure => rw [HGK.out]; omega
      case rel =>
        refine ⟨k + 1, us.set k (.slice (some ⟨g2, 0, none⟩) b.length b.length), fun j => if j = k then g2 else G j, rfl, by omega, by go_num, by simpa using hul, fun j u b' h1 h2 h3 => ?_, fun i j h1 h2 h3 => ?_, fun i h1 => ?_, hAg.set k _, hB02.setCell (by simpa using hgw) _⟩
        · rw [List.getElem?_set] at h2
          split at h2
          · rename_i e
            subst e
            split at h2
            · cases h2
              rw [HB.out] at h3
              cases h3
              simp only [if_true]
              exact hnew.setCell (by simp) _
            · cases h2
          · rename_i e
            have ejk : ¬ j = k := by omega
            simp only [ejk, if_false]
            exact ((HCH.out j u b' (by omega) h2 h3).keep hB2).setCell (by simp) _
        · by_cases e1 : i = k <;> by_cases e2 : j = k
          · omega
          · simp only [e1, e2, if_true, if_false] at h3
            have := HGL.out j (by omega)
            omega
          · simp only [e1, e2, if_true, if_false] at h3
            have := HGL.out i (by omega)
            omega
          · simp only [e1, e2, if_false] at h3
            exact HIN.out i j (by omega) (by omega) h3
        · have hsz : w2.heap.size ≤ (w2.setCell ⟨g, k, none⟩ (.slice (some ⟨g2, 0, none⟩) b.length b.length)).heap.size := by simp [World.setCell]
          by_cases e1 : i = k
          · simp only [e1, if_true]
            have := hA2.lt
            omega
          · simp only [e1, if_false]
            have := HGL.out i (by omega)
            have := hB2.size
            omega
    · have hkn : k = n := by omega
      subst hkn
      go_wp2_with fail
      go_ret
      exact ⟨g, us, G, rfl, hA, ⟨by rw [hul]; exact hn.out, fun j u b h1 h2 => (HCH.out j u b (by have := at_lt h1; omega) h1 h2).mono (by omega), fun i j h1 h2 => HIN.out i j (by omega) (by omega)⟩, hgw, hB⟩
end Go.Proofs.Qxb6615622a
