/-
  THE WALK of addModel (21).
-/
import Derived.Test.Qxb6603470aStack
import Derived.Deep.LoopGhost
import Derived.Deep.Cut
import Derived.BigQuiet
namespace Go.Proofs.Qxb6603470a
open Go.RowKit
set_option linter.unusedVariables false
set_option linter.unusedSimpArgs false

theorem info66 : (Try.prog.info? 66).map (fun i => (i.zero, i.size, i.bytes)) = some (some (.agg #[.int .i64 0, .int .i64 0, .int .i64 0, .int .i64 0, .bool false]), 5, 40) := by kernel_rfl
theorem cell_five_new (w : World) (a b c d e : Value) (t : TypeId) : ∀ j u, [a, b, c, d, e][j]? = some u → (w.alloc (.cells #[a, b, c, d, e] t)).cell? ((⟨w.heap.size, 0, none⟩ : Addr).add j) = some u := by
  intro j u hj
  match j, hj with
  | 0, hj => simp at hj; subst hj; simp [Addr.add]
  | 1, hj => simp at hj; subst hj; simp [Addr.add]
  | 2, hj => simp at hj; subst hj; simp [Addr.add]
  | 3, hj => simp at hj; subst hj; simp [Addr.add]
  | 4, hj => simp at hj; subst hj; simp [Addr.add]
theorem one66 (a b c d : Int) (e : Bool) : ∀ u ∈ [Value.int .i64 a, .int .i64 b, .int .i64 c, .int .i64 d, .bool e], u.oneCell' = true := by
  intro u hu
  simp at hu
  rcases hu with rfl | rfl | rfl | rfl | rfl <;> rfl
theorem one9 (s : ByteArray) : ∀ u ∈ [Value.string s], u.oneCell' = true := by intro u hu; simp at hu; subst hu; rfl

def ModRes (R : List ByteArray × Nat × Bool) (w : World) (e : Ending) (w' : World) : Prop :=
  Below w.heap.size w w' ∧ ∃ v, e = .returned (.tuple #[v, .int .i64 R.2.1, .bool R.2.2]) ∧ w'.ownsRow w.heap.size 9 1 v R.1.length (R.1.map Value.string) ∧ R.1.length ≤ 4194304

theorem a_start (w : World) (n : Nat) : AInv w (w.alloc (.cells #[.int .i64 (-1), .int .i64 n, .int .i64 0, .int .i64 0, .bool false] 66)) (.slice none 0 0) (.slice (some ⟨w.heap.size, 0, none⟩) 1 1) [] [⟨-1, n, 0, 0, false⟩] :=
  ⟨(Below.refl _ _).alloc (Nat.le_refl _) _, World.ownsRow_nil _ _ _ _, World.ownsRow_lit w #[.int .i64 (-1), .int .i64 n, .int .i64 0, .int .i64 0, .bool false] 1 (Nat.le_refl _) (by decide) rfl, fun k hk => by cases hk⟩

theorem AInv.drewN {w wr : World} {vo vs : Value} {outs : List ByteArray} {fs : List Fr} (h : AInv w wr vo vs outs fs) (x : Nat) : AInv w (wr.drewN x) vo vs outs fs := ⟨below_drewN h.below x, h.own, h.stk, h.apart⟩
set_option maxRecDepth 100000 in
set_option maxHeartbeats 4000000 in
theorem model_any (v0 v1 : Value) (T : Tab) (top : List (List SP)) (w : World) (h0 : TabAt w (· < w.heap.size) v0 T) (h1 : LnsAt pc w (· < w.heap.size) v1 top) (hw : WF T) (hf : TabFit T) (ht : TopOK T top) (hl : top.length ≤ 1048576) :
    Calls Try.prog 21 #[v0, v1, .bool false, .int .i64 0] w fun e w' => ModRes (eat [] 0 (evLines T false top)) w e w' := by
  obtain ⟨R, hR⟩ : ∃ R, R = eat [] 0 (evLines T false top) := ⟨_, rfl⟩
  have HR : Hid (R = eat [] 0 (evLines T false top)) := hR
  rw [← hR]
  clear hR
  obtain ⟨a0, c0, V0, rfl, hc0, hn0, hat0, hel0⟩ := h0
  obtain ⟨a1, c1, V1, rfl, hc1, hn1, hat1, hel1⟩ := h1
  have HA0 : Hid (At w (· < w.heap.size) a0 T.length T.length V0) := hat0
  have HE0 : Hid (∀ d, d < T.length → LnsAt pc w (· < w.heap.size) (V0 d) (T.getD d [])) := hel0
  have HA1 : Hid (At w (· < w.heap.size) a1 top.length top.length V1) := hat1
  have HE1 : Hid (∀ j, j < top.length → PcsAt pc w (· < w.heap.size) (V1 j) (top.getD j [])) := hel1
  have HW : Hid (WF T ∧ TabFit T ∧ TopOK T top) := ⟨hw, hf, ht⟩
  have hl3 := hf.1
  clear hat0 hel0 hat1 hel1 hw hf ht
  obtain ⟨n0, hn0'⟩ : ∃ n, n = T.length := ⟨_, rfl⟩
  have HN0 : Hid (n0 = T.length) := hn0'
  rw [← hn0'] at hc0 hn0 hl3 ⊢
  clear hn0'
  obtain ⟨n1, hn1'⟩ : ∃ n, n = top.length := ⟨_, rfl⟩
  have HN1 : Hid (n1 = top.length) := hn1'
  rw [← hn1'] at hc1 hn1 hl ⊢
  clear hn1'
  obtain ⟨i66, hi6, hy0, hy1, hy2⟩ := info_parts info66
  obtain ⟨i9, hi9, hz0, hz1, hz2⟩ := info_parts info9
  go_enter Try.func21, Try.ntmps21
  go_wp2_with fail
  have HI := a_start w n1
  have HO : Hid (AOK T top R [] 0 [⟨-1, n1, 0, 0, false⟩]) := by
    refine ⟨fun f hf => ?_, ⟨?_, trivial⟩, Nat.le_refl _, by decide, ?_⟩
    · rw [List.mem_singleton] at hf; subst hf; exact .inl ⟨rfl, rfl, HN1.out⟩
    · show rkF T _ + 0 ≤ _
      unfold rkF; rw [if_pos (show (-1 : Int) < 0 by decide)]; exact Nat.le_refl _
    · rw [HR.out, restS_cons]
      unfold remF frLines
      rw [if_pos (show (-1 : Int) < 0 by decide)]
      dsimp only
      rw [List.take_of_length_le (by rw [HN1.out]; exact Nat.le_refl _), List.drop_zero, rem_zero]
      simp [restS]
  generalize w.alloc (.cells #[.int .i64 (-1), .int .i64 n1, .int .i64 0, .int .i64 0, .bool false] 66) = w1 at *
  obtain ⟨K, hK⟩ : ∃ K, K = (restS T top [⟨-1, n1, 0, 0, false⟩]).length := ⟨_, rfl⟩
  have HK : Hid (K = (restS T top [⟨-1, n1, 0, 0, false⟩]).length) := hK
  clear hK
  go_loopg [3, 11, 12] K (fun gk s vo vs wr => ∃ (outs : List ByteArray) (sz : Nat) (fs : List Fr), s = .int .i64 sz ∧ AInv w wr vo vs outs fs ∧ Hid (AOK T top R outs sz fs ∧ gk = (restS T top fs).length))
  case atStart => exact ⟨[], 0, _, rfl, HI, HO.out, HK.out⟩
  case round =>
    clear HI HO HK
    obtain ⟨outs, sz, fs, rfl, hi, HX⟩ := hrel
    have hszl := HX.out.1.lim
    have hol := HX.out.1.len
    have hdp := HX.out.1.depth HW.out.2.1
    obtain ⟨as', cs', rfl, hsh⟩ := hi.shape
    obtain ⟨ao, co, hvo⟩ := hi.shapeO
    subst hvo
    cases fs with
    | nil =>
      have HD : Hid (R = (outs, sz, true)) := HX.out.1.done
      go_wp2_with fail
      refine bodyPost_ret (results_tmp3 rfl _ _ _) rfl ?_
      rw [HD.out]
      exact ⟨hi.below, _, rfl, hi.own, by dsimp only; omega⟩
    | cons f fs =>
      obtain ⟨g, rfl, hgc⟩ := hsh (by simp)
      clear hsh
      obtain ⟨m, hm⟩ : ∃ m, m = fs.length := ⟨_, rfl⟩
      have HM : Hid (fs.length = m) := hm.symm
      simp only [List.length_cons] at hi hgc hdp
      rw [← hm] at hi hgc hdp
      simp only [List.length_cons]
      rw [← hm]
      clear hm
      obtain ⟨d, n, li, pi, q⟩ := f
      have c0 := (hi.top HM.out 0 rfl).1
      have c1 := (hi.top HM.out 1 rfl).1
      have c2 := (hi.top HM.out 2 rfl).1
      have c3 := (hi.top HM.out 3 rfl).1
      have c4 := (hi.top HM.out 4 rfl).1
      rw [Nat.add_zero] at c0
      have HFO : Hid (FrOK T top ⟨d, n, li, pi, q⟩) := HX.out.1.ok _ (List.mem_cons_self ..)
      go_upto_region 6 with fail
      have hfb : BlockAt (wr.alloc (.cells #[.int .i64 d, .int .i64 n, .int .i64 li, .int .i64 pi, .bool q] 66)) wr.heap.size 66 [.int .i64 d, .int .i64 n, .int .i64 li, .int .i64 pi, .bool q] := heap_alloc_new wr _
      have hi2 := hi.alloc (.cells #[.int .i64 d, .int .i64 n, .int .i64 li, .int .i64 pi, .bool q] 66)
      have hgf : g < wr.heap.size := (hi.stk.lt g rfl).2
      have hgw : w.heap.size ≤ g := (hi.stk.lt g rfl).1
      generalize wr.alloc (.cells #[.int .i64 d, .int .i64 n, .int .i64 li, .int .i64 pi, .bool q] 66) = w2 at *
      generalize wr.heap.size = fb at *
      clear hi c0 c1 c2 c3 c4
      have e0 := hfb.cell 0 rfl
      have e1 := hfb.cell 1 rfl
      have e2 := hfb.cell 2 rfl
      have e3 := hfb.cell 3 rfl
      have e4 := hfb.cell 4 rfl
      by_cases hli : n ≤ li
      · obtain ⟨HX1, HX2⟩ := HX.out.1.pop hli
        have HX3 : Hid (AOK T top R outs sz fs ∧ (restS T top (⟨d, n, li, pi, q⟩ :: fs)).length = (restS T top fs).length + 1) := ⟨HX1, HX2⟩
        clear HX1 HX2
        have hi3 := hi2.pop HM.out
        go_wp2_with fail
        go_roundg ((restS T top fs).length)
        case measure => have := HX.out.2; have := HX3.out.2; omega
        case rel => exact ⟨outs, sz, fs, rfl, hi3, HX3.out.1, rfl⟩
      by_cases hd : d < 0
      · obtain ⟨hd1, hq1, hnn⟩ : d = -1 ∧ q = false ∧ n = top.length := by
          rcases HFO.out with h | ⟨h, _⟩
          · exact h
          · dsimp only at h; omega
        subst hd1 hq1
        have HNN : Hid (n = top.length) := hnn
        clear hnn hd
        have HLF : Hid (lineF T top ⟨-1, n, li, pi, false⟩ = top.getD li []) := rfl
        obtain ⟨b1, o1, rfl, hb1, hcell1⟩ := HA1.out (by have := HNN.out; omega)
        have hcl := (hi2.below.cell (p := ⟨b1, o1 + li, none⟩) hb1).trans (hcell1 li (by have := HNN.out; omega))
        have hnn1 : n = n1 := by have := HNN.out; have := HN1.out; omega
        clear hcell1
        have hPC := (HE1.out li (by have := HNN.out; omega)).next (Same.of_below hi2.below (fun b h => h)) (B' := (· < w.heap.size)) (fun b h => h)
        obtain ⟨aL, cL, hVL, hnL, hatL⟩ := pcs_shape hPC
        rw [hVL] at hcl
        clear hVL hPC
        generalize hLe : top.getD li [] = L at *
        have HLN : Hid (lineF T top ⟨-1, n, li, pi, false⟩ = L) := HLF.out
        clear HLF hLe
        have HATL : Hid (At w2 (· < w.heap.size) aL L.length (L.length * 4) (fun i => pc (L.getD (i / 4) default) (i % 4))) := hatL
        clear hatL
        obtain ⟨nL, hnL'⟩ : ∃ n, n = L.length := ⟨_, rfl⟩
        have HNL : Hid (nL = L.length) := hnL'
        rw [← hnL'] at hcl hnL
        clear hnL'
        subst hnn1
        have hLL : nL ≤ 9223372036854775807 := hnL
        by_cases hpi : nL ≤ pi
        · obtain ⟨HX1, HX2⟩ := HX.out.1.next (by exact Nat.not_le.1 hli) (by rw [HLN.out, ← HNL.out]; exact hpi)
          have HX3 : Hid (AOK T top R outs sz (⟨-1, n, li + 1, 0, false⟩ :: fs) ∧ (restS T top (⟨-1, n, li, pi, false⟩ :: fs)).length = (restS T top (⟨-1, n, li + 1, 0, false⟩ :: fs)).length + 1) := ⟨HX1, HX2⟩
          clear HX1 HX2
          have hi3 := (hi2.put (f' := ⟨-1, n, li + 1, pi, false⟩) HM.out 2 (.int .i64 ((li : Int) + 1)) rfl).put (f' := ⟨-1, n, li + 1, 0, false⟩) HM.out 3 (.int .i64 0) rfl
          obtain ⟨g2, f2⟩ := hi2.top HM.out 2 rfl
          obtain ⟨g3, f3⟩ := hi2.top HM.out 3 rfl
          go_wp2_with fail
          go_roundg ((restS T top (⟨-1, n, li + 1, 0, false⟩ :: fs)).length)
          case measure => have := HX.out.2; have := HX3.out.2; omega
          case rel => exact ⟨outs, sz, _, rfl, hi3, HX3.out.1, rfl⟩
        have hpl : pi < nL := Nat.not_le.1 hpi
        have hi3 := hi2.put (f' := ⟨-1, n, li, pi + 1, false⟩) HM.out 3 (.int .i64 ((pi : Int) + 1)) rfl
        obtain ⟨g3, f3⟩ := hi2.top HM.out 3 rfl
        have hfb3 : BlockAt (w2.setCell ⟨g, m * 5 + 3, none⟩ (.int .i64 ((pi : Int) + 1))) fb 66 [.int .i64 (-1), .int .i64 n, .int .i64 li, .int .i64 pi, .bool false] := hfb.of (Below.heap_setCell _ _ _ _ (by show fb ≠ g; omega))
        have hsm : ∀ b, b < w.heap.size → (w2.setCell ⟨g, m * 5 + 3, none⟩ (.int .i64 ((pi : Int) + 1))).heap[b]? = w2.heap[b]? := fun b hb => Below.heap_setCell _ _ _ _ (by show b ≠ g; omega)
        obtain ⟨bL, oL, rfl, hbL, hcL⟩ := HATL.out (by have := HNL.out; omega)
        obtain ⟨d0, d1, d2, d3⟩ := at4 (a := none) (n := 0) (k := pi) (by have := HNL.out; omega) hcL
        clear hcL HATL
        have HSM : Hid (∀ i, (w2.setCell ⟨g, m * 5 + 3, none⟩ (.int .i64 ((pi : Int) + 1))).cell? ⟨bL, i, none⟩ = w2.cell? ⟨bL, i, none⟩) := fun i => World.cell?_of_block (hsm bL hbL)
        clear hsm
        go_upto_region 16 with fail
        replace d0 := (HSM.out _).trans d0
        replace d1 := (HSM.out _).trans d1
        replace d2 := (HSM.out _).trans d2
        replace d3 := (HSM.out _).trans d3
        have q1 := hfb3.cell 4 rfl
        have q3 := hfb3.cell 3 rfl
        generalize w2.setCell ⟨g, m * 5 + 3, none⟩ (.int .i64 ((pi : Int) + 1)) = w3 at *
        clear HSM hi2 hfb e0 e1 e2 e3 e4 g3 f3 hcl
        have HLP : Hid (pi < (lineF T top ⟨-1, n, li, pi, false⟩).length) := by rw [HLN.out, ← HNL.out]; exact hpl
        have HPE : Hid ((lineF T top ⟨-1, n, li, pi, false⟩).getD pi default = L.getD pi default) := by rw [HLN.out]; rfl
        generalize hpp : L.getD pi default = p at *
        clear hpp
        obtain ⟨po, pq, pr, pn⟩ := p
        simp only [pc] at d0 d1 d2 d3
        have HPO : Hid _ := piece_ok HW.out.1 HW.out.2.1 HW.out.2.2 HFO.out (by exact Nat.not_le.1 hli) HLP.out
        go_wp2_with fail
        refine (hasRef_any ⟨po, pq, pr, pn⟩ n0 _).mono ?_
        rintro e w5 ⟨rfl, hb5⟩
        have hpb : BlockAt w5 w3.heap.size 55 [.string po, .string pq, .int .i64 pr, .int .i64 pn] := (hb5.block _ (by simp)).trans (heap_alloc_new w3 _)
        have hb6 : Below w3.heap.size w3 w5 := ((Below.refl _ _).alloc (Nat.le_refl _) _).trans (hb5.mono (by simp))
        have hi5 := hi3.moved hb6
        have hfb5 := hfb3.of (hb6.block fb hfb3.lt)
        clear hb5 hb6 hi3 hfb3 d0 d1 d2 d3 q1 q3
        generalize w3.heap.size = pb at *
        have e0 := hpb.cell 0 rfl
        have e1 := hpb.cell 1 rfl
        have e2 := hpb.cell 2 rfl
        have e3 := hpb.cell 3 rfl
        have e4 := hfb5.cell 4 rfl
        have hsz5 := hi5.size
        cases hr : hasR n0 ⟨po, pq, pr, pn⟩
        · have HHR : Hid (hasR T.length ((lineF T top ⟨-1, n, li, pi, false⟩).getD pi default) = false) := by rw [HPE.out, ← HN0.out]; exact hr
          clear hr
          have hem := HX.out.1.emit HW.out.1 HW.out.2.1 HW.out.2.2 (by exact Nat.not_le.1 hli) HLP.out HHR.out (opt := po) (by dsimp only; rw [HPE.out]; rfl)
          obtain ⟨z1, z2, z3, z4⟩ := hem
          by_cases hbig : 4194304 < sz + (po).size
          · have HD : Hid (R = (outs, sz + (po).size, false)) := z2 hbig
            clear z2 z3 z4
            go_wp2_with fail
            refine bodyPost_ret (results_tmp3 rfl _ _ _) rfl ?_
            rw [HD.out]
            exact ⟨hi5.below, _, rfl, hi5.own, by dsimp only; omega⟩
          · have HX3 : Hid (AOK T top R (outs ++ [po]) (sz + (po).size) (⟨-1, n, li, pi + 1, false⟩ :: fs) ∧ (restS T top (⟨-1, n, li, pi, false⟩ :: fs)).length = (restS T top (⟨-1, n, li, pi + 1, false⟩ :: fs)).length + 1) := ⟨z3 hbig, z4⟩
            clear z2 z3 z4
            go_wp2_with (at_builtin; refine wpList_append_own_at _ rfl (.tmp 112) (.tmp 114) 22 rfl w.heap.size 9 i9 (.string ⟨#[]⟩) 1 16 Try.underlying22 hi9 hz0 hz1 hz2 rfl (by decide) _ _ _ rfl (hi5.own.alloc _) _ 1 1 [.string po] rfl rfl (cell_one_new _ _ _) (one9 _) (by unfold maxLen; omega) (by omega) (by simp; omega) ?_; intro v' w7 hown7 hgrow hnil hloc; clear hnil)
            have hi7 := hi5.out hown7 hgrow hloc
            clear hown7 hgrow hloc hi5 hpb hfb5 e0 e1 e2 e3 e4
            go_wp2_with fail
            go_roundg ((restS T top (⟨-1, n, li, pi + 1, false⟩ :: fs)).length)
            case measure => have := HX.out.2; have := HX3.out.2; omega
            case rel => exact ⟨outs ++ [po], sz + (po).size, _, by go_num, hi7, HX3.out.1, rfl⟩
        · have HHR : Hid (hasR T.length ((lineF T top ⟨-1, n, li, pi, false⟩).getD pi default) = true) := by rw [HPE.out, ← HN0.out]; exact hr
          obtain ⟨hr0, hr1⟩ := hasR_iff.1 hr
          dsimp only at hr0 hr1
          clear hr
          have hpn : 0 ≤ pn ∧ pn ≤ 1048576 := by
            have := HPO.out.1 HHR.out
            rw [HPE.out] at this
            have h2 := len_fit HW.out.2.1 (SP.mk po pq pr pn).r.toNat
            dsimp only at this h2
            omega
          obtain ⟨N, rfl⟩ : ∃ N : Nat, pn = N := ⟨pn.toNat, by omega⟩
          obtain ⟨HX1, HX2⟩ := HX.out.1.push HW.out.1 HW.out.2.1 HW.out.2.2 (by exact Nat.not_le.1 hli) HLP.out HHR.out (n := N) (by rw [HPE.out])
          have HX3 : Hid (AOK T top R outs sz (⟨pr, N, 0, 0, true⟩ :: ⟨-1, n, li, pi + 1, false⟩ :: fs) ∧ (restS T top (⟨-1, n, li, pi, false⟩ :: fs)).length = (restS T top (⟨pr, N, 0, 0, true⟩ :: ⟨-1, n, li, pi + 1, false⟩ :: fs)).length + 1) := by
            have q2 := HPE.out
            dsimp only at HX1 HX2
            rw [q2] at HX1 HX2
            exact ⟨HX1, HX2⟩
          clear HX1 HX2
          have hstk := hi5.stk
          simp only [List.length_cons, HM.out] at hstk
          go_wp2_with (at_builtin; refine wpList_append_own_at _ rfl (.tmp 90) (.tmp 96) 67 rfl w.heap.size 66 i66 (.agg #[.int .i64 0, .int .i64 0, .int .i64 0, .int .i64 0, .bool false]) 5 40 Try.underlying67 hi6 hy0 hy1 hy2 rfl (by decide) _ _ _ rfl (hstk.alloc _) _ 1 1 [.int .i64 pr, .int .i64 N, .int .i64 0, .int .i64 0, .bool true] rfl rfl (cell_five_new _ _ _ _ _ _ _) (one66 _ _ _ _ _) (by unfold maxLen; omega) (by omega) (by simp; omega) ?_; intro v' w7 hown7 hgrow hnil hloc; clear hnil)
          have hi7 := hi5.push (f := ⟨pr, N, 0, 0, true⟩) (by simp only [List.length_cons, HM.out]; exact hown7) hgrow hloc
          clear hown7 hgrow hloc hi5 hpb hfb5 e0 e1 e2 e3 e4
          go_wp2_with fail
          go_roundg ((restS T top (⟨pr, N, 0, 0, true⟩ :: ⟨-1, n, li, pi + 1, false⟩ :: fs)).length)
          case measure => have := HX.out.2; have := HX3.out.2; omega
          case rel => exact ⟨outs, sz, _, rfl, hi7, HX3.out.1, rfl⟩
      · obtain ⟨hd0, hd1, hq1, hnn⟩ : 0 ≤ d ∧ d < T.length ∧ q = true ∧ n ≤ (T.getD d.toNat []).length := by
          rcases HFO.out with ⟨h, _⟩ | h
          · dsimp only at h; omega
          · exact h
        subst hq1
        obtain ⟨D, rfl⟩ : ∃ D : Nat, d = D := ⟨d.toNat, by omega⟩
        have hDN : D < n0 := by have := HN0.out; omega
        simp only [Int.toNat_natCast] at hnn
        have HNN : Hid (n ≤ (T.getD D []).length) := hnn
        clear hnn hd hd0 hd1
        have HLF : Hid (lineF T top ⟨D, n, li, pi, true⟩ = (T.getD D []).getD li []) := by
          unfold lineF frLines
          rw [if_neg (by dsimp only; omega)]
          rfl
        have hnf : n ≤ 1048576 := by have := HNN.out; have := len_fit HW.out.2.1 D; omega
        obtain ⟨b0, o0, rfl, hb0, hcell0⟩ := HA0.out (by have := HN0.out; omega)
        have hcd := (hi2.below.cell (p := ⟨b0, o0 + D, none⟩) hb0).trans (hcell0 D (by have := HN0.out; omega))
        clear hcell0
        obtain ⟨aD, cD, VD, hVD, hnD, hatD, helD⟩ := lns_shape (HE0.out D (by have := HN0.out; omega))
        rw [hVD] at hcd
        clear hVD
        obtain ⟨bD, oD, rfl, hbD, hcellD⟩ := hatD (by have := HNN.out; omega)
        have hcl := (hi2.below.cell (p := ⟨bD, oD + li, none⟩) hbD).trans (hcellD li (by have := HNN.out; omega))
        have hPC := (helD li (by have := HNN.out; omega)).next (Same.of_below hi2.below (fun b h => h)) (B' := (· < w.heap.size)) (fun b h => h)
        clear hcellD hatD helD
        obtain ⟨aL, cL, hVL, hnL, hatL⟩ := pcs_shape hPC
        rw [hVL] at hcl
        clear hVL hPC
        generalize hLe : (T.getD D []).getD li [] = L at *
        have HLN : Hid (lineF T top ⟨D, n, li, pi, true⟩ = L) := HLF.out
        clear HLF hLe
        have HATL : Hid (At w2 (· < w.heap.size) aL L.length (L.length * 4) (fun i => pc (L.getD (i / 4) default) (i % 4))) := hatL
        clear hatL
        obtain ⟨nL, hnL'⟩ : ∃ n, n = L.length := ⟨_, rfl⟩
        have HNL : Hid (nL = L.length) := hnL'
        rw [← hnL'] at hcl hnL
        clear hnL'
        have hliD : li < (T.getD D []).length := by have := HNN.out; omega
        generalize (T.getD D []).length = nD at *
        have HALL : Hid (∀ x, AInv w (w2.drewN x) (.slice ao outs.length co) (.slice (some ⟨g, 0, none⟩) (m + 1) cs') outs (⟨D, n, li, pi, true⟩ :: fs) ∧ BlockAt (w2.drewN x) fb 66 [.int .i64 D, .int .i64 n, .int .i64 li, .int .i64 pi, .bool true] ∧
            At (w2.drewN x) (· < w.heap.size) aL L.length (L.length * 4) (fun i => pc (L.getD (i / 4) default) (i % 4))) := fun x => ⟨hi2.drewN x, hfb, HATL.out⟩
        clear hi2 hfb HATL
        go_upto_region 11 with fail
        go_quiet (fail)
        obtain ⟨hi2, hfb, hatL⟩ := HALL.out nq
        clear HALL hcd hcl e0 e1 e2 e3 e4
        generalize w2.drewN nq = w2 at *
        have HATL : Hid (At w2 (· < w.heap.size) aL L.length (L.length * 4) (fun i => pc (L.getD (i / 4) default) (i % 4))) := hatL
        clear hatL
        have e0 := hfb.cell 0 rfl
        have e1 := hfb.cell 1 rfl
        have e2 := hfb.cell 2 rfl
        have e3 := hfb.cell 3 rfl
        have e4 := hfb.cell 4 rfl
        have hcl : True := trivial
        have hLL : nL ≤ 9223372036854775807 := hnL
        by_cases hpi : nL ≤ pi
        · obtain ⟨HX1, HX2⟩ := HX.out.1.next (by exact Nat.not_le.1 hli) (by rw [HLN.out, ← HNL.out]; exact hpi)
          have HX3 : Hid (AOK T top R outs sz (⟨D, n, li + 1, 0, true⟩ :: fs) ∧ (restS T top (⟨D, n, li, pi, true⟩ :: fs)).length = (restS T top (⟨D, n, li + 1, 0, true⟩ :: fs)).length + 1) := ⟨HX1, HX2⟩
          clear HX1 HX2
          have hi3 := (hi2.put (f' := ⟨D, n, li + 1, pi, true⟩) HM.out 2 (.int .i64 ((li : Int) + 1)) rfl).put (f' := ⟨D, n, li + 1, 0, true⟩) HM.out 3 (.int .i64 0) rfl
          obtain ⟨g2, f2⟩ := hi2.top HM.out 2 rfl
          obtain ⟨g3, f3⟩ := hi2.top HM.out 3 rfl
          go_wp2_with fail
          go_roundg ((restS T top (⟨D, n, li + 1, 0, true⟩ :: fs)).length)
          case measure => have := HX.out.2; have := HX3.out.2; omega
          case rel => exact ⟨outs, sz, _, rfl, hi3, HX3.out.1, rfl⟩
        have hpl : pi < nL := Nat.not_le.1 hpi
        have hi3 := hi2.put (f' := ⟨D, n, li, pi + 1, true⟩) HM.out 3 (.int .i64 ((pi : Int) + 1)) rfl
        obtain ⟨g3, f3⟩ := hi2.top HM.out 3 rfl
        have hfb3 : BlockAt (w2.setCell ⟨g, m * 5 + 3, none⟩ (.int .i64 ((pi : Int) + 1))) fb 66 [.int .i64 (D), .int .i64 n, .int .i64 li, .int .i64 pi, .bool true] := hfb.of (Below.heap_setCell _ _ _ _ (by show fb ≠ g; omega))
        have hsm : ∀ b, b < w.heap.size → (w2.setCell ⟨g, m * 5 + 3, none⟩ (.int .i64 ((pi : Int) + 1))).heap[b]? = w2.heap[b]? := fun b hb => Below.heap_setCell _ _ _ _ (by show b ≠ g; omega)
        obtain ⟨bL, oL, rfl, hbL, hcL⟩ := HATL.out (by have := HNL.out; omega)
        obtain ⟨d0, d1, d2, d3⟩ := at4 (a := none) (n := 0) (k := pi) (by have := HNL.out; omega) hcL
        clear hcL HATL
        have HSM : Hid (∀ i, (w2.setCell ⟨g, m * 5 + 3, none⟩ (.int .i64 ((pi : Int) + 1))).cell? ⟨bL, i, none⟩ = w2.cell? ⟨bL, i, none⟩) := fun i => World.cell?_of_block (hsm bL hbL)
        clear hsm
        go_upto_region 16 with fail
        replace d0 := (HSM.out _).trans d0
        replace d1 := (HSM.out _).trans d1
        replace d2 := (HSM.out _).trans d2
        replace d3 := (HSM.out _).trans d3
        have q1 := hfb3.cell 4 rfl
        have q3 := hfb3.cell 3 rfl
        generalize w2.setCell ⟨g, m * 5 + 3, none⟩ (.int .i64 ((pi : Int) + 1)) = w3 at *
        clear HSM hi2 hfb e0 e1 e2 e3 e4 g3 f3 hcl
        have HLP : Hid (pi < (lineF T top ⟨D, n, li, pi, true⟩).length) := by rw [HLN.out, ← HNL.out]; exact hpl
        have HPE : Hid ((lineF T top ⟨D, n, li, pi, true⟩).getD pi default = L.getD pi default) := by rw [HLN.out]; rfl
        generalize hpp : L.getD pi default = p at *
        clear hpp
        obtain ⟨po, pq, pr, pn⟩ := p
        simp only [pc] at d0 d1 d2 d3
        have HPO : Hid _ := piece_ok HW.out.1 HW.out.2.1 HW.out.2.2 HFO.out (by exact Nat.not_le.1 hli) HLP.out
        go_wp2_with fail
        refine (hasRef_any ⟨po, pq, pr, pn⟩ n0 _).mono ?_
        rintro e w5 ⟨rfl, hb5⟩
        have hpb : BlockAt w5 w3.heap.size 55 [.string po, .string pq, .int .i64 pr, .int .i64 pn] := (hb5.block _ (by simp)).trans (heap_alloc_new w3 _)
        have hb6 : Below w3.heap.size w3 w5 := ((Below.refl _ _).alloc (Nat.le_refl _) _).trans (hb5.mono (by simp))
        have hi5 := hi3.moved hb6
        have hfb5 := hfb3.of (hb6.block fb hfb3.lt)
        clear hb5 hb6 hi3 hfb3 d0 d1 d2 d3 q1 q3
        generalize w3.heap.size = pb at *
        have e0 := hpb.cell 0 rfl
        have e1 := hpb.cell 1 rfl
        have e2 := hpb.cell 2 rfl
        have e3 := hpb.cell 3 rfl
        have e4 := hfb5.cell 4 rfl
        have hsz5 := hi5.size
        cases hr : hasR n0 ⟨po, pq, pr, pn⟩
        · have HHR : Hid (hasR T.length ((lineF T top ⟨D, n, li, pi, true⟩).getD pi default) = false) := by rw [HPE.out, ← HN0.out]; exact hr
          clear hr
          have hem := HX.out.1.emit HW.out.1 HW.out.2.1 HW.out.2.2 (by exact Nat.not_le.1 hli) HLP.out HHR.out (opt := pq) (by dsimp only; rw [HPE.out]; rfl)
          obtain ⟨z1, z2, z3, z4⟩ := hem
          by_cases hbig : 4194304 < sz + (pq).size
          · have HD : Hid (R = (outs, sz + (pq).size, false)) := z2 hbig
            clear z2 z3 z4
            go_wp2_with fail
            refine bodyPost_ret (results_tmp3 rfl _ _ _) rfl ?_
            rw [HD.out]
            exact ⟨hi5.below, _, rfl, hi5.own, by dsimp only; omega⟩
          · have HX3 : Hid (AOK T top R (outs ++ [pq]) (sz + (pq).size) (⟨D, n, li, pi + 1, true⟩ :: fs) ∧ (restS T top (⟨D, n, li, pi, true⟩ :: fs)).length = (restS T top (⟨D, n, li, pi + 1, true⟩ :: fs)).length + 1) := ⟨z3 hbig, z4⟩
            clear z2 z3 z4
            go_wp2_with (at_builtin; refine wpList_append_own_at _ rfl (.tmp 112) (.tmp 114) 22 rfl w.heap.size 9 i9 (.string ⟨#[]⟩) 1 16 Try.underlying22 hi9 hz0 hz1 hz2 rfl (by decide) _ _ _ rfl (hi5.own.alloc _) _ 1 1 [.string pq] rfl rfl (cell_one_new _ _ _) (one9 _) (by unfold maxLen; omega) (by omega) (by simp; omega) ?_; intro v' w7 hown7 hgrow hnil hloc; clear hnil)
            have hi7 := hi5.out hown7 hgrow hloc
            clear hown7 hgrow hloc hi5 hpb hfb5 e0 e1 e2 e3 e4
            go_wp2_with fail
            go_roundg ((restS T top (⟨D, n, li, pi + 1, true⟩ :: fs)).length)
            case measure => have := HX.out.2; have := HX3.out.2; omega
            case rel => exact ⟨outs ++ [pq], sz + (pq).size, _, by go_num, hi7, HX3.out.1, rfl⟩
        · have HHR : Hid (hasR T.length ((lineF T top ⟨D, n, li, pi, true⟩).getD pi default) = true) := by rw [HPE.out, ← HN0.out]; exact hr
          obtain ⟨hr0, hr1⟩ := hasR_iff.1 hr
          dsimp only at hr0 hr1
          clear hr
          have hpn : 0 ≤ pn ∧ pn ≤ 1048576 := by
            have := HPO.out.1 HHR.out
            rw [HPE.out] at this
            have h2 := len_fit HW.out.2.1 (SP.mk po pq pr pn).r.toNat
            dsimp only at this h2
            omega
          obtain ⟨N, rfl⟩ : ∃ N : Nat, pn = N := ⟨pn.toNat, by omega⟩
          obtain ⟨HX1, HX2⟩ := HX.out.1.push HW.out.1 HW.out.2.1 HW.out.2.2 (by exact Nat.not_le.1 hli) HLP.out HHR.out (n := N) (by rw [HPE.out])
          have HX3 : Hid (AOK T top R outs sz (⟨pr, N, 0, 0, true⟩ :: ⟨D, n, li, pi + 1, true⟩ :: fs) ∧ (restS T top (⟨D, n, li, pi, true⟩ :: fs)).length = (restS T top (⟨pr, N, 0, 0, true⟩ :: ⟨D, n, li, pi + 1, true⟩ :: fs)).length + 1) := by
            have q2 := HPE.out
            dsimp only at HX1 HX2
            rw [q2] at HX1 HX2
            exact ⟨HX1, HX2⟩
          clear HX1 HX2
          have hstk := hi5.stk
          simp only [List.length_cons, HM.out] at hstk
          go_wp2_with (at_builtin; refine wpList_append_own_at _ rfl (.tmp 90) (.tmp 96) 67 rfl w.heap.size 66 i66 (.agg #[.int .i64 0, .int .i64 0, .int .i64 0, .int .i64 0, .bool false]) 5 40 Try.underlying67 hi6 hy0 hy1 hy2 rfl (by decide) _ _ _ rfl (hstk.alloc _) _ 1 1 [.int .i64 pr, .int .i64 N, .int .i64 0, .int .i64 0, .bool true] rfl rfl (cell_five_new _ _ _ _ _ _ _) (one66 _ _ _ _ _) (by unfold maxLen; omega) (by omega) (by simp; omega) ?_; intro v' w7 hown7 hgrow hnil hloc; clear hnil)
          have hi7 := hi5.push (f := ⟨pr, N, 0, 0, true⟩) (by simp only [List.length_cons, HM.out]; exact hown7) hgrow hloc
          clear hown7 hgrow hloc hi5 hpb hfb5 e0 e1 e2 e3 e4
          go_wp2_with fail
          go_roundg ((restS T top (⟨pr, N, 0, 0, true⟩ :: ⟨D, n, li, pi + 1, true⟩ :: fs)).length)
          case measure => have := HX.out.2; have := HX3.out.2; omega
          case rel => exact ⟨outs, sz, _, rfl, hi7, HX3.out.1, rfl⟩
end Go.Proofs.Qxb6603470a
