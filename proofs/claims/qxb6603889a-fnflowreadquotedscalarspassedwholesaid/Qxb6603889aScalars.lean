/-
  'Rows.FnFlowReadQuotedScalarsPassedWholeSaid', PROVED. The frame is the given shell's.
-/
import Derived.Test.Qxb6603889aRows
import Derived.WalkKit
import Derived.ProofKit
import Derived.OpenShut
import Derived.ShutString
import Derived.ChangeOld
import Derived.Below
import Derived.Test.Qxb6603889aScalParts
namespace Go.Proofs.Qxb6603889a.fnFlowReadQuotedScalarsPassedWhole
open Go.ChangeShapes Go.WideShapes Go.ChangeAt Go.RowKit
open Go.ChangeMaps (open_string shut_string)
set_option linter.unusedVariables false

theorem own : ownKnob Try.prog.godebug = none := by kernel_rfl
theorem laidOut : laidOutB Try.prog = true := by kernel_rfl

/-- WHAT THE WALK IS TOLD OF A SLICE OF INTEGERS THAT CAME IN: it is nil; or it leads to a row of 'cap' cells, the numbers 'zs' (the first 'len' are its elements, the rest its spare room), each fitting its kind. -/
def IsRow (k : IntKind) (w : World) (a : Option Addr) (len cap : Nat) (zs : List Int) : Prop :=
  (a = none ∧ len = 0 ∧ cap = 0 ∧ zs = []) ∨
  ∃ x, a = some x ∧ len ≤ cap ∧ cap ≤ maxLen ∧ zs.length = cap ∧ (∀ i, i < zs.length → w.cell? (x.add i) = some (.int k (zs.getD i 0))) ∧ ∀ n ∈ zs, (Lit.int k n).wf = true

/-! ### STEP 1: THE WALK: the Go text returns true, and writes nothing that was there. -/
theorem cell_drewN (w : World) (n : Nat) (a : Addr) : (w.drewN n).cell? a = w.cell? a := rfl

set_option maxRecDepth 100000 in
set_option maxHeartbeats 2000000 in
theorem walk_core (a0 a1 : Int) (a2 : Bool) (a a' : Option Addr) (n cap : Nat) (zs : List Int) (w : World) (hn : n ≤ 262144) (hcp : CopyTo w (.slice a n cap) a' n zs)
    (hq1 : (a1 == 34) = false) (hq2 : (a1 == 39) = false) :
    Calls Try.prog 5 #[.int .i64 a0, .int .u8 a1, .bool a2, .slice a n cap] w fun e w' => e = .returned (.bool true) ∧ Below w.heap.size w w' := by
  obtain ⟨i0, hi, hz0, hz1, hz2⟩ := info_parts info5
  go_enter Try.func5, Try.ntmps5
  go_wp2_with (go_at_call 12; go_in)
  refine hcp.calls.mono ?_
  rintro e w1 ⟨rfl, hbel, HCP⟩
  have hw1 := hbel.size
  go_wp2_with (first
    | (at_make; refine wpList_make_own _ rfl _ _ 26 rfl w1.heap.size 5 i0 (.int .u8 0) 1 Try.underlying26 hi hz0 hz1 .i64 .i64 _ (2 * n + 2) rfl rfl (by omega) (by rw [hz2]; omega) (by unfold maxLen; omega) (by omega) ?_; intro w2 hown hgrow)
    | (at_builtin; refine wpList_append_fits _ rfl (.tmp 41) (.tmp 42) 26 rfl w1.heap.size 5 i0 1 Try.underlying26 hi hz1 _ _ _ _ rfl (hown.alloc _) _ 1 1 [.int .u8 34] rfl rfl (cell_one_new _ _ _) (ints_one _) (by omega) ?_; intro w3 hown3 hgrow3))
  have hb3 : Below w1.heap.size w1 w3 := below_app hgrow.size ((Below.refl _ _).grown hgrow (Nat.le_refl _) (fun k hk => by cases hk)) hgrow3
  clear hown hgrow hgrow3
  go_loopw [9, 10] (fun dq i wr => ∃ k m : Nat, k ≤ n ∧ m ≤ 2 * k + 1 ∧ i = .int .i64 k ∧ dq = .slice (some ⟨w1.heap.size, 0, none⟩) m (2 * n + 2) ∧
      wr.ownsRow w1.heap.size 5 1 (.slice (some ⟨w1.heap.size, 0, none⟩) m (2 * n + 2)) m ((Quo.esc Quo.fd 34 zs k).map (Value.int .u8)) ∧ Below w1.heap.size w1 wr) (fun _ i _ => n - (intOf i).toNat)
  case atStart => exact ⟨0, 1, Nat.zero_le _, by omega, rfl, rfl, hown3, hb3⟩
  case round =>
    obtain ⟨k, m, hk, hm, rfl, rfl, hown, hbw⟩ := hrel
    clear hown3 hb3
    have hws := hbw.size
    by_cases hlt : k < n
    · obtain ⟨rfl, hlw, hcells⟩ := HCP.out (by omega)
      have hck := (hbw.cell (p := ⟨w.heap.size, k, none⟩) hlw).trans (hcells k hlt)
      obtain ⟨c, hcc⟩ : ∃ c, zs.getD k 0 = c := ⟨_, rfl⟩
      rw [hcc] at hck
      have HC : Hid (zs.getD k 0 = c) := hcc
      clear hcc hcells
      cases hs : (c == 34 || c == 92)
      · obtain ⟨h34, h92⟩ := Bool.or_eq_false_iff.1 hs
        have HE : Hid (Quo.esc Quo.fd 34 zs (k + 1) = Quo.esc Quo.fd 34 zs k ++ [c]) := by
          show Quo.esc Quo.fd 34 zs k ++ Quo.fd (zs.getD k 0) = _
          rw [HC.out, Quo.fd_plain hs]
        clear hs
        go_wp2_with (at_builtin; refine wpList_append_fits _ rfl (.tmp 65) (.tmp 70) 26 rfl w1.heap.size 5 i0 1 Try.underlying26 hi hz1 _ _ _ _ rfl (hown.alloc _) _ 1 1 [.int .u8 c] rfl rfl (cell_one_new _ _ _) (ints_one _) (by omega) ?_; intro w5 hown5 hgrow5)
        have hb5 := below_app hws hbw hgrow5
        clear hgrow5 hck
        go_roundw
        case rel => exact ⟨k + 1, m + 1, by omega, by omega, by go_num, rfl, by rw [HE.out, List.map_append]; exact hown5, hb5⟩
        case measure => simp [intOf]; omega
      · have HE : Hid (Quo.esc Quo.fd 34 zs (k + 1) = Quo.esc Quo.fd 34 zs k ++ [92, c]) := by
          show Quo.esc Quo.fd 34 zs k ++ Quo.fd (zs.getD k 0) = _
          rw [HC.out, Quo.fd_special hs]
        have hs2 : (c == 34) = true ∨ (c == 34) = false ∧ (c == 92) = true := by
          cases h34 : (c == 34)
          · rw [h34, Bool.false_or] at hs; exact .inr ⟨rfl, hs⟩
          · exact .inl rfl
        clear hs
        rcases hs2 with h34 | ⟨h34, h92⟩
        all_goals
          go_wp2_with (first
            | (at_builtin; refine wpList_append_fits _ rfl (.tmp 62) (.tmp 63) 26 rfl w1.heap.size 5 i0 1 Try.underlying26 hi hz1 _ _ _ _ rfl (hown.alloc _) _ 1 1 [.int .u8 92] rfl rfl (cell_one_new _ _ _) (ints_one _) (by omega) ?_; intro w4 hown4 hgrow4; have hck4 := cell_app hgrow4 hlw hck; have hb4 := below_app hws hbw hgrow4; have hs4 := hb4.size; clear hck)
            | (at_builtin; refine wpList_append_fits _ rfl (.tmp 65) (.tmp 70) 26 rfl w1.heap.size 5 i0 1 Try.underlying26 hi hz1 _ _ _ _ rfl (hown4.alloc _) _ 1 1 [.int .u8 c] rfl rfl (cell_one_new _ _ _) (ints_one _) (by omega) ?_; intro w5 hown5 hgrow5))
          have hb5 := below_app hs4 hb4 hgrow5
          clear hgrow5 hck4
          go_roundw
          case rel => exact ⟨k + 1, m + 1 + 1, by omega, by omega, by go_num, rfl, by rw [HE.out, List.map_append]; simpa using hown5, hb5⟩
          case measure => simp [intOf]; omega
    · obtain rfl : k = n := by omega
      go_wp2_with (first
        | (at_builtin; refine wpList_append_fits _ rfl (.tmp 72) (.tmp 73) 26 rfl w1.heap.size 5 i0 1 Try.underlying26 hi hz1 _ _ _ _ rfl (hown.alloc _) _ 1 1 [.int .u8 34] rfl rfl (cell_one_new _ _ _) (ints_one _) (by omega) ?_; intro w4 hown4 hgrow4)
        | (at_make; refine wpList_make_own _ rfl _ _ 26 rfl w4.heap.size 5 i0 (.int .u8 0) 1 Try.underlying26 hi hz0 hz1 .i64 .i64 _ (2 * k + 2) rfl rfl (by omega) (by rw [hz2]; omega) (by unfold maxLen; omega) (by omega) ?_; intro w5 hown5 hgrow5)
        | (at_builtin; refine wpList_append_fits _ rfl (.tmp 80) (.tmp 81) 26 rfl w4.heap.size 5 i0 1 Try.underlying26 hi hz1 _ _ _ _ rfl (hown5.alloc _) _ 1 1 [.int .u8 39] rfl rfl (cell_one_new _ _ _) (ints_one _) (by omega) ?_; intro w6 hown6 hgrow6))
      have hb4 := below_app hws hbw hgrow4
      have hb6 : Below w4.heap.size w4 w6 := below_app hgrow5.size ((Below.refl _ _).grown hgrow5 (Nat.le_refl _) (fun k hk => by cases hk)) hgrow6
      have HDQ := owned_cells (l := Quo.full Quo.fd 34 zs k) (by rw [Quo.full, List.map_append]; exact hown4)
      have hg4 := (hown4.lt w1.heap.size rfl).2
      have HD : Hid (m + 1 = (Quo.full Quo.fd 34 zs k).length ∧ ∀ i, i < m + 1 → w4.cell? ⟨w1.heap.size, i, none⟩ = some (.int .u8 ((Quo.full Quo.fd 34 zs k).getD i 0))) := HDQ
      clear HDQ hown hown4 hgrow4 hown5 hgrow5 hgrow6 hbw
      have hw4 := hb4.size
      go_loopw [11, 12] (fun sq i wr => ∃ j l : Nat, j ≤ k ∧ l ≤ 2 * j + 1 ∧ i = .int .i64 j ∧ sq = .slice (some ⟨w4.heap.size, 0, none⟩) l (2 * k + 2) ∧
          wr.ownsRow w4.heap.size 5 1 (.slice (some ⟨w4.heap.size, 0, none⟩) l (2 * k + 2)) l ((Quo.esc Quo.fs 39 zs j).map (Value.int .u8)) ∧ Below w4.heap.size w4 wr) (fun _ i _ => k - (intOf i).toNat)
      case atStart => exact ⟨0, 1, Nat.zero_le _, by omega, rfl, rfl, hown6, hb6⟩
      case round =>
        obtain ⟨j, l, hj, hl, rfl, rfl, hown, hbw⟩ := hrel
        clear hown6 hb6
        have hws2 := hbw.size
        by_cases hlt2 : j < k
        · obtain ⟨rfl, hlw, hcells⟩ := HCP.out (by omega)
          have hlw4 : w.heap.size < w4.heap.size := by omega
          have hck := (hbw.cell (p := ⟨w.heap.size, j, none⟩) hlw4).trans ((hb4.cell (p := ⟨w.heap.size, j, none⟩) hlw).trans (hcells j hlt2))
          obtain ⟨c, hcc⟩ : ∃ c, zs.getD j 0 = c := ⟨_, rfl⟩
          rw [hcc] at hck
          have HC : Hid (zs.getD j 0 = c) := hcc
          clear hcc hcells
          cases hs : (c == 39)
          · have HE : Hid (Quo.esc Quo.fs 39 zs (j + 1) = Quo.esc Quo.fs 39 zs j ++ [c]) := by
              show Quo.esc Quo.fs 39 zs j ++ Quo.fs (zs.getD j 0) = _
              rw [HC.out, Quo.fs_plain hs]
            go_wp2_with (at_builtin; refine wpList_append_fits _ rfl (.tmp 97) (.tmp 102) 26 rfl w4.heap.size 5 i0 1 Try.underlying26 hi hz1 _ _ _ _ rfl (hown.alloc _) _ 1 1 [.int .u8 c] rfl rfl (cell_one_new _ _ _) (ints_one _) (by omega) ?_; intro w7 hown7 hgrow7)
            have hb7 := below_app hws2 hbw hgrow7
            clear hgrow7 hck
            go_roundw
            case rel => exact ⟨j + 1, l + 1, by omega, by omega, by go_num, rfl, by rw [HE.out, List.map_append]; exact hown7, hb7⟩
            case measure => simp [intOf]; omega
          · have HE : Hid (Quo.esc Quo.fs 39 zs (j + 1) = Quo.esc Quo.fs 39 zs j ++ [39, c]) := by
              show Quo.esc Quo.fs 39 zs j ++ Quo.fs (zs.getD j 0) = _
              rw [HC.out, Quo.fs_special hs, beq_iff_eq.1 hs]
            go_wp2_with (first
              | (at_builtin; refine wpList_append_fits _ rfl (.tmp 94) (.tmp 95) 26 rfl w4.heap.size 5 i0 1 Try.underlying26 hi hz1 _ _ _ _ rfl (hown.alloc _) _ 1 1 [.int .u8 39] rfl rfl (cell_one_new _ _ _) (ints_one _) (by omega) ?_; intro w7 hown7 hgrow7; have hck7 := cell_app hgrow7 hlw4 hck; have hb7 := below_app hws2 hbw hgrow7; have hs7 := hb7.size; clear hck)
              | (at_builtin; refine wpList_append_fits _ rfl (.tmp 97) (.tmp 102) 26 rfl w4.heap.size 5 i0 1 Try.underlying26 hi hz1 _ _ _ _ rfl (hown7.alloc _) _ 1 1 [.int .u8 c] rfl rfl (cell_one_new _ _ _) (ints_one _) (by omega) ?_; intro w8 hown8 hgrow8))
            have hb8 := below_app hs7 hb7 hgrow8
            clear hgrow8 hck7
            go_roundw
            case rel => exact ⟨j + 1, l + 1 + 1, by omega, by omega, by go_num, rfl, by rw [HE.out, List.map_append]; simpa using hown8, hb8⟩
            case measure => simp [intOf]; omega
        · obtain rfl : j = k := by omega
          go_wp2_with (at_builtin; refine wpList_append_fits _ rfl (.tmp 104) (.tmp 105) 26 rfl w4.heap.size 5 i0 1 Try.underlying26 hi hz1 _ _ _ _ rfl (hown.alloc _) _ 1 1 [.int .u8 39] rfl rfl (cell_one_new _ _ _) (ints_one _) (by omega) ?_; intro w7 hown7 hgrow7)
          have hb7 := below_app hws2 hbw hgrow7
          have hs7 := size_app hgrow7
          have HSQ := owned_cells (l := Quo.full Quo.fs 39 zs j) (by rw [Quo.full, List.map_append]; exact hown7)
          have hg7 := (hown7.lt w4.heap.size rfl).2
          have hall : Below w.heap.size w w7 := hbel.trans ((hb4.mono hw1).trans (hb7.mono (by omega)))
          have HRD : ReadsTo w7 (.slice (some ⟨w1.heap.size, 0, none⟩) (m + 1) (2 * j + 2)) a0 a1 a2 a0 0 true :=
            read_dq w7 w1.heap.size (m + 1) (2 * j + 2) zs j a0 a1 a2 (by omega) (by omega) HD.out.1 (fun i hi => (hb7.cell (p := ⟨w1.heap.size, i, none⟩) hg4).trans (HD.out.2 i hi)) hq1 hq2
          have HRS : ∀ p, ReadsTo ((w7.alloc (.cells #[.int .i64 a0, .int .u8 0, .bool true] 35)).drewN p) (.slice (some ⟨w4.heap.size, 0, none⟩) (l + 1) (2 * j + 2)) a0 a1 a2 a0 0 true := fun p =>
            read_sq _ w4.heap.size (l + 1) (2 * j + 2) zs j a0 a1 a2 (by simp; omega) (by omega) HSQ.1 (fun i hi => by
              rw [cell_drewN]
              exact Lib.cell?_alloc_some _ (HSQ.2 i hi)) hq1 hq2
          clear HSQ HD HCP hown hown7 hgrow7 hbw hb7 hb4
          refine (flow_of w7 _ a0 a1 a0 0 a2 true HRD).mono ?_
          rintro e w8 ⟨rfl, p, rfl⟩
          go_wp2_with fail
          refine (flow_of _ _ a0 a1 a0 0 a2 true (HRS p)).mono ?_
          rintro e w9 ⟨rfl, p2, rfl⟩
          go_wp2
          go_ret
          have h8 : Below w.heap.size w ((w7.alloc (.cells #[.int .i64 a0, .int .u8 0, .bool true] 35)).drewN p) := below_drewN (hall.alloc hall.size _) p
          exact ⟨rfl, below_drewN (h8.alloc h8.size _) p2⟩

/-- The law, whatever the input. -/
theorem walk (a0 : Int) (a1 : Int) (a2 : Bool) (a3 : Option Addr) (len3 cap3 : Nat) (z3 : List Int) (w : World) (w0 : (Lit.int .i64 a0).wf = true) (w1 : (Lit.int .u8 a1).wf = true) (w3 : IsRow .u8 w a3 len3 cap3 z3) :
    Calls Try.prog 5 #[.int .i64 a0, .int .u8 a1, .bool a2, .slice a3 len3 cap3] w fun e w' => e = .returned (.bool true) ∧ Below w.heap.size w w' := by
  have hlen : len3 ≤ 9223372036854775807 := by
    rcases w3 with ⟨_, h, _⟩ | ⟨_, _, h1, h2, _⟩
    · omega
    · unfold maxLen at h2; omega
  by_cases g1 : len3 ≤ 262144
  · cases hq1 : (a1 == 34)
    · cases hq2 : (a1 == 39)
      · rcases w3 with ⟨rfl, rfl, rfl, rfl⟩ | ⟨x, rfl, hl, hm, hz, hcell, hwz⟩
        · exact walk_core a0 a1 a2 none none 0 0 [] w g1 (copyTo_nil w) hq1 hq2
        · by_cases h0 : len3 = 0
          · subst h0
            exact walk_core a0 a1 a2 (some x) _ 0 cap3 [] w g1 (copyTo_empty x cap3 w) hq1 hq2
          · obtain ⟨b, off, rfl, hc⟩ := ints_at hcell (by omega)
            exact walk_core a0 a1 a2 _ _ len3 cap3 z3 w g1 (copyTo_row b off len3 cap3 z3 w (by omega) (World.block_lt_of_cell? _ _ (hc 0 (by omega))) (fun i hi => hc i (by omega))) hq1 hq2
      · clear w3 w0 w1
        go_enter Try.func5, Try.ntmps5
        go_wp2
        go_ret
        exact ⟨rfl, Below.refl _ _⟩
    · clear w3 w0 w1
      go_enter Try.func5, Try.ntmps5
      go_wp2
      go_ret
      exact ⟨rfl, Below.refl _ _⟩
  · clear w3 w0 w1
    by_cases g2 : len3 ≤ 1048576
    · go_enter Try.func5, Try.ntmps5
      go_wp2
      go_ret
      exact ⟨rfl, Below.refl _ _⟩
    · go_enter Try.func5, Try.ntmps5
      go_wp2
      go_ret
      exact ⟨rfl, Below.refl _ _⟩

/-! ### THE ROW's STEP -/
set_option maxRecDepth 100000 in
theorem lifted (os : Os) (started : os.Started) (H : Type) (enc : TypeId × Value → H) :
    ReturnsInHanded {} Try.checked os 5 .any (Rows.fnFlowReadQuotedScalarsPassedWholeSpec.pre6 enc Try.prog Try.f5 Rows.fnFlowReadQuotedScalarsPassedWholeRow.domain false) (Rows.fnFlowReadQuotedScalarsPassedWholeSpec.post enc Try.prog Try.f5 false true false false) := by
  refine returnsInHanded_of_change (C := Try.checked) own started (by kernel_rfl) Try.func5
    (ChangeSpec.witness6 (enc := enc) (C := Try.checked) false ⟨#[], #[.int .i64 0, .int .u8 0, .bool false, .slice none 0 0], []⟩ 8 (by kernel_rfl) (by kernel_rfl) (by kernel_rfl) (by kernel_rfl)) ?_
  intro W base args ds gs before hval0 hW hcnd _
  have hval : ∀ (j : Nat) t v, Try.f5.params[j]? = some t → args[j]? = some v → Value.okWide Try.prog W .any base t v := hval0
  have hW' := hW
  obtain ⟨p, q, hA0, hV, rfl, hfz, hnd⟩ := hW
  have hA : DataW.TrodAll enc Try.prog W 0 (fun _ => true) true Try.f5.params.toList args.toList ds p := hA0
  rw [Try.params5] at hA hval
  obtain ⟨v0, vs0, d0, ds0, p0, q0, hargs, rfl, rfl, h0, r0⟩ := trodAll_cons hA
  obtain ⟨v1, vs1, d1, ds1, p1, q1, rfl, rfl, rfl, h1, r1⟩ := trodAll_cons r0
  obtain ⟨v2, vs2, d2, ds2, p2, q2, rfl, rfl, rfl, h2, r2⟩ := trodAll_cons r1
  obtain ⟨v3, vs3, d3, ds3, p3, q3, rfl, rfl, rfl, h3, r3⟩ := trodAll_cons r2
  obtain ⟨rfl, rfl, rfl⟩ := trodAll_nil r3
  obtain rfl : args = #[v0, v1, v2, v3] := by cases args; simp_all
  obtain ⟨rfl, rfl⟩ := trodVars_none hV
  obtain ⟨a0, rfl, rfl, rfl, w0⟩ := open_int Try.underlying3 (hval 0 3 v0 rfl rfl) h0
  obtain ⟨a1, rfl, rfl, rfl, w1⟩ := open_int Try.underlying5 (hval 1 5 v1 rfl rfl) h1
  obtain ⟨a2, rfl, rfl, rfl⟩ := open_bool Try.underlying4 (hval 2 4 v2 rfl rfl) h2
  obtain ⟨a3, len3, cap3, rfl⟩ := okWide_slice Try.underlying26 (hval 3 26 v3 rfl rfl)
  have k3 := h3
  have lt3 : ∀ x ∈ p3, x.block < W.heap.size := by obtain ⟨m, hm⟩ := k3; exact DataW.trod_lt m _ _ _ hm
  obtain ⟨z3, w3⟩ : ∃ zs, IsRow .u8 W a3 len3 cap3 zs := by
    obtain ⟨fuel, hf⟩ := h3
    rcases open_ints Try.underlying26 Try.underlying5 (by kernel_rfl) hf with ⟨hcs, _⟩ | ⟨x, l, c, zs, hcs, _, hl, hm, hz, _, hcell, hwz⟩
    · simp [Value.cells] at hcs
      obtain ⟨rfl, rfl, rfl⟩ := hcs
      exact ⟨[], .inl ⟨rfl, rfl, rfl, rfl⟩⟩
    · simp [Value.cells] at hcs
      obtain ⟨rfl, rfl, rfl⟩ := hcs
      exact ⟨zs, .inr ⟨_, rfl, hl, hm, by simpa using hz, hcell, hwz⟩⟩
  clear hA0 hval0
  refine (walk a0 a1 a2 a3 len3 cap3 z3 W w0 w1 w3).mono fun e W' ⟨he, bel⟩ => ?_
  subst he
  exact ⟨_, rfl, _, _, _, [], _, [], hW', trodAll_mk1 (shut_bool Try.underlying4 _), (trodAll_cons_mk (shut_int Try.underlying3 w0) (trodAll_cons_mk (shut_int Try.underlying5 w1) (trodAll_cons_mk (shut_bool Try.underlying4 _) (trodAll_cons_mk (Below.trod laidOut (by kernel_rfl) (of_decide_eq_true (by kernel_rfl)) k3 bel lt3) trodAll_mk0)))), rfl, bel.frame _, fun h => by cases h⟩

theorem over : Rows.fnFlowReadQuotedScalarsPassedWholeRow.holds Try.pinned (OpenSpec.ofChange Rows.fnFlowReadQuotedScalarsPassedWholeSpec) :=
  OpenClaim.holds_of_wide 5 Try.f5 rfl rfl rfl rfl rfl rfl rfl ⟨rfl, rfl, rfl, rfl, rfl⟩ rfl rfl rfl rfl rfl (by kernel_rfl) Try.func5 (by kernel_rfl)
    (of_decide_eq_true (by kernel_rfl)) (by unfold Func.isWrapper; first | (rw [if_pos (by decide +kernel)]; kernel_rfl) | (rw [if_neg (by decide +kernel)]; exact ⟨rfl, rfl⟩))
    (fun os started H enc _ => lifted os started H enc)

/-- THE STATEMENT. -/
theorem proved : Rows.FnFlowReadQuotedScalarsPassedWholeSaid := over
#print axioms proved
end Go.Proofs.Qxb6603889a.fnFlowReadQuotedScalarsPassedWhole
