/-
  'Rows.FnFlowReadBracketBalanceSaid', PROVED. The frame is the given shell's.
-/
import Derived.Test.Qxb6603889aRows
import Derived.WalkKit
import Derived.ProofKit
import Derived.OpenShut
import Derived.ShutString
import Derived.ChangeOld
import Derived.Below
import Derived.Test.Qxb6603889aFlow
namespace Go.Proofs.Qxb6603889a.fnFlowReadBracketBalance
open Go.ChangeShapes Go.WideShapes Go.ChangeAt Go.RowKit
open Go.ChangeMaps (open_string shut_string)
set_option linter.unusedVariables false

theorem own : ownKnob Try.prog.godebug = none := by kernel_rfl
theorem laidOut : laidOutB Try.prog = true := by kernel_rfl

/-- WHAT THE WALK IS TOLD OF A SLICE OF INTEGERS THAT CAME IN: it is nil; or it leads to a row of 'cap' cells, the numbers 'zs' (the first 'len' are its elements, the rest its spare room), each fitting its kind. -/
def IsRow (k : IntKind) (w : World) (a : Option Addr) (len cap : Nat) (zs : List Int) : Prop :=
  (a = none ∧ len = 0 ∧ cap = 0 ∧ zs = []) ∨
  ∃ x, a = some x ∧ len ≤ cap ∧ cap ≤ maxLen ∧ zs.length = cap ∧ (∀ i, i < zs.length → w.cell? (x.add i) = some (.int k (zs.getD i 0))) ∧ ∀ n ∈ zs, (Lit.int k n).wf = true

/-! ### STEP 1: THE WALK: the Go text returns true, and writes nothing that was there. -/
/-- The copy, what is needed of it. -/
theorem copy_row2 (b off n cap : Nat) (zs : List Int) (w : World) (hn : n ≤ 1048576) (hb : b < w.heap.size)
    (hc : ∀ i, i < n → w.cell? ⟨b, off + i, none⟩ = some (.int .u8 (zs.getD i 0))) :
    Calls Try.prog 9 #[.slice (some ⟨b, off, none⟩) n cap] w fun e w' => e = .returned (.slice (some ⟨w.heap.size, 0, none⟩) n n) ∧ Below w.heap.size w w' ∧ w.heap.size < w'.heap.size ∧
      ∀ i, i < n → w'.cell? ⟨w.heap.size, i, none⟩ = some (.int .u8 (zs.getD i 0)) := by
  refine (copy_row b off n cap zs w hn hb hc).mono ?_
  rintro e w' ⟨rfl, rfl⟩
  refine ⟨rfl, (Below.refl _ _).alloc (Nat.le_refl _) _, by simp, fun i hi => ?_⟩
  rw [World.cell?_alloc_at _ _ _ _ rfl, half_get _ _ _ _ hi, if_pos hi]

theorem blank_any (c : Int) (w : World) :
    Calls Try.prog 10 #[.int .u8 c, .string ⟨#[32, 9, 13, 10]⟩] w fun e w' => e = .returned (.bool (Flow.blank c)) ∧ w' = w := by
  refine (inSet_any ⟨#[32, 9, 13, 10]⟩ c w (by decide)).mono ?_
  rintro e w' ⟨rfl, rfl⟩
  refine ⟨ret_bool ?_, rfl⟩
  show ([32, 9, 13, 10] : List UInt8).any _ = _
  have q : ∀ n : Int, (n == c) = (c == n) := fun n => by
    by_cases h : n = c
    · subst h; rfl
    · rw [beq_eq_false_iff_ne.2 h, beq_eq_false_iff_ne.2 (Ne.symm h)]
  simp only [List.any_cons, List.any_nil, Flow.blank, Bool.or_false]
  rw [show (UInt8.toNat 32 : Int) = 32 from rfl, show (UInt8.toNat 9 : Int) = 9 from rfl, show (UInt8.toNat 13 : Int) = 13 from rfl, show (UInt8.toNat 10 : Int) = 10 from rfl, q, q, q, q]
  simp [Bool.or_assoc]

set_option maxRecDepth 100000 in
set_option maxHeartbeats 1000000 in
theorem walk_row (a0 a1 : Int) (a2 : Bool) (b off n cap : Nat) (zs : List Int) (w : World) (hn : n ≤ 1048576) (hb : b < w.heap.size)
    (hc : ∀ i, i < n → w.cell? ⟨b, off + i, none⟩ = some (.int .u8 (zs.getD i 0)))
    (hq1 : (a1 == 34) = false) (hq2 : (a1 == 39) = false) (hd : Hid (wrap64 a0 = a0)) :
    Calls Try.prog 4 #[.int .i64 a0, .int .u8 a1, .bool a2, .slice (some ⟨b, off, none⟩) n cap] w fun e w' => e = .returned (.bool true) ∧ Below w.heap.size w w' := by
  go_enter Try.func4, Try.ntmps4
  go_wp2
  go_loop [9] (fun i => ∃ k : Nat, k ≤ n ∧ i = .int .i64 k ∧ Hid (∀ i, i < k → (zs.getD i 0 == 34) = false ∧ (zs.getD i 0 == 39) = false ∧ (zs.getD i 0 == 35) = false)) (fun i => n - (intOf i).toNat)
  case atStart => exact ⟨0, Nat.zero_le _, rfl, fun i hi => by omega⟩
  case round =>
    obtain ⟨k, hk, rfl, H⟩ := hrel
    by_cases hlt : k < n
    · have hck := hc k hlt
      obtain ⟨c, hcc⟩ : ∃ c, zs.getD k 0 = c := ⟨_, rfl⟩
      rw [hcc] at hck
      have HC : Hid (zs.getD k 0 = c) := hcc
      clear hc hcc
      cases e34 : (c == 34)
      · cases e39 : (c == 39)
        · cases e35 : (c == 35)
          · have HX : Hid (∀ i, i < k + 1 → (zs.getD i 0 == 34) = false ∧ (zs.getD i 0 == 39) = false ∧ (zs.getD i 0 == 35) = false) := by
              intro i hi
              by_cases e : i = k
              · subst e; rw [HC.out]; exact ⟨e34, e39, e35⟩
              · exact H.out i (by omega)
            go_wp2
            go_round
            case rel => exact ⟨k + 1, by omega, by go_num, HX⟩
            case measure => simp [intOf]; omega
          · go_wp2
            go_ret
            exact ⟨rfl, Below.refl _ _⟩
        · go_wp2
          go_ret
          exact ⟨rfl, Below.refl _ _⟩
      · go_wp2
        go_ret
        exact ⟨rfl, Below.refl _ _⟩
    · obtain rfl : k = n := by omega
      have HCL : Hid (∀ i, i < k → w.cell? ⟨b, off + i, none⟩ = some (.int .u8 (zs.getD i 0))) := hc
      clear hc
      go_wp2_with fail
      refine (copy_row2 b off k cap zs w hn hb HCL.out).mono ?_
      rintro e w1 ⟨rfl, hbel, hsz, hcp⟩
      have HCP : Hid (∀ i, i < k → w1.cell? ⟨w.heap.size, i, none⟩ = some (.int .u8 (zs.getD i 0))) := hcp
      clear hcp HCL
      go_wp2_with fail
      go_loop [10, 11, 12, 13] (fun o cl bg i => ∃ j on cn : Nat, ∃ gk : Bool, j ≤ k ∧ on ≤ j ∧ cn ≤ j ∧ i = .int .i64 j ∧ o = .int .i64 on ∧ cl = .int .i64 cn ∧ bg = .bool gk ∧ Hid (Flow.O zs j = on ∧ Flow.C zs j = cn ∧ Flow.B a2 zs j = gk)) (fun _ _ _ i => k - (intOf i).toNat)
      case atStart => exact ⟨0, 0, 0, a2, Nat.zero_le _, Nat.le_refl _, Nat.le_refl _, rfl, rfl, rfl, rfl, rfl, rfl, rfl⟩
      case round =>
        obtain ⟨j, on, cn, gk, hj, hon, hcn, rfl, rfl, rfl, rfl, HJ⟩ := hrel
        by_cases hlj : j < k
        · have hck := HCP.out j hlj
          obtain ⟨c, hcc⟩ : ∃ c, zs.getD j 0 = c := ⟨_, rfl⟩
          rw [hcc] at hck
          have HC : Hid (zs.getD j 0 = c) := hcc
          clear hcc
          by_cases c91 : c = 91
          · subst c91
            have bl : Flow.blank 91 = false := rfl
            go_wp2_with (go_at_call 10; refine (blank_any _ _).mono ?_; rintro e w' ⟨rfl, rfl⟩)
            go_round
            case rel => exact ⟨j + 1, on + 1, cn, true, by omega, by omega, by omega, by go_num, by go_num, rfl, rfl, Flow.count_open HJ.out HC.out rfl rfl rfl rfl⟩
            case measure => simp [intOf]; omega
          by_cases c123 : c = 123
          · subst c123
            have bl : Flow.blank 123 = false := rfl
            go_wp2_with (go_at_call 10; refine (blank_any _ _).mono ?_; rintro e w' ⟨rfl, rfl⟩)
            go_round
            case rel => exact ⟨j + 1, on + 1, cn, true, by omega, by omega, by omega, by go_num, by go_num, rfl, rfl, Flow.count_open HJ.out HC.out rfl rfl rfl rfl⟩
            case measure => simp [intOf]; omega
          by_cases c93 : c = 93
          · subst c93
            have bl : Flow.blank 93 = false := rfl
            go_wp2_with (go_at_call 10; refine (blank_any _ _).mono ?_; rintro e w' ⟨rfl, rfl⟩)
            go_round
            case rel => exact ⟨j + 1, on, cn + 1, true, by omega, by omega, by omega, by go_num, rfl, by go_num, rfl, Flow.count_close HJ.out HC.out rfl rfl rfl rfl⟩
            case measure => simp [intOf]; omega
          by_cases c125 : c = 125
          · subst c125
            have bl : Flow.blank 125 = false := rfl
            go_wp2_with (go_at_call 10; refine (blank_any _ _).mono ?_; rintro e w' ⟨rfl, rfl⟩)
            go_round
            case rel => exact ⟨j + 1, on, cn + 1, true, by omega, by omega, by omega, by go_num, rfl, by go_num, rfl, Flow.count_close HJ.out HC.out rfl rfl rfl rfl⟩
            case measure => simp [intOf]; omega
          have f91 : (c == 91) = false := beq_eq_false_iff_ne.2 c91
          have f123 : (c == 123) = false := beq_eq_false_iff_ne.2 c123
          have f93 : (c == 93) = false := beq_eq_false_iff_ne.2 c93
          have f125 : (c == 125) = false := beq_eq_false_iff_ne.2 c125
          have HX : Hid (Flow.opn c = false ∧ Flow.cls c = false) := by simp [Flow.opn, Flow.cls, f91, f123, f93, f125, Hid]
          clear c91 c123 c93 c125
          cases bl : Flow.blank c
          · have HB : Hid (Flow.blank c = false) := bl
            go_wp2_with (go_at_call 10; refine (blank_any _ _).mono ?_; rintro e w' ⟨rfl, rfl⟩)
            go_round
            case rel => exact ⟨j + 1, on, cn, (c != 44), by omega, by omega, by omega, by go_num, rfl, rfl, rfl, Flow.count_other HJ.out HC.out HB.out HX.out.1 HX.out.2⟩
            case measure => simp [intOf]; omega
          · have HB : Hid (Flow.blank c = true) := bl
            go_wp2_with (go_at_call 10; refine (blank_any _ _).mono ?_; rintro e w' ⟨rfl, rfl⟩)
            go_round
            case rel => exact ⟨j + 1, on, cn, gk, by omega, by omega, by omega, by go_num, rfl, rfl, rfl, Flow.count_blank HJ.out HC.out HB.out HX.out.1 HX.out.2⟩
            case measure => simp [intOf]; omega
        · obtain rfl : j = k := by omega
          have HRD : ReadsTo w1 (.slice (some ⟨w.heap.size, 0, none⟩) j j) a0 a1 a2 (Flow.D a0 zs j) a1 (Flow.B a2 zs j) :=
            read_plain w1 w.heap.size j j zs a0 a1 a2 hsz hn HCP.out hq1 hq2 H.out hd.out
          have hfin : (Flow.D a0 zs j == wrap64 (wrap64 (a0 + (on : Int)) - (cn : Int))) = true := by
            have h := Flow.D_sum a0 zs j
            rw [HJ.out.1, HJ.out.2.1] at h
            rw [h]; simp
          have hB : Flow.B a2 zs j = gk := HJ.out.2.2
          subst hB
          generalize Flow.D a0 zs j = dn at *
          generalize Flow.B a2 zs j = gn at *
          clear HJ HCP H hd hj hon hcn
          go_wp2_with fail
          refine (flow_of w1 _ a0 a1 dn a1 a2 gn HRD).mono ?_
          rintro e w2 ⟨rfl, m, rfl⟩
          go_wp2
          go_ret
          exact ⟨rfl, below_drewN (hbel.alloc (by omega) _) m⟩

/-- An empty text: nil or not. -/
def CopiesTo (w : World) (v v' : Value) (w1 : World) : Prop := Calls Try.prog 9 #[v] w fun e w' => e = .returned v' ∧ w' = w1
theorem CopiesTo.calls {w w1 : World} {v v' : Value} (h : CopiesTo w v v' w1) : Calls Try.prog 9 #[v] w fun e w' => e = .returned v' ∧ w' = w1 := h

set_option maxRecDepth 100000 in
set_option maxHeartbeats 1000000 in
theorem walk_empty (a0 a1 : Int) (a2 : Bool) (a a' : Option Addr) (cap : Nat) (w w1 : World) (hcp : CopiesTo w (.slice a 0 cap) (.slice a' 0 0) w1) (hbel : Below w.heap.size w w1)
    (hq1 : (a1 == 34) = false) (hq2 : (a1 == 39) = false) (hd : Hid (wrap64 a0 = a0)) :
    Calls Try.prog 4 #[.int .i64 a0, .int .u8 a1, .bool a2, .slice a 0 cap] w fun e w' => e = .returned (.bool true) ∧ Below w.heap.size w w' := by
  have HRD : ReadsTo w1 (.slice a' 0 0) a0 a1 a2 a0 a1 a2 := read_none w1 a' 0 a0 a1 a2
  have hfin : (a0 == wrap64 (wrap64 a0)) = true := by rw [hd.out, hd.out]; simp
  have hfin2 : (a0 == wrap64 a0) = true := by rw [hd.out]; simp
  go_enter Try.func4, Try.ntmps4
  go_wp2
  refine wp_loop_rounds 1 ?_
  rw [rounds_succ]
  go_wp2_with fail
  refine hcp.calls.mono ?_
  rintro e w2 ⟨rfl, rfl⟩
  go_wp2_with fail
  refine wp_loop_rounds 1 ?_
  rw [rounds_succ]
  go_wp2_with fail
  refine (flow_of w2 _ a0 a1 a0 a1 a2 a2 HRD).mono ?_
  rintro e w3 ⟨rfl, m, rfl⟩
  go_wp2
  go_ret
  have hs := hbel.size
  exact ⟨rfl, below_drewN (hbel.alloc hs _) m⟩

/-- The law, whatever the input. -/
theorem walk (a0 : Int) (a1 : Int) (a2 : Bool) (a3 : Option Addr) (len3 cap3 : Nat) (z3 : List Int) (w : World) (w0 : (Lit.int .i64 a0).wf = true) (w1 : (Lit.int .u8 a1).wf = true) (w3 : IsRow .u8 w a3 len3 cap3 z3) :
    Calls Try.prog 4 #[.int .i64 a0, .int .u8 a1, .bool a2, .slice a3 len3 cap3] w fun e w' => e = .returned (.bool true) ∧ Below w.heap.size w w' := by
  have hd : wrap64 a0 = a0 := by have := bounds_i64 w0; unfold wrap64; omega
  have hlen : len3 ≤ 9223372036854775807 := by
    rcases w3 with ⟨_, h, _⟩ | ⟨_, _, h1, h2, _⟩
    · omega
    · unfold maxLen at h2; omega
  by_cases g1 : len3 ≤ 1048576
  · cases hq1 : (a1 == 34)
    · cases hq2 : (a1 == 39)
      · rcases w3 with ⟨rfl, rfl, rfl, rfl⟩ | ⟨x, rfl, hl, hm, hz, hcell, hwz⟩
        · exact walk_empty a0 a1 a2 none none 0 w w (copy_nil w) (Below.refl _ _) hq1 hq2 hd
        · by_cases h0 : len3 = 0
          · subst h0
            exact walk_empty a0 a1 a2 (some x) (some ⟨w.heap.size, 0, none⟩) cap3 w _ (copy_empty x cap3 w) ((Below.refl _ _).alloc (Nat.le_refl _) _) hq1 hq2 hd
          · obtain ⟨b, off, rfl, hc⟩ := ints_at hcell (by omega)
            exact walk_row a0 a1 a2 b off len3 cap3 z3 w g1 (World.block_lt_of_cell? _ _ (hc 0 (by omega))) (fun i hi => hc i (by omega)) hq1 hq2 hd
      · clear w3 w0 w1 hd
        go_enter Try.func4, Try.ntmps4
        go_wp2
        go_ret
        exact ⟨rfl, Below.refl _ _⟩
    · clear w3 w0 w1 hd
      go_enter Try.func4, Try.ntmps4
      go_wp2
      go_ret
      exact ⟨rfl, Below.refl _ _⟩
  · clear w3 w0 w1 hd
    go_enter Try.func4, Try.ntmps4
    go_wp2
    go_ret
    exact ⟨rfl, Below.refl _ _⟩

/-! ### THE ROW's STEP -/
set_option maxRecDepth 100000 in
theorem lifted (os : Os) (started : os.Started) (H : Type) (enc : TypeId × Value → H) :
    ReturnsInHanded {} Try.checked os 4 .any (Rows.fnFlowReadBracketBalanceSpec.pre6 enc Try.prog Try.f4 Rows.fnFlowReadBracketBalanceRow.domain false) (Rows.fnFlowReadBracketBalanceSpec.post enc Try.prog Try.f4 false true false false) := by
  refine returnsInHanded_of_change (C := Try.checked) own started (by kernel_rfl) Try.func4
    (ChangeSpec.witness6 (enc := enc) (C := Try.checked) false ⟨#[], #[.int .i64 0, .int .u8 0, .bool false, .slice none 0 0], []⟩ 8 (by kernel_rfl) (by kernel_rfl) (by kernel_rfl) (by kernel_rfl)) ?_
  intro W base args ds gs before hval0 hW hcnd _
  have hval : ∀ (j : Nat) t v, Try.f4.params[j]? = some t → args[j]? = some v → Value.okWide Try.prog W .any base t v := hval0
  have hW' := hW
  obtain ⟨p, q, hA0, hV, rfl, hfz, hnd⟩ := hW
  have hA : DataW.TrodAll enc Try.prog W 0 (fun _ => true) true Try.f4.params.toList args.toList ds p := hA0
  rw [Try.params4] at hA hval
  obtain ⟨v0, vs0, d0, ds0, p0, q0, hargs, rfl, rfl, h0, r0⟩ := trodAll_cons hA
  obtain ⟨v1, vs1, d1, ds1, p1, q1, rfl, rfl, rfl, h1, r1⟩ := trodAll_cons r0
  obtain ⟨v2, vs2, d2, ds2, p2, q2, rfl, rfl, rfl, h2, r2⟩ := trodAll_cons r1
  obtain ⟨v3, vs3, d3, ds3, p3, q3, rfl, rfl, rfl, h3, r3⟩ := trodAll_cons r2
  obtain ⟨rfl, rfl, rfl⟩ := trodAll_nil r3
  obtain rfl : args = #[v0, v1, v2, v3] := by cases args; simp_all
  obtain ⟨rfl, rfl⟩ := trodVars_none hV
  obtain ⟨a0, rfl, rfl, rfl, w0⟩ := open_int Try.underlying3 (hval 0 3 v0 rfl rfl) h0
  obtain ⟨a1, rfl, rfl, rfl, w1⟩ := open_int Try.underlying5 (hval 1 5 v1 rfl rfl) h1
  obtain ⟨a2, rfl, rfl, rfl⟩ := open_bool Try.underlying4 (hval 2 4 v2 rfl rfl) h2
  obtain ⟨a3, len3, cap3, rfl⟩ := okWide_slice Try.underlying26 (hval 3 26 v3 rfl rfl)
  have k3 := h3
  have lt3 : ∀ x ∈ p3, x.block < W.heap.size := by obtain ⟨m, hm⟩ := k3; exact DataW.trod_lt m _ _ _ hm
  obtain ⟨z3, w3⟩ : ∃ zs, IsRow .u8 W a3 len3 cap3 zs := by
    obtain ⟨fuel, hf⟩ := h3
    rcases open_ints Try.underlying26 Try.underlying5 (by kernel_rfl) hf with ⟨hcs, _⟩ | ⟨x, l, c, zs, hcs, _, hl, hm, hz, _, hcell, hwz⟩
    · simp [Value.cells] at hcs
      obtain ⟨rfl, rfl, rfl⟩ := hcs
      exact ⟨[], .inl ⟨rfl, rfl, rfl, rfl⟩⟩
    · simp [Value.cells] at hcs
      obtain ⟨rfl, rfl, rfl⟩ := hcs
      exact ⟨zs, .inr ⟨_, rfl, hl, hm, by simpa using hz, hcell, hwz⟩⟩
  clear hA0 hval0
  refine (walk a0 a1 a2 a3 len3 cap3 z3 W w0 w1 w3).mono fun e W' ⟨he, bel⟩ => ?_
  subst he
  exact ⟨_, rfl, _, _, _, [], _, [], hW', trodAll_mk1 (shut_bool Try.underlying4 _), (trodAll_cons_mk (shut_int Try.underlying3 w0) (trodAll_cons_mk (shut_int Try.underlying5 w1) (trodAll_cons_mk (shut_bool Try.underlying4 _) (trodAll_cons_mk (Below.trod laidOut (by kernel_rfl) (of_decide_eq_true (by kernel_rfl)) k3 bel lt3) trodAll_mk0)))), rfl, bel.frame _, fun h => by cases h⟩

theorem over : Rows.fnFlowReadBracketBalanceRow.holds Try.pinned (OpenSpec.ofChange Rows.fnFlowReadBracketBalanceSpec) :=
  OpenClaim.holds_of_wide 4 Try.f4 rfl rfl rfl rfl rfl rfl rfl ⟨rfl, rfl, rfl, rfl, rfl⟩ rfl rfl rfl rfl rfl (by kernel_rfl) Try.func4 (by kernel_rfl)
    (of_decide_eq_true (by kernel_rfl)) (by unfold Func.isWrapper; first | (rw [if_pos (by decide +kernel)]; kernel_rfl) | (rw [if_neg (by decide +kernel)]; exact ⟨rfl, rfl⟩))
    (fun os started H enc _ => lifted os started H enc)

/-- THE STATEMENT. -/
theorem proved : Rows.FnFlowReadBracketBalanceSaid := over
#print axioms proved
end Go.Proofs.Qxb6603889a.fnFlowReadBracketBalance
