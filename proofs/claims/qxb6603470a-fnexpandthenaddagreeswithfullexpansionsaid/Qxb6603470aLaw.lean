/-
  THE LAW's own walk (5).
-/
import Derived.Test.Qxb6603470aSame
import Derived.Test.Qxb6603470aBytes
namespace Go.Proofs.Qxb6603470a
open Go.RowKit
set_option linter.unusedVariables false
set_option linter.unusedSimpArgs false

/-- What the law reads. -/
structure Env (w : World) (v0 v2 v3 v4 : Value) (op nm : List ByteArray) (rf : List Int) (T : Tab) : Prop where
  s0 : StrsAt w (· < w.heap.size) v0 op
  s2 : StrsAt w (· < w.heap.size) v2 nm
  s3 : IntsAt w (· < w.heap.size) v3 rf
  s4 : TabAt w (· < w.heap.size) v4 T
section
variable {w w' : World} {v0 v2 v3 v4 : Value} {op nm : List ByteArray} {rf : List Int} {T : Tab}
theorem below_same (h : Below w.heap.size w w') : Same (· < w.heap.size) w w' := fun b hb => h.block b hb
theorem below_lt (h : Below w.heap.size w w') : ∀ b, b < w.heap.size → b < w'.heap.size := fun b hb => Nat.lt_of_lt_of_le hb h.size
theorem Env.next (h : Env w v0 v2 v3 v4 op nm rf T) (hb : Below w.heap.size w w') : Env w' v0 v2 v3 v4 op nm rf T :=
  ⟨h.s0.next (below_same hb) (below_lt hb), h.s2.next (below_same hb) (below_lt hb), h.s3.next (below_same hb) (below_lt hb), h.s4.next (below_same hb) (below_lt hb)⟩
end

/-- A line alone, in a new block. -/
theorem lns_one {g : SP → Nat → Value} {w : World} {a : Option Addr} {n c : Nat} {L : List SP} {t : TypeId} (h : PcsAt g w (· < w.heap.size) (.slice a n c) L) :
    LnsAt g (w.alloc (.cells #[.slice a n c] t)) (· < (w.alloc (.cells #[.slice a n c] t)).heap.size) (.slice (some ⟨w.heap.size, 0, none⟩) 1 1) [L] := by
  have hb : Below w.heap.size w (w.alloc (.cells #[.slice a n c] t)) := (Below.refl _ _).alloc (Nat.le_refl _) _
  refine ⟨_, _, fun _ => .slice a n c, rfl, Nat.le_refl _, by show 1 ≤ _; decide, fun _ => ⟨_, _, rfl, by simp, fun i hi => ?_⟩, fun j hj => ?_⟩
  · obtain rfl : i = 0 := by simpa using hi
    exact (World.cell?_alloc_at _ _ _ _ rfl).trans rfl
  · obtain rfl : j = 0 := by simpa using hj
    exact h.next (below_same hb) (below_lt hb)

theorem row_cells {w : World} {base n c : Nat} {a : Option Addr} {outs : List ByteArray} (hn : n = outs.length) (h0 : 0 < n) (h : w.ownsRow base 9 1 (.slice a n c) n (outs.map Value.string)) :
    ∃ g, a = some ⟨g, 0, none⟩ ∧ n ≤ c ∧ ∀ j, j < n → w.cell? ⟨g, j, none⟩ = some (.string (outs.getD j ByteArray.empty)) := by
  rcases h.2 with ⟨h1, h2⟩ | ⟨g, cap, cur, hv, _, _, hc, _⟩
  · omega
  · cases hv
    refine ⟨g, rfl, hc, fun j hj => ?_⟩
    rw [h.cellAt j (by omega), List.getElem?_map, List.getElem?_eq_getElem (by omega), List.getD_eq_getElem?_getD, List.getElem?_eq_getElem (by omega)]
    rfl
set_option maxRecDepth 100000 in
set_option maxHeartbeats 4000000 in
theorem law_any (v0 v2 v3 v4 : Value) (op nm : List ByteArray) (ty : ByteArray) (rf : List Int) (T : Tab) (w : World) (h : Env w v0 v2 v3 v4 op nm rf T) (hty : ty.size ≤ 9223372036854775807) :
    Calls Try.prog 5 #[v0, .string ty, v2, v3, v4] w fun e w' => e = .returned (.bool true) ∧ Below w.heap.size w w' := by
  go_enter Try.func5, Try.ntmps5
  go_wp2_with fail
  refine (bytes_any v0 v2 v3 v4 op ty nm rf T w _ h.s0 h.s2 h.s3 h.s4).mono ?_
  rintro e w' ⟨hw, b, rfl⟩
  rw [hw]
  clear hw
  cases b
  · go_wp2_with fail
    go_ret
    exact ⟨rfl, Below.refl _ _⟩
  go_wp2_with fail
  refine (total_any v0 v2 v3 v4 op ty nm rf T w _ h.s0 h.s2 h.s3 h.s4).mono ?_
  rintro e w' ⟨hw, t, rfl, ht0, htf⟩
  rw [hw]
  clear hw
  by_cases htl : 1048576 < t
  · clear htf
    go_wp2_with fail
    go_ret
    exact ⟨rfl, Below.refl _ _⟩
  obtain ⟨f0, f1, f2, f3, f4⟩ := htf (by omega)
  have HFF : Hid (StrsFit op ∧ StrsFit nm ∧ TabFit T) := ⟨f0, f2, f4⟩
  have hl0 := f0.1
  obtain ⟨a0, c0, hv0, _⟩ := id h.s0
  have HC15 : Hid (Calls Try.prog 15 #[v0, .string ty] w fun e w' => w' = w ∧ IsB e) := by rw [hv0]; exact fits_any a0 op.length c0 ty w hl0 f1
  clear htf f0 f2 f4 hv0 hl0
  go_wp2_with fail
  refine HC15.out.mono ?_
  rintro e w' ⟨hw, b, rfl⟩
  rw [hw]
  clear hw HC15
  cases b
  · go_wp2_with fail
    go_ret
    exact ⟨rfl, Below.refl _ _⟩
  go_wp2_with fail
  refine (wf_any v4 T w h.s4 HFF.out.2.2).mono ?_
  rintro e w1 ⟨hb1, b, rfl, hwf⟩
  cases b
  · clear hwf
    go_wp2_with fail
    go_ret
    exact ⟨rfl, hb1⟩
  have HWF : Hid (WF T) := hwf rfl
  clear hwf
  have hA := h.next hb1
  clear h
  have hsz1 := hb1.size
  go_wp2_with fail
  refine (cloneStrs_any v0 op w1 hA.s0 HFF.out.1.1).mono ?_
  rintro e w2 ⟨hb2, x0, rfl, hx0⟩
  have E2 : Env w2 x0 v2 v3 v4 op nm rf T := ⟨hx0.next (fun b _ => rfl) (fun b h => h.2), (hA.next hb2).s2, (hA.next hb2).s3, (hA.next hb2).s4⟩
  have B2 : Below w.heap.size w w2 := hb1.trans (hb2.mono hsz1)
  have z2 := B2.size
  clear hb2 hx0 hA hb1 hsz1
  go_wp2_with fail
  refine (cloneStrs_any v2 nm w2 E2.s2 HFF.out.2.1.1).mono ?_
  rintro e w3 ⟨hb3, x2, rfl, hx2⟩
  have E3 : Env w3 x0 x2 v3 v4 op nm rf T := ⟨(E2.next hb3).s0, hx2.next (fun b _ => rfl) (fun b h => h.2), (E2.next hb3).s3, (E2.next hb3).s4⟩
  have B3 : Below w.heap.size w w3 := B2.trans (hb3.mono z2)
  have z3 := B3.size
  clear hb3 hx2 E2 B2 z2
  go_wp2_with fail
  refine (cloneInts_any v3 rf w3 E3.s3 f3).mono ?_
  rintro e w4 ⟨hb4, x3, rfl, hx3⟩
  have E4 : Env w4 x0 x2 x3 v4 op nm rf T := ⟨(E3.next hb4).s0, (E3.next hb4).s2, hx3.next (fun b _ => rfl) (fun b h => h.2), (E3.next hb4).s4⟩
  have B4 : Below w.heap.size w w4 := B3.trans (hb4.mono z3)
  have z4 := B4.size
  clear hb4 hx3 E3 B3 z3
  go_wp2_with fail
  refine (cloneTab_any v4 T w4 E4.s4 HFF.out.2.2).mono ?_
  rintro e w5 ⟨hb5, x4, rfl, hx4⟩
  have E5 : Env w5 x0 x2 x3 x4 op nm rf T := ⟨(E4.next hb5).s0, (E4.next hb5).s2, (E4.next hb5).s3, hx4.next (fun b _ => rfl) (fun b h => h.2)⟩
  have B5 : Below w.heap.size w w5 := B4.trans (hb5.mono z4)
  have z5 := B5.size
  clear hb5 hx4 E4 B4 z4
  go_wp2_with fail
  refine (table_any x4 T w5 E5.s4 HFF.out.2.2).mono ?_
  rintro e w6 ⟨hb6, vp, P, rfl, hpt, htb⟩
  have E6 := E5.next hb6
  have hpt6 : PtrsAt w6 (· < w6.heap.size) vp T.length P := hpt.next (fun b _ => rfl) (fun b h => h.2)
  have htb6 : TblAt w6 (· < w6.heap.size) T.length P T := htb.next (fun b _ => rfl) (fun b h => h.2)
  have B6 : Below w.heap.size w w6 := B5.trans (hb6.mono z5)
  have z6 := B6.size
  clear hb6 hpt htb E5 B5 z5
  go_wp2_with fail
  refine (types_any x2 x3 vp nm rf T.length P w6 E6.s2 E6.s3 hpt6 HFF.out.2.2.1 HFF.out.2.1).mono ?_
  rintro e w7 ⟨hb7, rfl, hty7⟩
  have E7 := E6.next hb7
  have htb7 := htb6.next (below_same hb7) (below_lt hb7)
  have hmb : w6.heap.size < w7.heap.size := by
    obtain ⟨D, h1, _⟩ := hty7
    exact h1.lt
  have B7 : Below w.heap.size w w7 := B6.trans (hb7.mono z6)
  have z7 := B7.size
  have HTY7 : Hid (TypesAt w7 w6.heap.size nm rf T.length P) := hty7
  clear hb7 hpt6 htb6 E6 B6 z6 hty7
  generalize w6.heap.size = mb at *
  go_wp2_with fail
  refine (full_any x0 x2 x3 x4 op nm rf T w7 E7.s0 E7.s2 E7.s3 E7.s4 HFF.out.1 HFF.out.2.1 HFF.out.2.2).mono ?_
  rintro e w8 ⟨hb8, xl, rfl, hxl⟩
  have E8 := E7.next hb8
  have htb8 := htb7.next (below_same hb8) (below_lt hb8)
  have HTY8 : Hid (TypesAt w8 mb nm rf T.length P) := HTY7.out.next (hb8.block mb hmb)
  have hmb8 : mb < w8.heap.size := Nat.lt_of_lt_of_le hmb hb8.size
  have B8 : Below w.heap.size w w8 := B7.trans (hb8.mono z7)
  have z8 := B8.size
  clear hb8 HTY7 E7 htb7 B7 z7 hmb
  obtain ⟨al, nl, cl, hxe⟩ : ∃ a n c, xl = .slice a n c := by
    obtain ⟨a, c, h, _⟩ := hxl
    exact ⟨_, _, _, h⟩
  subst hxe
  have hxl8 : PcsAt pc w8 (· < w8.heap.size) (.slice al nl cl) (fullTo op nm rf T op.length) := hxl.next (fun b _ => rfl) (fun b h => h.2)
  clear hxl
  go_wp2_with fail
  have hb9 : Below w8.heap.size w8 (w8.alloc (.cells #[.slice al nl cl] 44)) := (Below.refl _ _).alloc (Nat.le_refl _) _
  have hln9 := lns_one (t := 44) hxl8
  have E9 := E8.next hb9
  have htb9 := htb8.next (below_same hb9) (below_lt hb9)
  have HTY9 : Hid (TypesAt (w8.alloc (.cells #[.slice al nl cl] 44)) mb nm rf T.length P) := HTY8.out.next (hb9.block mb hmb8)
  have hmb9 : mb < (w8.alloc (.cells #[.slice al nl cl] 44)).heap.size := Nat.lt_of_lt_of_le hmb8 hb9.size
  have B9 : Below w.heap.size w (w8.alloc (.cells #[.slice al nl cl] 44)) := B8.trans (hb9.mono z8)
  have z9 := B9.size
  generalize w8.alloc (.cells #[.slice al nl cl] 44) = w9 at *
  clear hb9 E8 htb8 HTY8 hmb8 B8 z8 hxl8
  refine (model_any x4 _ T [fullTo op nm rf T op.length] w9 E9.s4 hln9 HWF.out HFF.out.2.2 (full_top HFF.out.2.2 HFF.out.1) (by show 1 ≤ _; decide)).mono ?_
  rintro e w10 ⟨hb10, va, rfl, hown10, hlen10⟩
  have E10 := E9.next hb10
  have htb10 := htb9.next (below_same hb10) (below_lt hb10)
  have HTY10 : Hid (TypesAt w10 mb nm rf T.length P) := HTY9.out.next (hb10.block mb hmb9)
  have hmb10 : mb < w10.heap.size := Nat.lt_of_lt_of_le hmb9 hb10.size
  have B10 : Below w.heap.size w w10 := B9.trans (hb10.mono z9)
  have z10 := B10.size
  have hown10' := ownsRow_mono hown10 z9
  clear hb10 E9 htb9 HTY9 hmb9 B9 z9 hln9 hown10
  go_wp2_with fail
  refine (zexpand_any x0 ty mb op nm rf T P w10 E10.s0 f1 HTY10.out hmb10 htb10 HFF.out.1 HFF.out.2.2).mono ?_
  rintro e w11 ⟨hb11, xp, F, rfl, hexp, hxp⟩
  have htb11 := htb10.next (below_same hb11) (below_lt hb11)
  have B11 : Below w.heap.size w w11 := B10.trans (hb11.mono z10)
  have z11 := B11.size
  have hown11 : w11.ownsRow w.heap.size 9 1 va _ _ := ownsRow_same hown10' (fun g hg => hb11.block g (hown10'.lt g hg).2)
  have HSA : Hid (eat [] 0 (evLines T false [F]) = eat [] 0 (evLines T false [fullTo op nm rf T op.length])) := (same_all HWF.out HFF.out.2.2 hexp).symm
  have HLOK : Hid (LOK T false (fuelOf T) [F]) := exp_lok HWF.out HFF.out.2.2 hexp (fun s hs => mem_fit HFF.out.1 hs)
  clear hb11 htb10 HTY10 hmb10 B10 z10 E10 hown10' hexp
  obtain ⟨ap, np, cp, hxe⟩ : ∃ a n c, xp = .slice a n c := by
    obtain ⟨a, c, h, _⟩ := hxp
    exact ⟨_, _, _, h⟩
  subst hxe
  have hxp11 : PcsAt (bc T.length P) w11 (· < w11.heap.size) (.slice ap np cp) F := hxp.next (fun b _ => rfl) (fun b h => h.2)
  clear hxp
  go_wp2_with fail
  have hb12 : Below w11.heap.size w11 (w11.alloc (.cells #[.slice ap np cp] 47)) := (Below.refl _ _).alloc (Nat.le_refl _) _
  have hln12 := lns_one (t := 47) hxp11
  have htb12 := htb11.next (below_same hb12) (below_lt hb12)
  have B12 : Below w.heap.size w (w11.alloc (.cells #[.slice ap np cp] 47)) := B11.trans (hb12.mono z11)
  have z12 := B12.size
  have hown12 := hown11.alloc (.cells #[.slice ap np cp] 47)
  generalize w11.alloc (.cells #[.slice ap np cp] 47) = w12 at *
  clear hb12 htb11 B11 z11 hxp11 hown11
  refine (zadd_any _ [F] w12 T P (fuelOf T) HWF.out HFF.out.2.2 htb12 HLOK.out hln12).mono ?_
  rintro e w13 ⟨hb13, vg, rfl, hown13, hlen13, hnil13⟩
  have B13 : Below w.heap.size w w13 := B12.trans (hb13.mono z12)
  have hownA : w13.ownsRow w.heap.size 9 1 va _ _ := ownsRow_same hown12 (fun g hg => hb13.block g (hown12.lt g hg).2)
  have hownG := ownsRow_mono hown13 z12
  rw [HSA.out]
  rw [HSA.out] at hownG hnil13
  clear hb13 htb12 B12 z12 hln12 hown12 hown13 hlen13 HSA HLOK HWF HFF
  generalize eat [] 0 (evLines T false [fullTo op nm rf T op.length]) = R at *
  obtain ⟨outs, sz, ok⟩ := R
  dsimp only at hownA hownG hnil13 hlen10 ⊢
  obtain ⟨aA, cA, hvA⟩ := row_shape hownA
  obtain ⟨aG, cG, hvG⟩ := row_shape hownG
  subst hvA hvG
  obtain ⟨n, hn'⟩ : ∃ n, n = outs.length := ⟨_, rfl⟩
  have HN : Hid (n = outs.length) := hn'
  rw [← hn'] at hownA hownG hlen10 hnil13 ⊢
  clear hn'
  have hokb : (ok != ok) = false := by cases ok <;> rfl
  have hszb : ((sz : Int) != (sz : Int)) = false := by simp
  have hnb : ((n : Int) != (n : Int)) = false := by simp
  by_cases h0 : n = 0
  · subst h0
    have hg := hnil13 (List.eq_nil_of_length_eq_zero HN.out.symm)
    cases hg
    have q := fun (w : World) => Lib.run_eql_slice_nil (P := Try.prog) w 22 9 none 0 0 0 0 Try.underlying22
    clear hnil13 hownG
    go_wp2_with fail
    refine wp_loop_rounds 1 ?_
    rw [rounds_succ]
    go_wp2_with fail
    go_ret
    exact ⟨rfl, B13⟩
  · have hzb : ((n : Int) == 0) = false := by simp; omega
    obtain ⟨gA, hA1, hA2, hcellA⟩ : ∃ g, aA = some ⟨g, 0, none⟩ ∧ n ≤ cA ∧ ∀ j, j < n → w13.cell? ⟨g, j, none⟩ = some (.string (outs.getD j ByteArray.empty)) := row_cells HN.out (by omega) hownA
    obtain ⟨gG, hG1, hG2, hcellG⟩ : ∃ g, aG = some ⟨g, 0, none⟩ ∧ n ≤ cG ∧ ∀ j, j < n → w13.cell? ⟨g, j, none⟩ = some (.string (outs.getD j ByteArray.empty)) := row_cells HN.out (by omega) hownG
    subst hA1 hG1
    have HCA : Hid (∀ j, j < n → w13.cell? ⟨gA, j, none⟩ = some (.string (outs.getD j ByteArray.empty))) := hcellA
    have HCG : Hid (∀ j, j < n → w13.cell? ⟨gG, j, none⟩ = some (.string (outs.getD j ByteArray.empty))) := hcellG
    clear hcellA hcellG hownA hownG hnil13
    have q := fun (w : World) => Lib.run_eql_slice_nil (P := Try.prog) w 22 9 (some ⟨gG, 0, none⟩) n cG 0 0 Try.underlying22
    go_wp2_with fail
    clear q
    go_loopw [20] (fun i wr => ∃ k d : Nat, i = .int .i64 k ∧ k ≤ n ∧ wr = w13.drewN d) (fun i _ => n - (intOf i).toNat)
    case atStart => exact ⟨0, 0, rfl, Nat.zero_le _, rfl⟩
    case round =>
      obtain ⟨k, d, rfl, hk, rfl⟩ := hrel
      by_cases hlt : k < n
      · have cA1 := HCA.out k hlt
        have cG1 := HCG.out k hlt
        generalize outs.getD k ByteArray.empty = s at *
        have hss : (s.toList == s.toList) = true := by simp
        go_wp2_with fail
        go_quiet (fail)
        go_wp2_with fail
        go_roundw
        case rel => exact ⟨k + 1, _, by go_num, by omega, rfl⟩
        case measure => simp [intOf]; omega
      · obtain rfl : k = n := by omega
        go_wp2_with fail
        go_ret
        exact ⟨rfl, below_drewN B13 _⟩
end Go.Proofs.Qxb6603470a
