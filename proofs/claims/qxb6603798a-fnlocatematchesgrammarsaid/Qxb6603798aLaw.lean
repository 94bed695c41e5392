/-
  THE LAW's own walk (4).
-/
import Derived.Test.Qxb6603798aLawA
namespace Go.Proofs.Qxb6603798a
open Go.RowKit
set_option linter.unusedVariables false
set_option linter.unusedSimpArgs false

/-- The new state's block, laid and stored. -/
theorem lay28 (w : World) (old : Array Value) (fs : List Value) : ∃ w2, (w.alloc (.cells old 28)).setRow w.heap.size fs.toArray = w2 ∧ StructAt w2 w.heap.size 28 fs ∧ Below w.heap.size w w2 ∧ w.heap.size < w2.heap.size := by
  refine ⟨_, rfl, setRow_heap _ _ _ _ _ _ (heap_alloc_new _ _), ⟨rfl, rfl, rfl, by simp, fun k hk => ?_⟩, by simp⟩
  rw [setRow_other _ _ _ _ (by omega)]
  exact Below.heap_alloc _ _ _ hk

set_option maxRecDepth 100000 in
set_option maxHeartbeats 1000000 in
theorem walk_nil (off : Int) (w : World) : Calls Try.prog 4 #[.slice none 0 0, .int .i64 off] w fun e w' => e = .returned (.bool true) ∧ Below w.heap.size w w' := by
  go_enter Try.func4, Try.ntmps4
  go_upto_region 6 with (first | (go_at_call 9; refine (bytes_any none 0 0 off _ (by omega)).mono ?_; rintro e w' ⟨rfl, hw⟩; rw [hw]; clear hw w') | (go_at_call 6; refine (clone_nil _).mono ?_; rintro e w' ⟨rfl, hw⟩; rw [hw]; clear hw w'))
  apply wp_region_lit
  iterate 12 go_step
  refine wpList_store_row rfl 28 (.tmp 5) (.tmp 28) rfl _ _ rfl rfl 28 _ (heap_alloc_new _ _) (by kernel_rfl) rfl (by kernel_rfl) ?_
  obtain ⟨w2, e2, hst, hbl, hsz⟩ := lay28 w #[.slice none 0 0, .int .i64 0, .int .i64 0, .bool false, .int .i64 0, .slice none 0 0, .slice none 0 0, .slice none 0 0, .slice none 0 0, .slice none 0 0, .bool false, .int .i64 0, .int .i64 0, .bool false, .slice none 0 0, .slice none 0 0, .slice none 0 0, .slice none 0 0, .slice none 0 0] (fsOf (.slice none 0 0) off (.slice none 0 0) (.slice none 0 0) (.slice none 0 0) (.slice none 0 0) (.slice none 0 0) false 0 0 false (.slice none 0 0) (.slice none 0 0) (.slice none 0 0) (.slice none 0 0) (.slice none 0 0))
  simp only [fsOf] at e2
  rw [e2]
  have h0 := hst.cell 0 rfl
  clear e2
  go_wp2_with (go_at_call 7; refine (parse_nil _ w.heap.size h0).mono ?_; rintro e w' ⟨rfl, rfl⟩)
  go_ret
  exact ⟨rfl, hbl⟩
theorem rowAt {w : World} {B : Nat} {e : TypeId} {a : Option Addr} {N c : Nat} {L : List Value} (h : w.ownsRow B e 1 (.slice a N c) N L) {k : Nat} {x : Value} (hx : L[k]? = some x) :
    ∃ g, a = some ⟨g, 0, none⟩ ∧ N ≤ c ∧ w.cell? ⟨g, k, none⟩ = some x ∧ g < w.heap.size := by
  have hk : k < N := by have := (List.getElem?_eq_some_iff.1 hx).1; have := h.1; omega
  obtain ⟨a', c', e', hs⟩ := ownsRow_shape h
  cases e'
  obtain ⟨g, rfl, hc⟩ := hs (by omega)
  exact ⟨g, rfl, hc, (h.cellAt k (by omega)).trans hx, (h.lt g rfl).2⟩

set_option maxRecDepth 100000 in
set_option maxHeartbeats 2000000 in
theorem walk_gen (a0 : Option Addr) (n cap0 : Nat) (zs : List Int) (off : Int) (w : World) (hn : n ≤ 1048576) (hoff : Hid (I64 off)) (hby : Hid (By zs n))
    (hcl : Hid (Calls Try.prog 6 #[.slice a0 n cap0] w fun e w' => e = .returned (.slice (some ⟨w.heap.size, 0, none⟩) n n) ∧ w' = w.alloc (.cells (half zs n n) 5))) :
    Calls Try.prog 4 #[.slice a0 n cap0, .int .i64 off] w fun e w' => e = .returned (.bool true) ∧ Below w.heap.size w w' := by
  go_enter Try.func4, Try.ntmps4
  go_upto_region 6 with (first | (go_at_call 9; refine (bytes_any a0 n cap0 off _ hn).mono ?_; rintro e w' ⟨rfl, hw⟩; rw [hw]; clear hw w') | (go_at_call 6; refine hcl.out.mono ?_; rintro e w1 ⟨rfl, hw1⟩; have HW1 : Hid (w1 = w.alloc (.cells (half zs n n) 5)) := hw1; clear hw1))
  apply wp_region_lit
  iterate 12 go_step
  refine wpList_store_row rfl 28 (.tmp 5) (.tmp 28) rfl _ _ rfl rfl 28 _ (heap_alloc_new _ _) (by kernel_rfl) rfl (by kernel_rfl) ?_
  have hw1 := HW1.out
  clear HW1
  have hdoc : DocAt w1 w.heap.size n zs := by
    intro i hi
    rw [hw1, World.cell?_alloc_at _ _ _ _ rfl, half_get _ _ _ _ hi, if_pos hi]; rfl
  have hsz1 : w1.heap.size = w.heap.size + 1 := by rw [hw1]; simp
  have hbl1 : Below w.heap.size w w1 := by rw [hw1]; exact (Below.refl _ _).alloc (Nat.le_refl _) _
  clear hw1 hcl
  obtain ⟨w2, e2, hst, hbl, hsz⟩ := lay28 w1 #[.slice none 0 0, .int .i64 0, .int .i64 0, .bool false, .int .i64 0, .slice none 0 0, .slice none 0 0, .slice none 0 0, .slice none 0 0, .slice none 0 0, .bool false, .int .i64 0, .int .i64 0, .bool false, .slice none 0 0, .slice none 0 0, .slice none 0 0, .slice none 0 0, .slice none 0 0] (fsOf (.slice (some ⟨w.heap.size, 0, none⟩) n n) off (.slice none 0 0) (.slice none 0 0) (.slice none 0 0) (.slice none 0 0) (.slice none 0 0) false 0 0 false (.slice none 0 0) (.slice none 0 0) (.slice none 0 0) (.slice none 0 0) (.slice none 0 0))
  simp only [fsOf] at e2
  rw [e2]
  clear e2
  have hinv : Inv w2 w1.heap.size w2.heap.size w.heap.size n n zs off ⟨[], none⟩ := by
    refine ⟨.slice none 0 0, .slice none 0 0, .slice none 0 0, .slice none 0 0, .slice none 0 0, .slice none 0 0, .slice none 0 0, .slice none 0 0, .slice none 0 0, .slice none 0 0, hst, ⟨?_, ?_⟩, ?_, by omega, by omega, hsz, Nat.le_refl _⟩
    · intro r hr
      simp only [rowsOf, List.mem_cons, List.not_mem_nil, or_false] at hr
      rcases hr with rfl | rfl | rfl | rfl | rfl | rfl | rfl | rfl | rfl | rfl <;> exact World.ownsRow_nil _ _ _ _
    · have ap : ∀ (e1 e2 : TypeId) (x y : List Value), Apart (.slice none 0 0, e1, x) (.slice none 0 0, e2, y) := fun _ _ _ _ k hk => by cases hk
      simp [rowsOf, ap]
    · intro i hi
      exact (hbl.cell (p := ⟨w.heap.size, i, none⟩) (by show w.heap.size < _; omega)).trans (hdoc i hi)
  have hbw : Below w.heap.size w w2 := hbl1.trans (hbl.mono (by omega))
  have hsbl : w.heap.size < w1.heap.size := by omega
  clear hbl1 hbl hst hdoc hsz1
  generalize w1.heap.size = sb at *
  go_wp2_with fail
  refine (parse_any w2 sb w2.heap.size w.heap.size n n zs off hn hinv).mono ?_
  rintro e w3 ⟨hres, hmov⟩
  have hb3 : Below w.heap.size w w3 := hbw.trans ⟨hmov.os, hmov.tape, hmov.output, hmov.size, fun k hk => hmov.block k (by omega) (by omega)⟩
  rcases hres with ⟨rfl, r, hi3, hseg⟩ | rfl
  rotate_left
  · go_wp2
    go_ret
    exact ⟨rfl, hb3⟩
  obtain ⟨T, hrest, hlen⟩ := rest_of hseg
  have HREST : Hid (Rest zs n off r ([], false) 0 T) := hrest
  have HLEN : Hid (∀ m, r = some m → m.path.length ≤ n) := hlen
  have hsz3 := hmov.size
  clear hseg hrest hlen hinv hbw hmov
  go_wp2_with fail
  refine (zz_any w3 w.heap.size n n zs off r T hn hoff.out (by omega) hi3.doc hby.out (Nat.le_refl _) HREST HLEN).mono ?_
  rintro e w4 ⟨hres, hb4⟩
  have hbe : Below w.heap.size w w4 := hb3.trans (hb4.mono (by omega))
  have hs3 : sb < w3.heap.size := by omega
  have f10 := (hb4.cell (p := ⟨sb, 10, none⟩) hs3).trans hi3.f10
  have f11 := (hb4.cell (p := ⟨sb, 11, none⟩) hs3).trans hi3.f11
  have f12 := (hb4.cell (p := ⟨sb, 12, none⟩) hs3).trans hi3.f12
  have f13 := (hb4.cell (p := ⟨sb, 13, none⟩) hs3).trans hi3.f13
  rcases hres with ⟨hr, rfl⟩ | ⟨ms, v8, v9, vA, vB, vC, hr, rfl, hok, hle, hown⟩
  · subst hr
    simp only [rFound, rS, rE, rN, Option.isSome_none] at f10 f11 f12 f13
    clear hi3 HREST HLEN
    go_wp2
    go_ret
    exact ⟨rfl, hbe⟩
  subst hr
  simp only [rFound, rS, rE, rN, Option.isSome_some] at f10 f11 f12 f13
  have HOK : Hid (∀ l ∈ ms.path, LvOK n l) := hok
  have hdoc : Hid (DocAt w4 w.heap.size n zs) := fun i hi => (hb4.cell (p := ⟨w.heap.size, i, none⟩) (by show w.heap.size < _; omega)).trans (hi3.doc i hi)
  clear hok HREST HLEN
  obtain ⟨v5, v6, v7, v8', v9', v14, v15, v16, v17, v18, hraw⟩ := hi3
  have f14 := (hb4.cell (p := ⟨sb, 14, none⟩) hs3).trans (hraw.st.cell 14 rfl)
  have f15 := (hb4.cell (p := ⟨sb, 15, none⟩) hs3).trans (hraw.st.cell 15 rfl)
  have f16 := (hb4.cell (p := ⟨sb, 16, none⟩) hs3).trans (hraw.st.cell 16 rfl)
  have f17 := (hb4.cell (p := ⟨sb, 17, none⟩) hs3).trans (hraw.st.cell 17 rfl)
  have f18 := (hb4.cell (p := ⟨sb, 18, none⟩) hs3).trans (hraw.st.cell 18 rfl)
  have O14 : Hid (w3.ownsRow w2.heap.size 4 1 v14 ms.path.length (oL ms.path)) := by have := Own.mid (pre := [_, _, _, _, _]) hraw.own; simpa [Hid, rP] using this
  have O15 : Hid (w3.ownsRow w2.heap.size 3 1 v15 ms.path.length (sL ms.path)) := by have := Own.mid (pre := [_, _, _, _, _, _]) hraw.own; simpa [Hid, rP] using this
  have O16 : Hid (w3.ownsRow w2.heap.size 3 1 v16 ms.path.length (bL ms.path)) := by have := Own.mid (pre := [_, _, _, _, _, _, _]) hraw.own; simpa [Hid, rP] using this
  have O17 : Hid (w3.ownsRow w2.heap.size 3 1 v17 ms.path.length (eL ms.path)) := by have := Own.mid (pre := [_, _, _, _, _, _, _, _]) hraw.own; simpa [Hid, rP] using this
  have O18 : Hid (w3.ownsRow w2.heap.size 3 1 v18 ms.path.length (xL ms.path)) := by have := Own.mid (pre := [_, _, _, _, _, _, _, _, _]) hraw.own; simpa [Hid, rP] using this
  have O8 : Hid (w4.ownsRow w3.heap.size 4 1 v8 ms.path.length (oL ms.path)) := by have := Own.mid (pre := []) hown; simpa [Hid] using this
  have O9 : Hid (w4.ownsRow w3.heap.size 3 1 v9 ms.path.length (sL ms.path)) := by have := Own.mid (pre := [_]) hown; simpa [Hid] using this
  have OA : Hid (w4.ownsRow w3.heap.size 4 1 vA ms.path.length (fL ms.path)) := by have := Own.mid (pre := [_, _]) hown; simpa [Hid, fL] using this
  have OB : Hid (w4.ownsRow w3.heap.size 22 1 vB ms.path.length (nL w.heap.size n ms.path)) := by have := Own.mid (pre := [_, _, _]) hown; simpa [Hid, nL] using this
  have OC : Hid (w4.ownsRow w3.heap.size 3 1 vC ms.path.length (xL ms.path)) := by have := Own.mid (pre := [_, _, _, _]) hown; simpa [Hid] using this
  clear hraw hown
  obtain ⟨a14, c14, rfl, _⟩ := ownsRow_shape O14.out
  obtain ⟨a15, c15, rfl, _⟩ := ownsRow_shape O15.out
  obtain ⟨a16, c16, rfl, _⟩ := ownsRow_shape O16.out
  obtain ⟨a17, c17, rfl, _⟩ := ownsRow_shape O17.out
  obtain ⟨a18, c18, rfl, _⟩ := ownsRow_shape O18.out
  obtain ⟨a8, c8, rfl, _⟩ := ownsRow_shape O8.out
  obtain ⟨a9, c9, rfl, _⟩ := ownsRow_shape O9.out
  obtain ⟨aA, cA, rfl, _⟩ := ownsRow_shape OA.out
  obtain ⟨aB, cB, rfl, _⟩ := ownsRow_shape OB.out
  obtain ⟨aC, cC, rfl, _⟩ := ownsRow_shape OC.out
  generalize hN : ms.path.length = N at *
  have HN : Hid (ms.path.length = N) := hN
  have HB4 : Hid (Below w3.heap.size w3 w4) := hb4
  clear hN hb4
  have hbn : decide ((1048576 : Int) < (n : Int)) = false := by simp; omega
  simp only [hbn]
  clear hbn
  go_wp2_with fail
  go_loopw [16] (fun i wr => ∃ k d : Nat, i = .int .i64 k ∧ k ≤ N ∧ wr = w4.drewN d) (fun i _ => N - (intOf i).toNat)
  case atStart => exact ⟨0, 0, rfl, Nat.zero_le _, rfl⟩
  case round =>
    obtain ⟨k, d, rfl, hk, rfl⟩ := hrel
    by_cases hlt : k < N
    · obtain ⟨l, hl⟩ : ∃ l, ms.path.reverse[k]? = some l := ⟨_, List.getElem?_eq_getElem (by have := HN.out; simp; omega)⟩
      have hlok := HOK.out l (by have := List.mem_of_getElem? hl; simpa using this)
      obtain ⟨g14, rfl, hc14, p14, q14⟩ := rowAt (k := k) (x := .bool l.obj) O14.out (by unfold oL; rw [List.getElem?_map, hl]; rfl)
      obtain ⟨g15, rfl, hc15, p15, q15⟩ := rowAt (k := k) (x := .int .i64 l.st) O15.out (by unfold sL; rw [List.getElem?_map, hl]; rfl)
      obtain ⟨g16, rfl, hc16, p16, q16⟩ := rowAt (k := k) (x := .int .i64 l.ns) O16.out (by unfold bL; rw [List.getElem?_map, hl]; rfl)
      obtain ⟨g17, rfl, hc17, p17, q17⟩ := rowAt (k := k) (x := .int .i64 l.ne) O17.out (by unfold eL; rw [List.getElem?_map, hl]; rfl)
      obtain ⟨g18, rfl, hc18, p18, q18⟩ := rowAt (k := k) (x := .int .i64 l.ix) O18.out (by unfold xL; rw [List.getElem?_map, hl]; rfl)
      obtain ⟨g8, rfl, hc8, p8, _⟩ := rowAt (k := k) (x := .bool l.obj) O8.out (by unfold oL; rw [List.getElem?_map, hl]; rfl)
      obtain ⟨g9, rfl, hc9, p9, _⟩ := rowAt (k := k) (x := .int .i64 l.st) O9.out (by unfold sL; rw [List.getElem?_map, hl]; rfl)
      obtain ⟨gA, rfl, hcA, pA, _⟩ := rowAt (k := k) (x := .bool false) OA.out (by unfold fL; rw [List.getElem?_map, hl]; rfl)
      obtain ⟨gB, rfl, hcB, pB, _⟩ := rowAt (k := k) (x := nmV w.heap.size n l) OB.out (by unfold nL; rw [List.getElem?_map, hl]; rfl)
      obtain ⟨gC, rfl, hcC, pC, _⟩ := rowAt (k := k) (x := .int .i64 l.ix) OC.out (by unfold xL; rw [List.getElem?_map, hl]; rfl)
      have p14 := (HB4.out.cell (p := ⟨g14, k, none⟩) q14).trans p14
      have p15 := (HB4.out.cell (p := ⟨g15, k, none⟩) q15).trans p15
      have p16 := (HB4.out.cell (p := ⟨g16, k, none⟩) q16).trans p16
      have p17 := (HB4.out.cell (p := ⟨g17, k, none⟩) q17).trans p17
      have p18 := (HB4.out.cell (p := ⟨g18, k, none⟩) q18).trans p18
      clear hl q14 q15 q16 q17 q18 O14 O15 O16 O17 O18 O8 O9 OA OB OC HOK HN HB4
      obtain ⟨lo, lst, lns, lne, lix⟩ := l
      dsimp only at p14 p15 p16 p17 p18 p8 p9 pC
      rcases hlok with h1 | ⟨h1, h2, h3⟩
      · obtain rfl : lns = -1 := h1
        have pB : w4.cell? ⟨gB, k, none⟩ = some (.slice none 0 0) := pB
        have qn := fun (w : World) => run_neq_slice_nil_any (P := Try.prog) w 22 5 none 0 0 0 0 Try.underlying22
        cases lo
        · go_wp2_with fail
          go_quiet (fail)
          go_wp2
          exact ⟨⟨k + 1, _, by go_num, by omega, rfl⟩, by simp [intOf]; omega⟩
        · go_wp2_with fail
          go_quiet (fail)
          go_wp2
          exact ⟨⟨k + 1, _, by go_num, by omega, rfl⟩, by simp [intOf]; omega⟩
      · dsimp only at h1 h2 h3
        obtain ⟨a, rfl⟩ : ∃ a : Nat, lns = a := ⟨lns.toNat, by omega⟩
        obtain ⟨e, rfl⟩ : ∃ e : Nat, lne = e := ⟨lne.toNat, by omega⟩
        have pB : w4.cell? ⟨gB, k, none⟩ = some (.slice (some ⟨w.heap.size, a, none⟩) (e - a) (n - a)) := by
          rw [pB]; unfold nmV
          rw [if_neg (by simp)]
          simp only [Int.toNat_natCast, Option.some.injEq, Value.slice.injEq, true_and, and_true]
          omega
        have hae : a ≤ e := by omega
        have hna : ¬ n = a := by omega
        have hen : e ≤ n := by omega
        have hsame : ∀ D x, Calls Try.prog 11 #[.slice (some ⟨w.heap.size, a, none⟩) (e - a) (n - a), .slice (some ⟨w.heap.size, a, none⟩) (e - a) (n - a)] (w4.drewN (D + x)) fun e w' => e = .returned (.bool true) ∧ ∃ q, w' = w4.drewN (D + q) := by
          intro D x
          refine (same_any (w4.drewN (D + x)) w.heap.size a (e - a) (n - a) (n - a) (by omega) (fun i hi => ⟨_, hdoc.out (a + i) (by omega)⟩)).mono ?_
          rintro e w' ⟨he, q, hw⟩
          exact ⟨he, x + q, by rw [hw, World.drewN_drewN, Nat.add_assoc]⟩
        clear h1 h2 h3
        cases lo
        · go_wp2_with fail
          go_quiet (fail)
          go_wp2_with fail
          go_quiet ((go_at_call 11; exact hsame _ _))
          go_wp2
          exact ⟨⟨k + 1, _, by go_num, by omega, rfl⟩, by simp [intOf]; omega⟩
        · go_wp2_with fail
          go_quiet (fail)
          go_wp2_with fail
          go_quiet ((go_at_call 11; exact hsame _ _))
          go_wp2
          exact ⟨⟨k + 1, _, by go_num, by omega, rfl⟩, by simp [intOf]; omega⟩
    · obtain rfl : k = N := by omega
      clear O14 O15 O16 O17 O18 O8 O9 OA OB OC
      go_wp2
      go_ret
      exact ⟨rfl, below_drewN hbe _⟩
end Go.Proofs.Qxb6603798a
