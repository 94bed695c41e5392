/-
  THE WALK of ZZLocate (10).
-/
import Derived.Test.Qxb6603798aLocate
import Derived.Test.Qxb6603798aZh
import Derived.BigQuiet
namespace Go.Proofs.Qxb6603798a
open Go.RowKit
set_option linter.unusedVariables false
set_option linter.unusedSimpArgs false

theorem info22 : (Try.prog.info? 22).map (fun i => (i.zero, i.size, i.bytes)) = some (some (.slice none 0 0), 1, 24) := by kernel_rfl
theorem one22 (a : Option Addr) (n c : Nat) : ∀ u ∈ [Value.slice a n c], u.oneCell' = true := by intro u hu; simp at hu; subst hu; rfl
theorem nmV_shape (db cap : Nat) (l : Js.Lv) : ∃ a n c, nmV db cap l = .slice a n c := by
  unfold nmV; split
  · exact ⟨_, _, _, rfl⟩
  · exact ⟨_, _, _, rfl⟩
theorem results_tmp9 {fn : Func} {a b c d e f g h i : Tmp} (hr : fn.results = #[.tmp a, .tmp b, .tmp c, .tmp d, .tmp e, .tmp f, .tmp g, .tmp h, .tmp i]) (tmps : Array Value) (P : Program) (w : World) :
    (results fn tmps).run P w = .ok (.tuple #[tmps.getD a undef, tmps.getD b undef, tmps.getD c undef, tmps.getD d undef, tmps.getD e undef, tmps.getD f undef, tmps.getD g undef, tmps.getD h undef, tmps.getD i undef]) w := by
  simp [results, hr]

theorem below_drewN {B : Nat} {a w : World} (h : Below B a w) (m : Nat) : Below B a (w.drewN m) := ⟨h.os, h.tape, h.output, h.size, h.block⟩
theorem own_drewN {B : Nat} {w : World} {l : List Row} (h : Own w B l) (m : Nat) : Own (w.drewN m) B l := h
theorem own_mono {B B' : Nat} {w : World} {l : List Row} (h : Own w B l) (hb : B' ≤ B) : Own w B' l := ⟨fun r hr => by
  obtain ⟨a, b⟩ := h.1 r hr
  rcases b with b | ⟨g, cap, cur, hv, hg, q⟩
  · exact ⟨a, .inl b⟩
  · exact ⟨a, .inr ⟨g, cap, cur, hv, by omega, q⟩⟩, h.2⟩

def ZRes (w : World) (db n cap : Nat) (R : Option Js.Ms) (e : Ending) (w' : World) : Prop :=
  (R = none ∧ e = .returned (.tuple #[.bool false, .int .i64 0, .int .i64 0, .bool false, .slice none 0 0, .slice none 0 0, .slice none 0 0, .slice none 0 0, .slice none 0 0])) ∨
  (∃ m v8 v9 v10 v11 v12, R = some m ∧ e = .returned (.tuple #[.bool true, .int .i64 m.start, .int .i64 m.en, .bool m.name, v8, v9, v10, v11, v12]) ∧ (∀ l ∈ m.path, LvOK n l) ∧ m.path.length ≤ n ∧
    Own w' w.heap.size [(v8, 4, oL m.path), (v9, 3, sL m.path), (v10, 4, fL m.path), (v11, 22, nL db cap m.path), (v12, 3, xL m.path)])

set_option maxRecDepth 100000 in
set_option maxHeartbeats 4000000 in
theorem zz_any (w : World) (db n cap : Nat) (zs : List Int) (off : Int) (R : Option Js.Ms) (T0 : List Js.Tok) (hn : n ≤ 1048576) (hoff : I64 off) (hdb : db < w.heap.size) (hd : DocAt w db n zs) (hby : By zs n) (hcap : n ≤ cap)
    (HR : Hid (Rest zs n off R ([], false) 0 T0)) (HLEN : Hid (∀ m, R = some m → m.path.length ≤ n)) :
    Calls Try.prog 10 #[.slice (some ⟨db, 0, none⟩) n cap, .int .i64 off] w fun e w' => ZRes w db n cap R e w' ∧ Below w.heap.size w w' := by
  go_enter Try.func10, Try.ntmps10
  go_wp2_with fail
  refine (locate_any w db n cap zs off R T0 hn hoff hdb hd hby hcap HR).mono ?_
  rintro e w1 ⟨hres, hbl⟩
  rcases hres with ⟨hRn, rfl⟩ | ⟨ms, v, hRs, rfl, hown⟩
  · have HRN : Hid (R = none) := hRn
    clear hRn
    have hsz := hbl.size
    go_wp2_with fail
    refine wp_loop_rounds 1 ?_
    rw [rounds_succ]
    go_wp2_with fail
    go_quiet (fail)
    go_wp2
    refine bodyPost_ret (results_tmp9 rfl _ _ _) rfl ?_
    exact ⟨.inl ⟨HRN.out, rfl⟩, below_drewN (hbl.alloc hsz _) _⟩
  · obtain ⟨i4, hi4, hz4, hs4, hb4⟩ := info_parts info4
    obtain ⟨i3, hi3, hz3, hs3, hb3⟩ := info_parts info3
    obtain ⟨i22, hi22, hz22, hs22, hb22⟩ := info_parts info22
    have hsz := hbl.size
    have HRS : Hid (R = some ms) := hRs
    clear hRs
    have hlen := HLEN.out ms HRS.out
    have HOK : Hid (∀ l ∈ ms.path, LvOK n l) := rep_ok T0 ([], false) ms (fun t ht => (HR.out.good t ht).1) (fun l hl => by cases hl) (HR.out.rep.trans HRS.out)
    obtain ⟨av, cv, rfl, hsh⟩ := ownsRow_shape5 hown
    have HSH : Hid (0 < ms.path.length → ∃ g, av = some ⟨g, 0, none⟩ ∧ ms.path.length ≤ cv) := hsh
    clear hsh
    generalize hN : ms.path.length = N at *
    have HN : Hid (ms.path.length = N) := hN
    clear hN
    go_wp2_with fail
    have hown2 := hown.alloc (.cells #[.slice av N cv, .int .i64 ms.start, .int .i64 ms.en, .bool ms.name] 41)
    have hbl2 := hbl.alloc hsz (.cells #[.slice av N cv, .int .i64 ms.start, .int .i64 ms.en, .bool ms.name] 41)
    have hmb : StructAt (w1.alloc (.cells #[.slice av N cv, .int .i64 ms.start, .int .i64 ms.en, .bool ms.name] 41)) w1.heap.size 41 [.slice av N cv, .int .i64 ms.start, .int .i64 ms.en, .bool ms.name] := heap_alloc_new w1 _
    have hmlt := hmb.lt
    generalize w1.alloc (.cells #[.slice av N cv, .int .i64 ms.start, .int .i64 ms.en, .bool ms.name] 41) = w2 at *
    generalize w1.heap.size = mb at *
    clear hown hbl hsz
    have hsz2 := hbl2.size
    have HOWN : Hid (w2.ownsRow (w.heap.size + 1) 45 5 (.slice av N cv) N (lvs db cap ms.path false)) := hown2
    clear hown2 HR HLEN
    go_loopw [8, 9, 10, 11, 12, 26] (fun v8 v9 v10 v11 v12 i wr => ∃ (k : Nat) (L8 L9 LA LB LC : List Value), i = .int .i64 k ∧ k ≤ N ∧ L8.length = k ∧ L9.length = k ∧ LA.length = k ∧ LB.length = k ∧ LC.length = k ∧
        Hid (L8 = (ms.path.reverse.take k).map (fun v => .bool v.obj) ∧ L9 = (ms.path.reverse.take k).map (fun v => .int .i64 v.st) ∧ LA = (ms.path.reverse.take k).map (fun _ => .bool false) ∧ LB = (ms.path.reverse.take k).map (nmV db cap) ∧ LC = (ms.path.reverse.take k).map (fun v => .int .i64 v.ix)) ∧
        ZInv w2 wr [(v8, 4, L8), (v9, 3, L9), (v10, 4, LA), (v11, 22, LB), (v12, 3, LC)]) (fun _ _ _ _ _ i _ => N - (intOf i).toNat)
    case atStart =>
      refine ⟨0, [], [], [], [], [], rfl, Nat.zero_le _, rfl, rfl, rfl, rfl, rfl, ⟨rfl, rfl, rfl, rfl, rfl⟩, Below.refl _ _, ⟨?_, ?_⟩, Nat.le_refl _⟩
      · intro r hr
        simp at hr
        rcases hr with rfl | rfl | rfl | rfl | rfl <;> exact World.ownsRow_nil _ _ _ _
      · have ap : ∀ e1 e2 : TypeId, Apart (.slice none 0 0, e1, []) (.slice none 0 0, e2, []) := fun _ _ k hk => by cases hk
        simp [ap]
    case round =>
      obtain ⟨k, L8, L9, LA, LB, LC, rfl, hk, h8, h9, hA, hB, hC, HL, zi⟩ := hrel
      by_cases hlt : k < N
      · obtain ⟨g, rfl, hgc⟩ := HSH.out (by omega)
        obtain ⟨l, hl⟩ : ∃ l, ms.path.reverse[k]? = some l := ⟨_, List.getElem?_eq_getElem (by have := HN.out; simp; omega)⟩
        have hg := (HOWN.out.lt g rfl).2
        have hc : ∀ i u, i < 5 → (lvC db cap l false)[i]? = some u → wr.cell? ⟨g, k * 5 + i, none⟩ = some u := fun i u hi hu =>
          (zi.below.cell (p := ⟨g, k * 5 + i, none⟩) hg).trans ((HOWN.out.cellAt (k * 5 + i) (by omega)).trans ((lvs_get db cap ms.path k i l hl hi).trans hu))
        obtain ⟨na, nn, nc, hnm⟩ := nmV_shape db cap l
        have c0 : wr.cell? ⟨g, k * 5, none⟩ = some (.bool l.obj) := hc 0 _ (by decide) rfl
        have c1 := hc 1 _ (by decide) rfl
        have c2 := hc 2 _ (by decide) rfl
        have c3 := hc 3 (.slice na nn nc) (by decide) (by simp [lvC, hnm])
        have c4 := hc 4 _ (by decide) rfl
        have HL2 : Hid (L8 ++ [.bool l.obj] = (ms.path.reverse.take (k + 1)).map (fun v => .bool v.obj) ∧ L9 ++ [.int .i64 l.st] = (ms.path.reverse.take (k + 1)).map (fun v => .int .i64 v.st) ∧ LA ++ [.bool false] = (ms.path.reverse.take (k + 1)).map (fun _ => .bool false) ∧ LB ++ [.slice na nn nc] = (ms.path.reverse.take (k + 1)).map (nmV db cap) ∧ LC ++ [.int .i64 l.ix] = (ms.path.reverse.take (k + 1)).map (fun v => .int .i64 v.ix)) := by
          obtain ⟨e8, e9, eA, eB, eC⟩ := HL.out
          rw [e8, e9, eA, eB, eC, ← hnm]
          exact ⟨take_map_succ _ _ _ _ hl, take_map_succ _ _ _ _ hl, take_map_succ (fun _ => Value.bool false) _ _ _ hl, take_map_succ _ _ _ _ hl, take_map_succ _ _ _ _ hl⟩
        clear hc hnm hl HL
        go_upto_region 5 with fail
        have zl := zi.lit [.bool l.obj, .int .i64 l.st, .bool false, .slice na nn nc, .int .i64 l.ix] 45 5 rfl (by decide)
        clear zi c0 c1 c2 c3 c4
        have zi := zl
        clear zl
        simp only [List.cons_append, List.nil_append] at zi
        generalize wr.alloc (.cells #[.bool l.obj, .int .i64 l.st, .bool false, .slice na nn nc, .int .i64 l.ix] 45) = x7 at *
        generalize wr.heap.size = lb at *
        have o8 := Own.mid (pre := []) zi.own
        simp only [h8] at o8
        have ol : x7.ownsRow w2.heap.size 45 1 (.slice (some ⟨lb, 0, none⟩) 5 5) 5 [.bool l.obj, .int .i64 l.st, .bool false, .slice na nn nc, .int .i64 l.ix] := Own.mid (pre := [_, _, _, _, _]) zi.own
        have hcl := (ol.cellAt 0 (by decide)).trans (show _ = some (.bool l.obj) from rfl)
        have hzw := zi.size
        go_upto_region 6 with (at_builtin; refine wpList_append_own_at _ rfl (.tmp 30) (.tmp 33) 25 rfl w2.heap.size 4 i4 (.bool false) 1 1 Try.underlying25 hi4 hz4 hs4 hb4 rfl (by decide) _ _ _ rfl (o8.alloc _) _ 1 1 [.bool l.obj] rfl rfl (cell_one_new _ _ _) (one4 _) (by unfold maxLen; omega) (by omega) (by simp; omega) ?_; intro vv8 x8 hown8 hgrow8 hnil8 hat8; clear hnil8)
        have zi8 := ZInv.app (pre := []) zi (x := .bool l.obj) (by simp only [h8]; exact hown8) hgrow8 hat8
        clear zi o8 ol hown8 hgrow8 hat8 hcl hzw
        have zi := zi8
        clear zi8
        have o9 := Own.mid (pre := [_]) zi.own
        simp only [h9] at o9
        have ol : x8.ownsRow w2.heap.size 45 1 (.slice (some ⟨lb, 0, none⟩) 5 5) 5 [.bool l.obj, .int .i64 l.st, .bool false, .slice na nn nc, .int .i64 l.ix] := Own.mid (pre := [_, _, _, _, _]) zi.own
        have hcl := (ol.cellAt 1 (by decide)).trans (show _ = some (.int .i64 l.st) from rfl)
        have hzw := zi.size
        go_upto_region 7 with (at_builtin; refine wpList_append_own_at _ rfl (.tmp 35) (.tmp 38) 26 rfl w2.heap.size 3 i3 (.int .i64 0) 1 8 Try.underlying26 hi3 hz3 hs3 hb3 rfl (by decide) _ _ _ rfl (o9.alloc _) _ 1 1 [.int .i64 l.st] rfl rfl (cell_one_new _ _ _) (one3 _) (by unfold maxLen; omega) (by omega) (by simp; omega) ?_; intro vv9 x9 hown9 hgrow9 hnil9 hat9; clear hnil9)
        have zi9 := ZInv.app (pre := [_]) zi (x := .int .i64 l.st) (by simp only [h9]; exact hown9) hgrow9 hat9
        clear zi o9 ol hown9 hgrow9 hat9 hcl hzw
        have zi := zi9
        clear zi9
        have oA := Own.mid (pre := [_, _]) zi.own
        simp only [hA] at oA
        have ol : x9.ownsRow w2.heap.size 45 1 (.slice (some ⟨lb, 0, none⟩) 5 5) 5 [.bool l.obj, .int .i64 l.st, .bool false, .slice na nn nc, .int .i64 l.ix] := Own.mid (pre := [_, _, _, _, _]) zi.own
        have hcl := (ol.cellAt 2 (by decide)).trans (show _ = some (.bool false) from rfl)
        have hzw := zi.size
        go_upto_region 8 with (at_builtin; refine wpList_append_own_at _ rfl (.tmp 40) (.tmp 43) 25 rfl w2.heap.size 4 i4 (.bool false) 1 1 Try.underlying25 hi4 hz4 hs4 hb4 rfl (by decide) _ _ _ rfl (oA.alloc _) _ 1 1 [.bool false] rfl rfl (cell_one_new _ _ _) (one4 _) (by unfold maxLen; omega) (by omega) (by simp; omega) ?_; intro vvA xA hownA hgrowA hnilA hatA; clear hnilA)
        have ziA := ZInv.app (pre := [_, _]) zi (x := .bool false) (by simp only [hA]; exact hownA) hgrowA hatA
        clear zi oA ol hownA hgrowA hatA hcl hzw
        have zi := ziA
        clear ziA
        have oB := Own.mid (pre := [_, _, _]) zi.own
        simp only [hB] at oB
        have ol : xA.ownsRow w2.heap.size 45 1 (.slice (some ⟨lb, 0, none⟩) 5 5) 5 [.bool l.obj, .int .i64 l.st, .bool false, .slice na nn nc, .int .i64 l.ix] := Own.mid (pre := [_, _, _, _, _]) zi.own
        have hcl := (ol.cellAt 3 (by decide)).trans (show _ = some (.slice na nn nc) from rfl)
        have hzw := zi.size
        go_upto_region 9 with (at_builtin; refine wpList_append_own_at _ rfl (.tmp 45) (.tmp 48) 33 rfl w2.heap.size 22 i22 (.slice none 0 0) 1 24 Try.underlying33 hi22 hz22 hs22 hb22 rfl (by decide) _ _ _ rfl (oB.alloc _) _ 1 1 [.slice na nn nc] rfl rfl (cell_one_new _ _ _) (one22 _ _ _) (by unfold maxLen; omega) (by omega) (by simp; omega) ?_; intro vvB xB hownB hgrowB hnilB hatB; clear hnilB)
        have ziB := ZInv.app (pre := [_, _, _]) zi (x := .slice na nn nc) (by simp only [hB]; exact hownB) hgrowB hatB
        clear zi oB ol hownB hgrowB hatB hcl hzw
        have zi := ziB
        clear ziB
        have oC := Own.mid (pre := [_, _, _, _]) zi.own
        simp only [hC] at oC
        have ol : xB.ownsRow w2.heap.size 45 1 (.slice (some ⟨lb, 0, none⟩) 5 5) 5 [.bool l.obj, .int .i64 l.st, .bool false, .slice na nn nc, .int .i64 l.ix] := Own.mid (pre := [_, _, _, _, _]) zi.own
        have hcl := (ol.cellAt 4 (by decide)).trans (show _ = some (.int .i64 l.ix) from rfl)
        have hzw := zi.size
        go_upto_region 10 with (at_builtin; refine wpList_append_own_at _ rfl (.tmp 50) (.tmp 53) 26 rfl w2.heap.size 3 i3 (.int .i64 0) 1 8 Try.underlying26 hi3 hz3 hs3 hb3 rfl (by decide) _ _ _ rfl (oC.alloc _) _ 1 1 [.int .i64 l.ix] rfl rfl (cell_one_new _ _ _) (one3 _) (by unfold maxLen; omega) (by omega) (by simp; omega) ?_; intro vvC xC hownC hgrowC hnilC hatC; clear hnilC)
        have ziC := ZInv.app (pre := [_, _, _, _]) zi (x := .int .i64 l.ix) (by simp only [hC]; exact hownC) hgrowC hatC
        clear zi oC ol hownC hgrowC hatC hcl hzw
        have zi := ziC
        clear ziC
        go_wp2
        refine ⟨⟨k + 1, _, _, _, _, _, by go_num, by omega, ?_, ?_, ?_, ?_, ?_, HL2, ZInv.cut (rows := [_, _, _, _, _]) zi⟩, by simp [intOf]; omega⟩ <;> simp [h8, h9, hA, hB, hC]
      · obtain rfl : k = N := by omega
        have r1 := (zi.below.cell (p := ⟨mb, 1, none⟩) hmlt).trans (hmb.cell 1 rfl)
        have r2 := (zi.below.cell (p := ⟨mb, 2, none⟩) hmlt).trans (hmb.cell 2 rfl)
        have r3 := (zi.below.cell (p := ⟨mb, 3, none⟩) hmlt).trans (hmb.cell 3 rfl)
        go_wp2_with fail
        go_quiet (fail)
        go_wp2
        refine bodyPost_ret (results_tmp9 rfl _ _ _) rfl ?_
        refine ⟨.inr ⟨ms, _, _, _, _, _, HRS.out, rfl, HOK.out, by have := HN.out; omega, ?_⟩, below_drewN (hbl2.trans (zi.below.mono hsz2)) _⟩
        obtain ⟨e8, e9, eA, eB, eC⟩ := HL.out
        rw [List.take_of_length_le (by have := HN.out; simp; omega)] at e8 e9 eA eB eC
        subst e8 e9 eA eB eC
        exact own_mono (own_drewN zi.own _) hsz2
end Go.Proofs.Qxb6603798a
