/-
  THE MODEL's STATE on the heap, and the WALKS of jsNote (18), jsPop (25).
-/
import Derived.Test.Qxb6603798aHeap
import Derived.RegionTactic
import Derived.BigRegion
namespace Go.Proofs.Qxb6603798a
open Go.RowKit
set_option linter.unusedVariables false
set_option linter.unusedSimpArgs false

/-- The model's state: its stack, TOP FIRST, and what it has recorded. -/
structure St where
  stk : List Js.Lv
  rc : Option Js.Ms

def oL (l : List Js.Lv) : List Value := l.reverse.map fun v => .bool v.obj
def sL (l : List Js.Lv) : List Value := l.reverse.map fun v => .int .i64 v.st
def bL (l : List Js.Lv) : List Value := l.reverse.map fun v => .int .i64 v.ns
def eL (l : List Js.Lv) : List Value := l.reverse.map fun v => .int .i64 v.ne
def xL (l : List Js.Lv) : List Value := l.reverse.map fun v => .int .i64 v.ix
theorem oL_cons (v : Js.Lv) (l : List Js.Lv) : oL (v :: l) = oL l ++ [.bool v.obj] := by simp [oL]
theorem sL_cons (v : Js.Lv) (l : List Js.Lv) : sL (v :: l) = sL l ++ [.int .i64 v.st] := by simp [sL]
theorem bL_cons (v : Js.Lv) (l : List Js.Lv) : bL (v :: l) = bL l ++ [.int .i64 v.ns] := by simp [bL]
theorem eL_cons (v : Js.Lv) (l : List Js.Lv) : eL (v :: l) = eL l ++ [.int .i64 v.ne] := by simp [eL]
theorem xL_cons (v : Js.Lv) (l : List Js.Lv) : xL (v :: l) = xL l ++ [.int .i64 v.ix] := by simp [xL]
@[simp] theorem oL_len (l : List Js.Lv) : (oL l).length = l.length := by simp [oL]
@[simp] theorem sL_len (l : List Js.Lv) : (sL l).length = l.length := by simp [sL]
@[simp] theorem bL_len (l : List Js.Lv) : (bL l).length = l.length := by simp [bL]
@[simp] theorem eL_len (l : List Js.Lv) : (eL l).length = l.length := by simp [eL]
@[simp] theorem xL_len (l : List Js.Lv) : (xL l).length = l.length := by simp [xL]

def rFound (r : Option Js.Ms) : Bool := r.isSome
def rS (r : Option Js.Ms) : Int := match r with | none => 0 | some m => m.start
def rE (r : Option Js.Ms) : Int := match r with | none => 0 | some m => m.en
def rN (r : Option Js.Ms) : Bool := match r with | none => false | some m => m.name
def rP (r : Option Js.Ms) : List Js.Lv := match r with | none => [] | some m => m.path

/-- The struct's fields. -/
def fsOf (dv : Value) (off : Int) (v5 v6 v7 v8 v9 : Value) (b10 : Bool) (i11 i12 : Int) (b13 : Bool) (v14 v15 v16 v17 v18 : Value) : List Value :=
  [dv, .int .i64 (-1), .int .i64 (-1), .bool true, .int .i64 off, v5, v6, v7, v8, v9, .bool b10, .int .i64 i11, .int .i64 i12, .bool b13, v14, v15, v16, v17, v18]
/-- The rows: the five stacks and the five copies. -/
def rowsOf (v5 v6 v7 v8 v9 : Value) (l5 l6 l7 l8 l9 : List Value) (v14 v15 v16 v17 v18 : Value) (l14 l15 l16 l17 l18 : List Value) : List Row :=
  [(v5, 4, l5), (v6, 3, l6), (v7, 3, l7), (v8, 3, l8), (v9, 3, l9), (v14, 4, l14), (v15, 3, l15), (v16, 3, l16), (v17, 3, l17), (v18, 3, l18)]

def Inv (w : World) (sb B db n cap : Nat) (zs : List Int) (off : Int) (S : St) : Prop :=
  ∃ v5 v6 v7 v8 v9 v14 v15 v16 v17 v18, Raw w sb B db n zs (fsOf (.slice (some ⟨db, 0, none⟩) n cap) off v5 v6 v7 v8 v9 (rFound S.rc) (rS S.rc) (rE S.rc) (rN S.rc) v14 v15 v16 v17 v18)
    (rowsOf v5 v6 v7 v8 v9 (oL S.stk) (sL S.stk) (bL S.stk) (eL S.stk) (xL S.stk) v14 v15 v16 v17 v18 (oL (rP S.rc)) (sL (rP S.rc)) (bL (rP S.rc)) (eL (rP S.rc)) (xL (rP S.rc)))

theorem note_any (w : World) (sb : Nat) (a b : Int) (ha : 0 ≤ a) (hc : w.cell? ⟨sb, 1, none⟩ = some (.int .i64 (-1))) :
    Calls Try.prog 18 #[.pointer (some ⟨sb, 0, none⟩), .int .i64 a, .int .i64 b] w fun e w' => e = .returned (.tuple #[]) ∧ w' = w := by
  have he : (a == -1) = false := beq_eq_false_iff_ne.2 (by omega)
  go_enter Try.func18, Try.ntmps18
  go_wp2
  go_end0
  exact ⟨rfl, rfl⟩

set_option maxRecDepth 100000 in
set_option maxHeartbeats 1000000 in
theorem pop_any (w : World) (sb B db n cap : Nat) (zs : List Int) (off : Int) (l : Js.Lv) (stk : List Js.Lv) (rc : Option Js.Ms) (hl : stk.length ≤ 1048576) (hinv : Inv w sb B db n cap zs off ⟨l :: stk, rc⟩) :
    Calls Try.prog 25 #[.pointer (some ⟨sb, 0, none⟩)] w fun e w' => e = .returned (.tuple #[]) ∧ Inv w' sb B db n cap zs off ⟨stk, rc⟩ ∧ Mov B sb w w' := by
  obtain ⟨v5, v6, v7, v8, v9, v14, v15, v16, v17, v18, hraw⟩ := hinv
  simp only [oL_cons, sL_cons, bL_cons, eL_cons, xL_cons] at hraw
  unfold rowsOf at hraw
  obtain ⟨a5, c5, rfl, k5⟩ := Raw.shape (pre := []) hraw
  obtain ⟨a6, c6, rfl, k6⟩ := Raw.shape (pre := [_]) hraw
  obtain ⟨a7, c7, rfl, k7⟩ := Raw.shape (pre := [_, _]) hraw
  obtain ⟨a8, c8, rfl, k8⟩ := Raw.shape (pre := [_, _, _]) hraw
  obtain ⟨a9, c9, rfl, k9⟩ := Raw.shape (pre := [_, _, _, _]) hraw
  simp only [List.length_append, List.length_singleton, oL_len, sL_len, bL_len, eL_len, xL_len] at *
  obtain ⟨g5, rfl, q5⟩ := k5 (by omega)
  obtain ⟨g6, rfl, q6⟩ := k6 (by omega)
  obtain ⟨g7, rfl, q7⟩ := k7 (by omega)
  obtain ⟨g8, rfl, q8⟩ := k8 (by omega)
  obtain ⟨g9, rfl, q9⟩ := k9 (by omega)
  clear k5 k6 k7 k8 k9
  have h5 := hraw.st.cell 5 rfl
  have h6 := hraw.st.cell 6 rfl
  have h7 := hraw.st.cell 7 rfl
  have h8 := hraw.st.cell 8 rfl
  have h9 := hraw.st.cell 9 rfl
  have f := hraw.st.free
  generalize hm : stk.length = m at *
  have HM : Hid (stk.length = m) := hm
  clear hm
  go_enter Try.func25, Try.ntmps25
  go_wp2
  go_end0
  have hm := HM.out
  have r1 := Raw.pop (pre := []) hraw (by simp [hm]) 5
  have r2 := Raw.pop (pre := [_]) r1 (by simp [hm]) 6
  have r3 := Raw.pop (pre := [_, _]) r2 (by simp [hm]) 7
  have r4 := Raw.pop (pre := [_, _, _]) r3 (by simp [hm]) 8
  have r5 := Raw.pop (pre := [_, _, _, _]) r4 (by simp [hm]) 9
  exact ⟨rfl, ⟨_, _, _, _, _, _, _, _, _, _, r5⟩, ((((Mov.field _ _ _).trans (Mov.field _ _ _)).trans (Mov.field _ _ _)).trans (Mov.field _ _ _)).trans (Mov.field _ _ _)⟩

/-! ### jsRecord -/
theorem info4 : (Try.prog.info? 4).map (fun i => (i.zero, i.size, i.bytes)) = some (some (.bool false), 1, 1) := by kernel_rfl
theorem info3 : (Try.prog.info? 3).map (fun i => (i.zero, i.size, i.bytes)) = some (some (.int .i64 0), 1, 8) := by kernel_rfl

/-- A copy, k elements done. -/
def fill (xs : List Value) (z : Value) (k : Nat) : List Value := xs.take k ++ List.replicate (xs.length - k) z
theorem fill_len (xs : List Value) (z : Value) (k : Nat) (h : k ≤ xs.length) : (fill xs z k).length = xs.length := by simp [fill]; omega
theorem fill_zero (xs : List Value) (z : Value) : fill xs z 0 = List.replicate xs.length z := by simp [fill]
theorem fill_all (xs : List Value) (z : Value) (k : Nat) (h : xs.length ≤ k) : fill xs z k = xs := by
  simp [fill, List.take_of_length_le h, Nat.sub_eq_zero_of_le h]
theorem fill_get (xs : List Value) (z : Value) (k : Nat) (h : k < xs.length) : (fill xs z k)[k]? = some z := by
  unfold fill
  rw [List.getElem?_append_right (by simp; omega), List.length_take, Nat.min_eq_left (by omega), Nat.sub_self, List.getElem?_replicate, if_pos (by omega)]
theorem fill_set (xs : List Value) (z x : Value) (k : Nat) (h : xs[k]? = some x) : (fill xs z k).set k x = fill xs z (k + 1) := by
  have hk : k < xs.length := (List.getElem?_eq_some_iff.1 h).1
  unfold fill
  rw [List.set_append_right _ _ (by simp; omega)]
  rw [List.take_succ_eq_append_getElem hk, show xs.length - k = (xs.length - (k + 1)) + 1 by omega, List.replicate_succ]
  have hx : xs[k] = x := by rw [List.getElem?_eq_getElem hk] at h; exact Option.some.inj h
  simp [hx, Nat.min_eq_left (Nat.le_of_lt hk)]

theorem oL_get (l : List Js.Lv) (k : Nat) (h : k < l.length) : ∃ b, (oL l)[k]? = some (.bool b) := ⟨_, by unfold oL; rw [List.getElem?_map, List.getElem?_eq_getElem (by simpa using h)]; rfl⟩
theorem sL_get (l : List Js.Lv) (k : Nat) (h : k < l.length) : ∃ b, (sL l)[k]? = some (.int .i64 b) := ⟨_, by unfold sL; rw [List.getElem?_map, List.getElem?_eq_getElem (by simpa using h)]; rfl⟩
theorem bL_get (l : List Js.Lv) (k : Nat) (h : k < l.length) : ∃ b, (bL l)[k]? = some (.int .i64 b) := ⟨_, by unfold bL; rw [List.getElem?_map, List.getElem?_eq_getElem (by simpa using h)]; rfl⟩
theorem eL_get (l : List Js.Lv) (k : Nat) (h : k < l.length) : ∃ b, (eL l)[k]? = some (.int .i64 b) := ⟨_, by unfold eL; rw [List.getElem?_map, List.getElem?_eq_getElem (by simpa using h)]; rfl⟩
theorem xL_get (l : List Js.Lv) (k : Nat) (h : k < l.length) : ∃ b, (xL l)[k]? = some (.int .i64 b) := ⟨_, by unfold xL; rw [List.getElem?_map, List.getElem?_eq_getElem (by simpa using h)]; rfl⟩

set_option maxRecDepth 100000 in
set_option maxHeartbeats 2000000 in
theorem record_any (w : World) (sb B db n cap : Nat) (zs : List Int) (off : Int) (stk : List Js.Lv) (a b : Int) (nm : Bool) (hl : stk.length ≤ 1048576) (hinv : Inv w sb B db n cap zs off ⟨stk, none⟩) :
    Calls Try.prog 16 #[.pointer (some ⟨sb, 0, none⟩), .int .i64 a, .int .i64 b, .bool nm] w fun e w' => e = .returned (.tuple #[]) ∧ Inv w' sb B db n cap zs off ⟨stk, some ⟨a, b, nm, stk⟩⟩ ∧ Mov B sb w w' := by
  obtain ⟨v5, v6, v7, v8, v9, v14, v15, v16, v17, v18, hraw⟩ := hinv
  unfold rowsOf at hraw
  obtain ⟨a5, c5, rfl, k5⟩ := Raw.shape (pre := []) hraw
  obtain ⟨a6, c6, rfl, k6⟩ := Raw.shape (pre := [_]) hraw
  obtain ⟨a7, c7, rfl, k7⟩ := Raw.shape (pre := [_, _]) hraw
  obtain ⟨a8, c8, rfl, k8⟩ := Raw.shape (pre := [_, _, _]) hraw
  obtain ⟨a9, c9, rfl, k9⟩ := Raw.shape (pre := [_, _, _, _]) hraw
  simp only [oL_len, sL_len, bL_len, eL_len, xL_len] at *
  generalize hm : stk.length = m at *
  have HM : Hid (stk.length = m) := hm
  clear hm
  have mk4 := fun (w : World) => run_make_row' (P := Try.prog) 25 4 (.bool false) 1 Try.underlying25 info4 rfl .i64 .i64 m (by omega) (by omega) w
  have mk3 := fun (w : World) => run_make_row' (P := Try.prog) 26 3 (.int .i64 0) 8 Try.underlying26 info3 rfl .i64 .i64 m (by omega) (by omega) w
  have hmax : m ≤ maxLen := by unfold maxLen; omega
  have H5 : Hid (0 < m → ∃ g, a5 = some ⟨g, 0, none⟩ ∧ m ≤ c5) := k5
  have H6 : Hid (0 < m → ∃ g, a6 = some ⟨g, 0, none⟩ ∧ m ≤ c6) := k6
  have H7 : Hid (0 < m → ∃ g, a7 = some ⟨g, 0, none⟩ ∧ m ≤ c7) := k7
  have H8 : Hid (0 < m → ∃ g, a8 = some ⟨g, 0, none⟩ ∧ m ≤ c8) := k8
  have H9 : Hid (0 < m → ∃ g, a9 = some ⟨g, 0, none⟩ ∧ m ≤ c9) := k9
  clear k5 k6 k7 k8 k9
  have h5 := hraw.st.cell 5 rfl
  have h10 := hraw.st.cell 10 rfl
  have h11 := hraw.st.cell 11 rfl
  have h12 := hraw.st.cell 12 rfl
  have h13 := hraw.st.cell 13 rfl
  have f := hraw.st.free
  go_enter Try.func16, Try.ntmps16
  go_upto_region 5 with fail
  have r1 := (((hraw.field 10 (.bool true)).field 11 (.int .i64 a)).field 12 (.int .i64 b)).field 13 (.bool nm)
  have m1 : Mov B sb w _ := ((((Mov.field w 10 (.bool true)).trans (Mov.field _ 11 (.int .i64 a))).trans (Mov.field _ 12 (.int .i64 b))).trans (Mov.field _ 13 (.bool nm)))
  generalize (((w.setCell ⟨sb, 10, none⟩ (.bool true)).setCell ⟨sb, 11, none⟩ (.int .i64 a)).setCell ⟨sb, 12, none⟩ (.int .i64 b)).setCell ⟨sb, 13, none⟩ (.bool nm) = wa at *
  clear h5 h10 h11 h12 h13 f hraw
  have hc14 := r1.st.cell 14 rfl
  have f14 := r1.st.free
  have hlt14 := r1.st.lt
  go_upto_region 6 with fail
  have r2 := (Raw.make (pre := [_, _, _, _, _]) r1 (.bool false) m hmax 14).1
  have m2 := m1.trans (Raw.make (pre := [_, _, _, _, _]) r1 (.bool false) m hmax 14).2
  generalize (wa.setCell ⟨sb, 14, none⟩ (.slice (some ⟨wa.heap.size, 0, none⟩) m m)).alloc (.cells (madeCells #[.bool false] m) 4) = wb at *
  generalize wa.heap.size = g14 at *
  clear hc14 f14 hlt14 r1 m1
  have hc15 := r2.st.cell 15 rfl
  have f15 := r2.st.free
  have hlt15 := r2.st.lt
  go_upto_region 7 with fail
  have r3 := (Raw.make (pre := [_, _, _, _, _, _]) r2 (.int .i64 0) m hmax 15).1
  have m3 := m2.trans (Raw.make (pre := [_, _, _, _, _, _]) r2 (.int .i64 0) m hmax 15).2
  generalize (wb.setCell ⟨sb, 15, none⟩ (.slice (some ⟨wb.heap.size, 0, none⟩) m m)).alloc (.cells (madeCells #[.int .i64 0] m) 3) = wd at *
  generalize wb.heap.size = g15 at *
  clear hc15 f15 hlt15 r2 m2
  have hc16 := r3.st.cell 16 rfl
  have f16 := r3.st.free
  have hlt16 := r3.st.lt
  go_upto_region 8 with fail
  have r4 := (Raw.make (pre := [_, _, _, _, _, _, _]) r3 (.int .i64 0) m hmax 16).1
  have m4 := m3.trans (Raw.make (pre := [_, _, _, _, _, _, _]) r3 (.int .i64 0) m hmax 16).2
  generalize (wd.setCell ⟨sb, 16, none⟩ (.slice (some ⟨wd.heap.size, 0, none⟩) m m)).alloc (.cells (madeCells #[.int .i64 0] m) 3) = we at *
  generalize wd.heap.size = g16 at *
  clear hc16 f16 hlt16 r3 m3
  have hc17 := r4.st.cell 17 rfl
  have f17 := r4.st.free
  have hlt17 := r4.st.lt
  go_upto_region 9 with fail
  have r5 := (Raw.make (pre := [_, _, _, _, _, _, _, _]) r4 (.int .i64 0) m hmax 17).1
  have m5 := m4.trans (Raw.make (pre := [_, _, _, _, _, _, _, _]) r4 (.int .i64 0) m hmax 17).2
  generalize (we.setCell ⟨sb, 17, none⟩ (.slice (some ⟨we.heap.size, 0, none⟩) m m)).alloc (.cells (madeCells #[.int .i64 0] m) 3) = wf at *
  generalize we.heap.size = g17 at *
  clear hc17 f17 hlt17 r4 m4
  have hc18 := r5.st.cell 18 rfl
  have f18 := r5.st.free
  have hlt18 := r5.st.lt
  go_wp2_with fail
  have r6 := (Raw.make (pre := [_, _, _, _, _, _, _, _, _]) r5 (.int .i64 0) m hmax 18).1
  have m6 := m5.trans (Raw.make (pre := [_, _, _, _, _, _, _, _, _]) r5 (.int .i64 0) m hmax 18).2
  generalize (wf.setCell ⟨sb, 18, none⟩ (.slice (some ⟨wf.heap.size, 0, none⟩) m m)).alloc (.cells (madeCells #[.int .i64 0] m) 3) = wg at *
  generalize wf.heap.size = g18 at *
  clear hc18 f18 hlt18 r5 m5
  clear mk3 mk4
  have R0 : Raw wg sb B db n zs (fsOf (.slice (some ⟨db, 0, none⟩) n cap) off (.slice a5 m c5) (.slice a6 m c6) (.slice a7 m c7) (.slice a8 m c8) (.slice a9 m c9) true a b nm (.slice (some ⟨g14, 0, none⟩) m m) (.slice (some ⟨g15, 0, none⟩) m m) (.slice (some ⟨g16, 0, none⟩) m m) (.slice (some ⟨g17, 0, none⟩) m m) (.slice (some ⟨g18, 0, none⟩) m m))
      (rowsOf (.slice a5 m c5) (.slice a6 m c6) (.slice a7 m c7) (.slice a8 m c8) (.slice a9 m c9) (oL stk) (sL stk) (bL stk) (eL stk) (xL stk) (.slice (some ⟨g14, 0, none⟩) m m) (.slice (some ⟨g15, 0, none⟩) m m) (.slice (some ⟨g16, 0, none⟩) m m) (.slice (some ⟨g17, 0, none⟩) m m) (.slice (some ⟨g18, 0, none⟩) m m) (fill (oL stk) (.bool false) 0) (fill (sL stk) (.int .i64 0) 0) (fill (bL stk) (.int .i64 0) 0) (fill (eL stk) (.int .i64 0) 0) (fill (xL stk) (.int .i64 0) 0)) := by
    have hm := HM.out
    simp only [fill_zero, oL_len, sL_len, bL_len, eL_len, xL_len, hm]
    exact r6
  clear r6
  go_loopw [9] (fun i wr => ∃ k : Nat, i = .int .i64 k ∧ k ≤ m ∧ Raw wr sb B db n zs (fsOf (.slice (some ⟨db, 0, none⟩) n cap) off (.slice a5 m c5) (.slice a6 m c6) (.slice a7 m c7) (.slice a8 m c8) (.slice a9 m c9) true a b nm (.slice (some ⟨g14, 0, none⟩) m m) (.slice (some ⟨g15, 0, none⟩) m m) (.slice (some ⟨g16, 0, none⟩) m m) (.slice (some ⟨g17, 0, none⟩) m m) (.slice (some ⟨g18, 0, none⟩) m m))
      (rowsOf (.slice a5 m c5) (.slice a6 m c6) (.slice a7 m c7) (.slice a8 m c8) (.slice a9 m c9) (oL stk) (sL stk) (bL stk) (eL stk) (xL stk) (.slice (some ⟨g14, 0, none⟩) m m) (.slice (some ⟨g15, 0, none⟩) m m) (.slice (some ⟨g16, 0, none⟩) m m) (.slice (some ⟨g17, 0, none⟩) m m) (.slice (some ⟨g18, 0, none⟩) m m) (fill (oL stk) (.bool false) k) (fill (sL stk) (.int .i64 0) k) (fill (bL stk) (.int .i64 0) k) (fill (eL stk) (.int .i64 0) k) (fill (xL stk) (.int .i64 0) k)) ∧ Mov B sb w wr) (fun i _ => m - (intOf i).toNat)
  case atStart => exact ⟨0, rfl, Nat.zero_le _, R0, m6⟩
  case round =>
    obtain ⟨k, rfl, hk, rr, hmv⟩ := hrel
    clear R0 m6
    by_cases hlt : k < m
    · obtain ⟨g5, rfl, q5⟩ := H5.out (by omega)
      obtain ⟨g6, rfl, q6⟩ := H6.out (by omega)
      obtain ⟨g7, rfl, q7⟩ := H7.out (by omega)
      obtain ⟨g8, rfl, q8⟩ := H8.out (by omega)
      obtain ⟨g9, rfl, q9⟩ := H9.out (by omega)
      clear H5 H6 H7 H8 H9
      have hki : (k : Int) < (m : Int) := by omega
      go_wp2_with fail
      obtain ⟨e5, he5⟩ := oL_get stk k (by have := HM.out; omega)
      have hs5 := (Raw.putCell (pre := []) rr (by have := HM.out; simpa using this) k he5).1
      obtain ⟨hd14, hf14⟩ := Raw.putCell (pre := [_, _, _, _, _]) rr (by have := HM.out; rw [fill_len _ _ _ (by simp; omega)]; simpa using this) k (fill_get _ _ k (by have := HM.out; simp; omega))
      have s5 := rr.st.cell 5 rfl
      have s14 := rr.st.cell 14 rfl
      go_region
      have q1 := (Raw.put (pre := [_, _, _, _, _]) rr (by have := HM.out; rw [fill_len _ _ _ (by simp; omega)]; simpa using this) k (.bool e5)).1.drewN 1
      have mv1 := (hmv.trans (Raw.put (pre := [_, _, _, _, _]) rr (by have := HM.out; rw [fill_len _ _ _ (by simp; omega)]; simpa using this) k (.bool e5)).2).trans (Mov.drewN B sb _ 1)
      rw [fill_set _ _ _ k he5] at q1
      clear rr hmv
      have rr := q1
      have hmv := mv1
      clear q1 mv1 he5 hs5 hd14 hf14 s5 s14
      rw [show (wr.setCell ⟨g14, k, none⟩ (.bool e5)).drew = (wr.setCell ⟨g14, k, none⟩ (.bool e5)).drewN 1 from rfl]
      generalize (wr.setCell ⟨g14, k, none⟩ (.bool e5)).drewN 1 = w1 at *
      obtain ⟨e6, he6⟩ := sL_get stk k (by have := HM.out; omega)
      have hs6 := (Raw.putCell (pre := [_]) rr (by have := HM.out; simpa using this) k he6).1
      obtain ⟨hd15, hf15⟩ := Raw.putCell (pre := [_, _, _, _, _, _]) rr (by have := HM.out; rw [fill_len _ _ _ (by simp; omega)]; simpa using this) k (fill_get _ _ k (by have := HM.out; simp; omega))
      have s6 := rr.st.cell 6 rfl
      have s15 := rr.st.cell 15 rfl
      go_wp2_with fail
      go_region
      have q1 := (Raw.put (pre := [_, _, _, _, _, _]) rr (by have := HM.out; rw [fill_len _ _ _ (by simp; omega)]; simpa using this) k (.int .i64 e6)).1.drewN 1
      have mv1 := (hmv.trans (Raw.put (pre := [_, _, _, _, _, _]) rr (by have := HM.out; rw [fill_len _ _ _ (by simp; omega)]; simpa using this) k (.int .i64 e6)).2).trans (Mov.drewN B sb _ 1)
      rw [fill_set _ _ _ k he6] at q1
      clear rr hmv
      have rr := q1
      have hmv := mv1
      clear q1 mv1 he6 hs6 hd15 hf15 s6 s15
      rw [show (w1.setCell ⟨g15, k, none⟩ (.int .i64 e6)).drew = (w1.setCell ⟨g15, k, none⟩ (.int .i64 e6)).drewN 1 from rfl]
      generalize (w1.setCell ⟨g15, k, none⟩ (.int .i64 e6)).drewN 1 = w2 at *
      obtain ⟨e7, he7⟩ := bL_get stk k (by have := HM.out; omega)
      have hs7 := (Raw.putCell (pre := [_, _]) rr (by have := HM.out; simpa using this) k he7).1
      obtain ⟨hd16, hf16⟩ := Raw.putCell (pre := [_, _, _, _, _, _, _]) rr (by have := HM.out; rw [fill_len _ _ _ (by simp; omega)]; simpa using this) k (fill_get _ _ k (by have := HM.out; simp; omega))
      have s7 := rr.st.cell 7 rfl
      have s16 := rr.st.cell 16 rfl
      go_wp2_with fail
      go_region
      have q1 := (Raw.put (pre := [_, _, _, _, _, _, _]) rr (by have := HM.out; rw [fill_len _ _ _ (by simp; omega)]; simpa using this) k (.int .i64 e7)).1.drewN 1
      have mv1 := (hmv.trans (Raw.put (pre := [_, _, _, _, _, _, _]) rr (by have := HM.out; rw [fill_len _ _ _ (by simp; omega)]; simpa using this) k (.int .i64 e7)).2).trans (Mov.drewN B sb _ 1)
      rw [fill_set _ _ _ k he7] at q1
      clear rr hmv
      have rr := q1
      have hmv := mv1
      clear q1 mv1 he7 hs7 hd16 hf16 s7 s16
      rw [show (w2.setCell ⟨g16, k, none⟩ (.int .i64 e7)).drew = (w2.setCell ⟨g16, k, none⟩ (.int .i64 e7)).drewN 1 from rfl]
      generalize (w2.setCell ⟨g16, k, none⟩ (.int .i64 e7)).drewN 1 = w3 at *
      obtain ⟨e8, he8⟩ := eL_get stk k (by have := HM.out; omega)
      have hs8 := (Raw.putCell (pre := [_, _, _]) rr (by have := HM.out; simpa using this) k he8).1
      obtain ⟨hd17, hf17⟩ := Raw.putCell (pre := [_, _, _, _, _, _, _, _]) rr (by have := HM.out; rw [fill_len _ _ _ (by simp; omega)]; simpa using this) k (fill_get _ _ k (by have := HM.out; simp; omega))
      have s8 := rr.st.cell 8 rfl
      have s17 := rr.st.cell 17 rfl
      go_wp2_with fail
      go_region
      have q1 := (Raw.put (pre := [_, _, _, _, _, _, _, _]) rr (by have := HM.out; rw [fill_len _ _ _ (by simp; omega)]; simpa using this) k (.int .i64 e8)).1.drewN 1
      have mv1 := (hmv.trans (Raw.put (pre := [_, _, _, _, _, _, _, _]) rr (by have := HM.out; rw [fill_len _ _ _ (by simp; omega)]; simpa using this) k (.int .i64 e8)).2).trans (Mov.drewN B sb _ 1)
      rw [fill_set _ _ _ k he8] at q1
      clear rr hmv
      have rr := q1
      have hmv := mv1
      clear q1 mv1 he8 hs8 hd17 hf17 s8 s17
      rw [show (w3.setCell ⟨g17, k, none⟩ (.int .i64 e8)).drew = (w3.setCell ⟨g17, k, none⟩ (.int .i64 e8)).drewN 1 from rfl]
      generalize (w3.setCell ⟨g17, k, none⟩ (.int .i64 e8)).drewN 1 = w4 at *
      obtain ⟨e9, he9⟩ := xL_get stk k (by have := HM.out; omega)
      have hs9 := (Raw.putCell (pre := [_, _, _, _]) rr (by have := HM.out; simpa using this) k he9).1
      obtain ⟨hd18, hf18⟩ := Raw.putCell (pre := [_, _, _, _, _, _, _, _, _]) rr (by have := HM.out; rw [fill_len _ _ _ (by simp; omega)]; simpa using this) k (fill_get _ _ k (by have := HM.out; simp; omega))
      have s9 := rr.st.cell 9 rfl
      have s18 := rr.st.cell 18 rfl
      go_wp2_with fail
      go_region
      have q1 := (Raw.put (pre := [_, _, _, _, _, _, _, _, _]) rr (by have := HM.out; rw [fill_len _ _ _ (by simp; omega)]; simpa using this) k (.int .i64 e9)).1.drewN 1
      have mv1 := (hmv.trans (Raw.put (pre := [_, _, _, _, _, _, _, _, _]) rr (by have := HM.out; rw [fill_len _ _ _ (by simp; omega)]; simpa using this) k (.int .i64 e9)).2).trans (Mov.drewN B sb _ 1)
      rw [fill_set _ _ _ k he9] at q1
      clear rr hmv
      have rr := q1
      have hmv := mv1
      clear q1 mv1 he9 hs9 hd18 hf18 s9 s18
      rw [show (w4.setCell ⟨g18, k, none⟩ (.int .i64 e9)).drew = (w4.setCell ⟨g18, k, none⟩ (.int .i64 e9)).drewN 1 from rfl]
      generalize (w4.setCell ⟨g18, k, none⟩ (.int .i64 e9)).drewN 1 = w5 at *
      go_wp2
      go_roundw
      case rel => exact ⟨k + 1, by go_num, by omega, rr, hmv⟩
      case measure => simp [intOf]; omega
    · have hkm : k = m := by omega
      have R1 : Inv wr sb B db n cap zs off ⟨stk, some ⟨a, b, nm, stk⟩⟩ := by
        have hm := HM.out
        rw [fill_all _ _ _ (by simp; omega), fill_all _ _ _ (by simp; omega), fill_all _ _ _ (by simp; omega), fill_all _ _ _ (by simp; omega), fill_all _ _ _ (by simp; omega)] at rr
        exact ⟨_, _, _, _, _, _, _, _, _, _, rr⟩
      clear rr hkm H5 H6 H7 H8 H9
      go_wp2
      go_end0
      exact ⟨rfl, R1, hmv⟩
end Go.Proofs.Qxb6603798a
