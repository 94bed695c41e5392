/-
  THE WALK of jsContainer (17) over jsValue's contract behind its place.
-/
import Derived.Test.Qxb6603798aValue
namespace Go.Proofs.Qxb6603798a
open Go.RowKit
set_option linter.unusedVariables false
set_option linter.unusedSimpArgs false

theorem set_last {α : Type} (l : List α) (x y : α) (k : Nat) (h : l.length = k) : (l ++ [x]).set k y = l ++ [y] := by
  subst h; rw [List.set_append_right _ _ (Nat.le_refl _)]; simp
theorem get_last {α : Type} (l : List α) (x : α) (k : Nat) (h : l.length = k) : (l ++ [x])[k]? = some x := by
  subst h; simp

section
variable {w : World} {sb B db n cap : Nat} {zs : List Int} {off : Int} {l : Js.Lv} {stk : List Js.Lv} {rc : Option Js.Ms}
theorem Inv.f5 (h : Inv w sb B db n cap zs off ⟨stk, rc⟩) : ∃ a c, w.cell? ⟨sb, 5, none⟩ = some (.slice a stk.length c) := by
  obtain ⟨a1, a2, a3, a4, a5, a6, a7, a8, a9, a10, hr⟩ := h
  obtain ⟨a, c, rfl, _⟩ := Raw.shape (pre := []) hr
  exact ⟨a, c, by have := hr.st.cell 5 rfl; simpa using this⟩
/-- The top's three numbers: where they lie; what a store there makes. -/
theorem Inv.top7 (h : Inv w sb B db n cap zs off ⟨l :: stk, rc⟩) : ∃ g c, w.cell? ⟨sb, 7, none⟩ = some (.slice (some ⟨g, 0, none⟩) (stk.length + 1) c) ∧ w.cell? ⟨g, stk.length, none⟩ = some (.int .i64 l.ns) ∧ w.frozen? ⟨g, stk.length, none⟩ = false ∧
    ∀ v, Inv (w.setCell ⟨g, stk.length, none⟩ (.int .i64 v)) sb B db n cap zs off ⟨⟨l.obj, l.st, v, l.ne, l.ix⟩ :: stk, rc⟩ ∧ Mov B sb w (w.setCell ⟨g, stk.length, none⟩ (.int .i64 v)) := by
  obtain ⟨a1, a2, a3, a4, a5, a6, a7, a8, a9, a10, hr⟩ := h
  simp only [oL_cons, sL_cons, bL_cons, eL_cons, xL_cons] at hr
  unfold rowsOf at hr
  obtain ⟨a, c, rfl, k⟩ := Raw.shape (pre := [_, _]) hr
  simp only [List.length_append, List.length_singleton, bL_len] at hr k
  obtain ⟨g, rfl, hq⟩ := k (by omega)
  have hc := Raw.putCell (pre := [_, _]) hr (by simp) stk.length (get_last _ _ _ (by simp))
  refine ⟨g, c, hr.st.cell 7 rfl, hc.1, hc.2, fun v => ?_⟩
  have hp := Raw.put (pre := [_, _]) hr (by simp) stk.length (.int .i64 v)
  rw [set_last _ _ _ _ (by simp)] at hp
  refine ⟨⟨a1, a2, (.slice (some ⟨g, 0, none⟩) (stk.length + 1) c), a4, a5, a6, a7, a8, a9, a10, ?_⟩, hp.2⟩
  simp only [oL_cons, sL_cons, bL_cons, eL_cons, xL_cons]
  exact hp.1
theorem Inv.top8 (h : Inv w sb B db n cap zs off ⟨l :: stk, rc⟩) : ∃ g c, w.cell? ⟨sb, 8, none⟩ = some (.slice (some ⟨g, 0, none⟩) (stk.length + 1) c) ∧ w.cell? ⟨g, stk.length, none⟩ = some (.int .i64 l.ne) ∧ w.frozen? ⟨g, stk.length, none⟩ = false ∧
    ∀ v, Inv (w.setCell ⟨g, stk.length, none⟩ (.int .i64 v)) sb B db n cap zs off ⟨⟨l.obj, l.st, l.ns, v, l.ix⟩ :: stk, rc⟩ ∧ Mov B sb w (w.setCell ⟨g, stk.length, none⟩ (.int .i64 v)) := by
  obtain ⟨a1, a2, a3, a4, a5, a6, a7, a8, a9, a10, hr⟩ := h
  simp only [oL_cons, sL_cons, bL_cons, eL_cons, xL_cons] at hr
  unfold rowsOf at hr
  obtain ⟨a, c, rfl, k⟩ := Raw.shape (pre := [_, _, _]) hr
  simp only [List.length_append, List.length_singleton, eL_len] at hr k
  obtain ⟨g, rfl, hq⟩ := k (by omega)
  have hc := Raw.putCell (pre := [_, _, _]) hr (by simp) stk.length (get_last _ _ _ (by simp))
  refine ⟨g, c, hr.st.cell 8 rfl, hc.1, hc.2, fun v => ?_⟩
  have hp := Raw.put (pre := [_, _, _]) hr (by simp) stk.length (.int .i64 v)
  rw [set_last _ _ _ _ (by simp)] at hp
  refine ⟨⟨a1, a2, a3, (.slice (some ⟨g, 0, none⟩) (stk.length + 1) c), a5, a6, a7, a8, a9, a10, ?_⟩, hp.2⟩
  simp only [oL_cons, sL_cons, bL_cons, eL_cons, xL_cons]
  exact hp.1
theorem Inv.top9 (h : Inv w sb B db n cap zs off ⟨l :: stk, rc⟩) : ∃ g c, w.cell? ⟨sb, 9, none⟩ = some (.slice (some ⟨g, 0, none⟩) (stk.length + 1) c) ∧ w.cell? ⟨g, stk.length, none⟩ = some (.int .i64 l.ix) ∧ w.frozen? ⟨g, stk.length, none⟩ = false ∧
    ∀ v, Inv (w.setCell ⟨g, stk.length, none⟩ (.int .i64 v)) sb B db n cap zs off ⟨⟨l.obj, l.st, l.ns, l.ne, v⟩ :: stk, rc⟩ ∧ Mov B sb w (w.setCell ⟨g, stk.length, none⟩ (.int .i64 v)) := by
  obtain ⟨a1, a2, a3, a4, a5, a6, a7, a8, a9, a10, hr⟩ := h
  simp only [oL_cons, sL_cons, bL_cons, eL_cons, xL_cons] at hr
  unfold rowsOf at hr
  obtain ⟨a, c, rfl, k⟩ := Raw.shape (pre := [_, _, _, _]) hr
  simp only [List.length_append, List.length_singleton, xL_len] at hr k
  obtain ⟨g, rfl, hq⟩ := k (by omega)
  have hc := Raw.putCell (pre := [_, _, _, _]) hr (by simp) stk.length (get_last _ _ _ (by simp))
  refine ⟨g, c, hr.st.cell 9 rfl, hc.1, hc.2, fun v => ?_⟩
  have hp := Raw.put (pre := [_, _, _, _]) hr (by simp) stk.length (.int .i64 v)
  rw [set_last _ _ _ _ (by simp)] at hp
  refine ⟨⟨a1, a2, a3, a4, (.slice (some ⟨g, 0, none⟩) (stk.length + 1) c), a6, a7, a8, a9, a10, ?_⟩, hp.2⟩
  simp only [oL_cons, sL_cons, bL_cons, eL_cons, xL_cons]
  exact hp.1
end

theorem one4 (b : Bool) : ∀ u ∈ [Value.bool b], u.oneCell' = true := by intro u hu; simp at hu; subst hu; rfl
theorem one3 (c : Int) : ∀ u ∈ [Value.int .i64 c], u.oneCell' = true := by intro u hu; simp at hu; subst hu; rfl

theorem starts_lt {zs : List Int} {n : Nat} {off : Int} {rc r rc' : Option Js.Ms} {p q : Nat} {s s' : List Js.Lv × Bool} (hr : ∀ m, rc = some m → m.start ≤ (p : Int)) (hq : p < q) (hs : Js.SegE zs n off (p + 1) q s s' r) (h : rc' = rc.or r) : ∀ m, rc' = some m → m.start < (q : Int) := by
  intro m hm
  cases rc with
  | some m0 =>
    have : m0 = m := by rw [h, Option.some_or] at hm; exact Option.some.inj hm
    have := hr m (by rw [this])
    omega
  | none =>
    rw [h, Option.none_or] at hm
    obtain ⟨i, h1, h2, h3⟩ := segE_start hs hm
    rw [h1]; omega
theorem dl_of {zs : List Int} {n e q : Nat} (h : Js.Sps zs n e q) (hq : q < n) (hc : Js.ch zs q = 44 ∨ Js.ch zs q = 93 ∨ Js.ch zs q = 125) : Js.Dl zs n e := by
  by_cases he : e < q
  · exact .inr ⟨by omega, .inl (h.2.2.1 e (Nat.le_refl _) he)⟩
  · obtain rfl : e = q := by have := h.1; omega
    exact .inr ⟨hq, .inr hc⟩

set_option maxRecDepth 100000 in
set_option maxHeartbeats 4000000 in
theorem cont_arr (w : World) (sb B db n cap : Nat) (zs : List Int) (off : Int) (stk : List Js.Lv) (rc : Option Js.Ms) (p : Nat) (hn : n ≤ 1048576) (hp : p < n) (hinv : Inv w sb B db n cap zs off ⟨stk, rc⟩) (hl : stk.length ≤ p) (hr : Hid (∀ m, rc = some m → m.start ≤ (p : Int)))
    (hval : ∀ q, p < q → q ≤ n → ValOK sb B db n cap zs off q) (HC : Hid (Js.ch zs p = 91)) :
    Calls Try.prog 17 #[.pointer (some ⟨sb, 0, none⟩), .int .i64 p] w (ContRes sb B db n cap zs off p ⟨stk, rc⟩ w) := by
  have HV : Hid (∀ q, p < q → q ≤ n → ValOK sb B db n cap zs off q) := hval
  clear hval
  obtain ⟨i4, hi4, hz4, hs4, hb4⟩ := info_parts info4
  obtain ⟨i3, hi3, hz3, hs3, hb3⟩ := info_parts info3
  have h0 := hinv.f0
  have hck := hinv.doc.at hp
  rw [HC.out] at hck
  obtain ⟨v5, v6, v7, v8, v9, v14, v15, v16, v17, v18, hraw⟩ := hinv
  unfold rowsOf at hraw
  obtain ⟨a5, c5, rfl, _⟩ := Raw.shape (pre := []) hraw
  obtain ⟨a6, c6, rfl, _⟩ := Raw.shape (pre := [_]) hraw
  obtain ⟨a7, c7, rfl, _⟩ := Raw.shape (pre := [_, _]) hraw
  obtain ⟨a8, c8, rfl, _⟩ := Raw.shape (pre := [_, _, _]) hraw
  obtain ⟨a9, c9, rfl, _⟩ := Raw.shape (pre := [_, _, _, _]) hraw
  simp only [oL_len, sL_len, bL_len, eL_len, xL_len] at hraw
  obtain ⟨m, hm⟩ : ∃ m, stk.length = m := ⟨_, rfl⟩
  rw [hm] at hraw hl
  have HM : Hid (stk.length = m) := hm
  clear hm
  go_enter Try.func17, Try.ntmps17
  have o5 : w.ownsRow B 4 1 (.slice a5 m c5) m (oL stk) := by have := Own.mid (pre := []) hraw.own; simpa [HM.out] using this
  have h5 := hraw.st.cell 5 rfl
  have hB5 := hraw.hB
  go_upto_region 7 with (at_builtin; refine wpList_append_own_at _ rfl (.tmp 29) (.tmp 31) 25 rfl B 4 i4 (.bool false) 1 1 Try.underlying25 hi4 hz4 hs4 hb4 rfl (by decide) _ _ _ rfl (o5.alloc _) _ 1 1 [.bool false] rfl rfl (cell_one_new _ _ _) (one4 _) (by unfold maxLen; omega) (by omega) (by simp; omega) ?_; intro v5 x5 hown5 hgrow5 hnil5 hat5; clear hnil5; obtain ⟨b5, d5, rfl, k5⟩ := ownsRow_shape hown5; obtain ⟨q5, mv5⟩ := Raw.app0 (pre := []) hraw (by have := HM.out; simpa [this] using hown5) hgrow5 hat5; have hc5 := q5.st.cell 5 rfl; have hf5 := q5.st.free 5)
  have r5 := q5.field 5 (.slice b5 (m + 1) d5)
  have mw5 := mv5.trans (Mov.field x5 5 (.slice b5 (m + 1) d5))
  clear o5 h5 hB5 hown5 hgrow5 hat5 k5 q5 mv5 hc5 hf5 hraw
  generalize x5.setCell ⟨sb, 5, none⟩ (.slice b5 (m + 1) d5) = u5w at *
  have o6 : u5w.ownsRow B 3 1 (.slice a6 m c6) m (sL stk) := by have := Own.mid (pre := [_]) r5.own; simpa [HM.out] using this
  have h6 := r5.st.cell 6 rfl
  have hB6 := r5.hB
  go_upto_region 8 with (at_builtin; refine wpList_append_own_at _ rfl (.tmp 39) (.tmp 41) 26 rfl B 3 i3 (.int .i64 0) 1 8 Try.underlying26 hi3 hz3 hs3 hb3 rfl (by decide) _ _ _ rfl (o6.alloc _) _ 1 1 [.int .i64 p] rfl rfl (cell_one_new _ _ _) (one3 _) (by unfold maxLen; omega) (by omega) (by simp; omega) ?_; intro v6 x6 hown6 hgrow6 hnil6 hat6; clear hnil6; obtain ⟨b6, d6, rfl, k6⟩ := ownsRow_shape hown6; obtain ⟨q6, mv6⟩ := Raw.app0 (pre := [_]) r5 (by have := HM.out; simpa [this] using hown6) hgrow6 hat6; have hc6 := q6.st.cell 6 rfl; have hf6 := q6.st.free 6)
  have r6 := q6.field 6 (.slice b6 (m + 1) d6)
  have mw6 := mw5.trans (mv6.trans (Mov.field x6 6 (.slice b6 (m + 1) d6)))
  clear o6 h6 hB6 hown6 hgrow6 hat6 k6 q6 mv6 hc6 hf6 r5 mw5
  generalize x6.setCell ⟨sb, 6, none⟩ (.slice b6 (m + 1) d6) = u6w at *
  have o7 : u6w.ownsRow B 3 1 (.slice a7 m c7) m (bL stk) := by have := Own.mid (pre := [_, _]) r6.own; simpa [HM.out] using this
  have h7 := r6.st.cell 7 rfl
  have hB7 := r6.hB
  go_upto_region 9 with (at_builtin; refine wpList_append_own_at _ rfl (.tmp 49) (.tmp 50) 26 rfl B 3 i3 (.int .i64 0) 1 8 Try.underlying26 hi3 hz3 hs3 hb3 rfl (by decide) _ _ _ rfl (o7.alloc _) _ 1 1 [.int .i64 (-1)] rfl rfl (cell_one_new _ _ _) (one3 _) (by unfold maxLen; omega) (by omega) (by simp; omega) ?_; intro v7 x7 hown7 hgrow7 hnil7 hat7; clear hnil7; obtain ⟨b7, d7, rfl, k7⟩ := ownsRow_shape hown7; obtain ⟨q7, mv7⟩ := Raw.app0 (pre := [_, _]) r6 (by have := HM.out; simpa [this] using hown7) hgrow7 hat7; have hc7 := q7.st.cell 7 rfl; have hf7 := q7.st.free 7)
  have r7 := q7.field 7 (.slice b7 (m + 1) d7)
  have mw7 := mw6.trans (mv7.trans (Mov.field x7 7 (.slice b7 (m + 1) d7)))
  clear o7 h7 hB7 hown7 hgrow7 hat7 k7 q7 mv7 hc7 hf7 r6 mw6
  generalize x7.setCell ⟨sb, 7, none⟩ (.slice b7 (m + 1) d7) = u7w at *
  have o8 : u7w.ownsRow B 3 1 (.slice a8 m c8) m (eL stk) := by have := Own.mid (pre := [_, _, _]) r7.own; simpa [HM.out] using this
  have h8 := r7.st.cell 8 rfl
  have hB8 := r7.hB
  go_upto_region 10 with (at_builtin; refine wpList_append_own_at _ rfl (.tmp 58) (.tmp 59) 26 rfl B 3 i3 (.int .i64 0) 1 8 Try.underlying26 hi3 hz3 hs3 hb3 rfl (by decide) _ _ _ rfl (o8.alloc _) _ 1 1 [.int .i64 (-1)] rfl rfl (cell_one_new _ _ _) (one3 _) (by unfold maxLen; omega) (by omega) (by simp; omega) ?_; intro v8 x8 hown8 hgrow8 hnil8 hat8; clear hnil8; obtain ⟨b8, d8, rfl, k8⟩ := ownsRow_shape hown8; obtain ⟨q8, mv8⟩ := Raw.app0 (pre := [_, _, _]) r7 (by have := HM.out; simpa [this] using hown8) hgrow8 hat8; have hc8 := q8.st.cell 8 rfl; have hf8 := q8.st.free 8)
  have r8 := q8.field 8 (.slice b8 (m + 1) d8)
  have mw8 := mw7.trans (mv8.trans (Mov.field x8 8 (.slice b8 (m + 1) d8)))
  clear o8 h8 hB8 hown8 hgrow8 hat8 k8 q8 mv8 hc8 hf8 r7 mw7
  generalize x8.setCell ⟨sb, 8, none⟩ (.slice b8 (m + 1) d8) = u8w at *
  have o9 : u8w.ownsRow B 3 1 (.slice a9 m c9) m (xL stk) := by have := Own.mid (pre := [_, _, _, _]) r8.own; simpa [HM.out] using this
  have h9 := r8.st.cell 9 rfl
  have hB9 := r8.hB
  go_upto_region 11 with (at_builtin; refine wpList_append_own_at _ rfl (.tmp 67) (.tmp 68) 26 rfl B 3 i3 (.int .i64 0) 1 8 Try.underlying26 hi3 hz3 hs3 hb3 rfl (by decide) _ _ _ rfl (o9.alloc _) _ 1 1 [.int .i64 0] rfl rfl (cell_one_new _ _ _) (one3 _) (by unfold maxLen; omega) (by omega) (by simp; omega) ?_; intro v9 x9 hown9 hgrow9 hnil9 hat9; clear hnil9; obtain ⟨b9, d9, rfl, k9⟩ := ownsRow_shape hown9; obtain ⟨q9, mv9⟩ := Raw.app0 (pre := [_, _, _, _]) r8 (by have := HM.out; simpa [this] using hown9) hgrow9 hat9; have hc9 := q9.st.cell 9 rfl; have hf9 := q9.st.free 9)
  have r9 := q9.field 9 (.slice b9 (m + 1) d9)
  have mw9 := mw8.trans (mv9.trans (Mov.field x9 9 (.slice b9 (m + 1) d9)))
  clear o9 h9 hB9 hown9 hgrow9 hat9 k9 q9 mv9 hc9 hf9 r8 mw8
  generalize x9.setCell ⟨sb, 9, none⟩ (.slice b9 (m + 1) d9) = u9w at *
  have hI : Inv u9w sb B db n cap zs off ⟨⟨false, p, -1, -1, 0⟩ :: stk, rc⟩ := by
    refine ⟨.slice b5 (m + 1) d5, .slice b6 (m + 1) d6, .slice b7 (m + 1) d7, .slice b8 (m + 1) d8, .slice b9 (m + 1) d9, v14, v15, v16, v17, v18, ?_⟩
    simp only [oL_cons, sL_cons, bL_cons, eL_cons, xL_cons]
    exact r9
  clear r9 h0 hck
  obtain ⟨b5', d5', h5⟩ := hI.f5
  have h5' : u9w.cell? ⟨sb, 5, none⟩ = some (.slice b5' (m + 1) d5') := by rw [h5, List.length_cons, HM.out]
  clear h5
  go_wp2_with fail
  refine (space_any u9w db n cap zs _ (p + 1) (by omega) hn (by omega) hI.doc).mono ?_
  rintro e w0 ⟨q, rfl, hsp, rfl⟩
  have HSP : Hid (Js.Sps zs n (p + 1) q) := hsp
  clear hsp h5'
  have hq1 : p + 1 ≤ q := HSP.out.1
  have hq2 : q ≤ n := HSP.out.2.1
  go_upto_region 13 with fail
  go_cut [93] (fun x w' => x = .bool (decide (q < n) && (Js.ch zs q == 93)) ∧ w' = w0)
  case first =>
    by_cases hqn : q < n
    · have hcq := hI.doc.at hqn
      go_wp2
      go_meet
      case rel => exact ⟨by simp [hqn], rfl⟩
    · go_wp2
      go_meet
      case rel => exact ⟨by simp [hqn], rfl⟩
  case rest =>
  obtain ⟨rfl, rfl⟩ := hcut
  cases hb : (decide (q < n) && (Js.ch zs q == 93))
  rotate_left
  · obtain ⟨hb1, hb2⟩ : q < n ∧ Js.ch zs q = 93 := by simpa using hb
    have HB2 : Hid (Js.ch zs q = 93) := hb2
    clear hb hb2
    go_wp2_with fail
    refine (pop_any wc sb B db n cap zs off ⟨false, p, -1, -1, 0⟩ stk rc (by have := HM.out; omega) hI).mono ?_
    rintro e w2 ⟨rfl, hi2, hm2⟩
    go_wp2
    go_ret2
    refine .inl ⟨q, ⟨stk, rc⟩, rfl, hi2, mw9.trans hm2, by omega, hb1, .inr HB2.out, rfl, none, ⟨false, p, -1, -1, 0⟩, false, by simp, ?_⟩
    rw [HC.out]
    exact Js.SegE.blanks HSP.out _
  clear hb
  go_wp2_with fail
  go_loopw [10] (fun v wr => (∃ (q : Nat) (r : Option Js.Ms) (top : Js.Lv) (rc' : Option Js.Ms), v = .int .i64 q ∧ p + 1 ≤ q ∧ q ≤ n ∧ Inv wr sb B db n cap zs off ⟨top :: stk, rc'⟩ ∧ Mov B sb w wr ∧ 0 ≤ top.ix ∧ top.ix ≤ (q : Int) ∧ Hid (rc' = rc.or r ∧ Js.SegE zs n off (p + 1) q (⟨false, p, -1, -1, 0⟩ :: stk, false) (top :: stk, false) r ∧ top.obj = false))) (fun v _ => n - (intOf v).toNat)
  case atStart => exact ⟨q, none, ⟨false, p, -1, -1, 0⟩, rc, rfl, hq1, hq2, hI, mw9, by simp, by simp, by simp, Js.SegE.blanks HSP.out _, rfl⟩
  case round =>
    obtain ⟨t, r, top, rc', rfl, ht1, ht2, hi, hmv, hx0, hx1, H⟩ := hrel
    clear hI HSP hq1 hq2 mw9
    go_wp2_with fail
    refine ((HV.out t (by omega) ht2).calls hi (by have := HM.out; simp; omega) (starts_lt hr.out (by omega) H.out.2.1 H.out.1)).mono ?_
    rintro e w2 hres
    rcases hres with ⟨e1, ⟨stk', rc2⟩, rfl, hi2, hm2, he1, he2, hst, hst2, r1, hrc2, hsegv⟩ | ⟨x, rfl, hm2⟩
    rotate_left
    · go_wp2
      go_ret2
      exact .inr ⟨x, rfl, hmv.trans hm2⟩
    obtain rfl : stk' = top :: stk := hst
    have H2 : Hid (rc2 = rc'.or r1 ∧ (Js.Dl zs n e1 → Js.SegE zs n off t e1 (top :: stk, false) (top :: stk, false) r1)) := ⟨hrc2, hsegv⟩
    clear hrc2 hsegv hst2 hi
    go_wp2_with fail
    refine (space_any w2 db n cap zs _ e1 rfl hn he2 hi2.doc).mono ?_
    rintro e w0 ⟨q2, rfl, hsp, rfl⟩
    have HSP : Hid (Js.Sps zs n e1 q2) := hsp
    clear hsp
    have hqa : e1 ≤ q2 := HSP.out.1
    have hqb : q2 ≤ n := HSP.out.2.1
    by_cases hq2n : q2 < n
    rotate_left
    · go_wp2
      go_ret2
      exact .inr ⟨_, rfl, hmv.trans hm2⟩
    have hcq := hi2.doc.at hq2n
    obtain ⟨c2, hcc⟩ : ∃ c2, Js.ch zs q2 = c2 := ⟨_, rfl⟩
    rw [hcc] at hcq
    have HC2 : Hid (Js.ch zs q2 = c2) := hcc
    clear hcc
    by_cases c93 : c2 = 93
    · subst c93
      go_wp2_with fail
      refine (pop_any w0 sb B db n cap zs off top stk rc2 (by have := HM.out; omega) hi2).mono ?_
      rintro e w3 ⟨rfl, hi3, hm3⟩
      go_wp2
      go_ret2
      refine .inl ⟨q2, ⟨stk, rc2⟩, rfl, hi3, (hmv.trans hm2).trans hm3, by omega, hq2n, .inr HC2.out, rfl, r.or r1, top, false, ?_, ?_⟩
      · rw [H2.out.1, H.out.1, Option.or_assoc]
      · rw [HC.out]
        have hs := (H.out.2.1.trans (H2.out.2 (dl_of HSP.out hq2n (.inr (.inl HC2.out))))).trans (Js.SegE.blanks HSP.out _)
        rw [Option.or_none] at hs
        exact hs
    have f93 : (c2 == 93) = false := beq_eq_false_iff_ne.2 c93
    by_cases c44 : c2 = 44
    rotate_left
    · have f44 : (c2 != 44) = true := by simp [bne, c44]
      clear c93 c44
      go_wp2
      go_ret2
      exact .inr ⟨_, rfl, hmv.trans hm2⟩
    subst c44
    obtain ⟨g9, d9', k9, k9c, k9f, k9s⟩ := hi2.top9
    rw [HM.out] at k9 k9c k9f k9s
    have K9S : Hid _ := k9s
    clear k9s c93
    go_wp2_with fail
    obtain ⟨hi3, hm3⟩ := K9S.out (top.ix + 1)
    generalize w0.setCell ⟨g9, m, none⟩ (.int .i64 (top.ix + 1)) = w4 at *
    refine (space_any w4 db n cap zs _ (q2 + 1) (by omega) hn (by omega) hi3.doc).mono ?_
    rintro e w5 ⟨q3, rfl, hsp3, rfl⟩
    have HS3 : Hid (Js.Sps zs n (q2 + 1) q3) := hsp3
    clear hsp3
    have hqc : q2 + 1 ≤ q3 := HS3.out.1
    have hqd : q3 ≤ n := HS3.out.2.1
    clear k9 k9c k9f
    go_wp2
    go_roundw
    case rel =>
      refine ⟨q3, r.or r1, ⟨top.obj, top.st, top.ns, top.ne, top.ix + 1⟩, rc2, rfl, by omega, hqd, hi3, (hmv.trans hm2).trans hm3, by simp; omega, by simp; omega, ?_, ?_, H.out.2.2⟩
      · rw [H2.out.1, H.out.1, Option.or_assoc]
      · have hs := (((H.out.2.1.trans (H2.out.2 (dl_of HSP.out hq2n (.inl HC2.out)))).trans (Js.SegE.blanks HSP.out _)).trans (Js.SegE.comma hq2n HC2.out top stk false)).trans (Js.SegE.blanks HS3.out _)
        rw [Option.or_none, Option.or_none, Option.or_none, H.out.2.2] at hs
        rw [H.out.2.2]
        exact hs
    case measure => simp [intOf]; omega
end Go.Proofs.Qxb6603798a
