/-
  THE WALK of jsContainer (17) at an object; jsValue and jsContainer at every place.
-/
import Derived.Test.Qxb6603798aCont
namespace Go.Proofs.Qxb6603798a
open Go.RowKit
set_option linter.unusedVariables false
set_option linter.unusedSimpArgs false

set_option maxRecDepth 100000 in
set_option maxHeartbeats 4000000 in
theorem cont_obj (w : World) (sb B db n cap : Nat) (zs : List Int) (off : Int) (stk : List Js.Lv) (rc : Option Js.Ms) (p : Nat) (hn : n ≤ 1048576) (hp : p < n) (hinv : Inv w sb B db n cap zs off ⟨stk, rc⟩) (hl : stk.length ≤ p) (hr : Hid (∀ m, rc = some m → m.start ≤ (p : Int)))
    (hval : ∀ q, p < q → q ≤ n → ValOK sb B db n cap zs off q) (HC : Hid (Js.ch zs p = 123)) :
    Calls Try.prog 17 #[.pointer (some ⟨sb, 0, none⟩), .int .i64 p] w (ContRes sb B db n cap zs off p ⟨stk, rc⟩ w) := by
  have HV : Hid (∀ q, p < q → q ≤ n → ValOK sb B db n cap zs off q) := hval
  clear hval
  obtain ⟨i4, hi4, hz4, hs4, hb4⟩ := info_parts info4
  obtain ⟨i3, hi3, hz3, hs3, hb3⟩ := info_parts info3
  have h0 := hinv.f0
  have hck := hinv.doc.at hp
  rw [HC.out] at hck
  obtain ⟨v5, v6, v7, v8, v9, v14, v15, v16, v17, v18, hraw⟩ := hinv
  unfold rowsOf at hraw
  obtain ⟨a5, c5, rfl, _⟩ := Raw.shape (pre := []) hraw
  obtain ⟨a6, c6, rfl, _⟩ := Raw.shape (pre := [_]) hraw
  obtain ⟨a7, c7, rfl, _⟩ := Raw.shape (pre := [_, _]) hraw
  obtain ⟨a8, c8, rfl, _⟩ := Raw.shape (pre := [_, _, _]) hraw
  obtain ⟨a9, c9, rfl, _⟩ := Raw.shape (pre := [_, _, _, _]) hraw
  simp only [oL_len, sL_len, bL_len, eL_len, xL_len] at hraw
  obtain ⟨m, hm⟩ : ∃ m, stk.length = m := ⟨_, rfl⟩
  rw [hm] at hraw hl
  have HM : Hid (stk.length = m) := hm
  clear hm
  go_enter Try.func17, Try.ntmps17
  have o5 : w.ownsRow B 4 1 (.slice a5 m c5) m (oL stk) := by have := Own.mid (pre := []) hraw.own; simpa [HM.out] using this
  have h5 := hraw.st.cell 5 rfl
  have hB5 := hraw.hB
  go_upto_region 7 with (at_builtin; refine wpList_append_own_at _ rfl (.tmp 29) (.tmp 31) 25 rfl B 4 i4 (.bool false) 1 1 Try.underlying25 hi4 hz4 hs4 hb4 rfl (by decide) _ _ _ rfl (o5.alloc _) _ 1 1 [.bool true] rfl rfl (cell_one_new _ _ _) (one4 _) (by unfold maxLen; omega) (by omega) (by simp; omega) ?_; intro v5 x5 hown5 hgrow5 hnil5 hat5; clear hnil5; obtain ⟨b5, d5, rfl, k5⟩ := ownsRow_shape hown5; obtain ⟨q5, mv5⟩ := Raw.app0 (pre := []) hraw (by have := HM.out; simpa [this] using hown5) hgrow5 hat5; have hc5 := q5.st.cell 5 rfl; have hf5 := q5.st.free 5)
  have r5 := q5.field 5 (.slice b5 (m + 1) d5)
  have mw5 := mv5.trans (Mov.field x5 5 (.slice b5 (m + 1) d5))
  clear o5 h5 hB5 hown5 hgrow5 hat5 k5 q5 mv5 hc5 hf5 hraw
  generalize x5.setCell ⟨sb, 5, none⟩ (.slice b5 (m + 1) d5) = u5w at *
  have o6 : u5w.ownsRow B 3 1 (.slice a6 m c6) m (sL stk) := by have := Own.mid (pre := [_]) r5.own; simpa [HM.out] using this
  have h6 := r5.st.cell 6 rfl
  have hB6 := r5.hB
  go_upto_region 8 with (at_builtin; refine wpList_append_own_at _ rfl (.tmp 39) (.tmp 41) 26 rfl B 3 i3 (.int .i64 0) 1 8 Try.underlying26 hi3 hz3 hs3 hb3 rfl (by decide) _ _ _ rfl (o6.alloc _) _ 1 1 [.int .i64 p] rfl rfl (cell_one_new _ _ _) (one3 _) (by unfold maxLen; omega) (by omega) (by simp; omega) ?_; intro v6 x6 hown6 hgrow6 hnil6 hat6; clear hnil6; obtain ⟨b6, d6, rfl, k6⟩ := ownsRow_shape hown6; obtain ⟨q6, mv6⟩ := Raw.app0 (pre := [_]) r5 (by have := HM.out; simpa [this] using hown6) hgrow6 hat6; have hc6 := q6.st.cell 6 rfl; have hf6 := q6.st.free 6)
  have r6 := q6.field 6 (.slice b6 (m + 1) d6)
  have mw6 := mw5.trans (mv6.trans (Mov.field x6 6 (.slice b6 (m + 1) d6)))
  clear o6 h6 hB6 hown6 hgrow6 hat6 k6 q6 mv6 hc6 hf6 r5 mw5
  generalize x6.setCell ⟨sb, 6, none⟩ (.slice b6 (m + 1) d6) = u6w at *
  have o7 : u6w.ownsRow B 3 1 (.slice a7 m c7) m (bL stk) := by have := Own.mid (pre := [_, _]) r6.own; simpa [HM.out] using this
  have h7 := r6.st.cell 7 rfl
  have hB7 := r6.hB
  go_upto_region 9 with (at_builtin; refine wpList_append_own_at _ rfl (.tmp 49) (.tmp 50) 26 rfl B 3 i3 (.int .i64 0) 1 8 Try.underlying26 hi3 hz3 hs3 hb3 rfl (by decide) _ _ _ rfl (o7.alloc _) _ 1 1 [.int .i64 (-1)] rfl rfl (cell_one_new _ _ _) (one3 _) (by unfold maxLen; omega) (by omega) (by simp; omega) ?_; intro v7 x7 hown7 hgrow7 hnil7 hat7; clear hnil7; obtain ⟨b7, d7, rfl, k7⟩ := ownsRow_shape hown7; obtain ⟨q7, mv7⟩ := Raw.app0 (pre := [_, _]) r6 (by have := HM.out; simpa [this] using hown7) hgrow7 hat7; have hc7 := q7.st.cell 7 rfl; have hf7 := q7.st.free 7)
  have r7 := q7.field 7 (.slice b7 (m + 1) d7)
  have mw7 := mw6.trans (mv7.trans (Mov.field x7 7 (.slice b7 (m + 1) d7)))
  clear o7 h7 hB7 hown7 hgrow7 hat7 k7 q7 mv7 hc7 hf7 r6 mw6
  generalize x7.setCell ⟨sb, 7, none⟩ (.slice b7 (m + 1) d7) = u7w at *
  have o8 : u7w.ownsRow B 3 1 (.slice a8 m c8) m (eL stk) := by have := Own.mid (pre := [_, _, _]) r7.own; simpa [HM.out] using this
  have h8 := r7.st.cell 8 rfl
  have hB8 := r7.hB
  go_upto_region 10 with (at_builtin; refine wpList_append_own_at _ rfl (.tmp 58) (.tmp 59) 26 rfl B 3 i3 (.int .i64 0) 1 8 Try.underlying26 hi3 hz3 hs3 hb3 rfl (by decide) _ _ _ rfl (o8.alloc _) _ 1 1 [.int .i64 (-1)] rfl rfl (cell_one_new _ _ _) (one3 _) (by unfold maxLen; omega) (by omega) (by simp; omega) ?_; intro v8 x8 hown8 hgrow8 hnil8 hat8; clear hnil8; obtain ⟨b8, d8, rfl, k8⟩ := ownsRow_shape hown8; obtain ⟨q8, mv8⟩ := Raw.app0 (pre := [_, _, _]) r7 (by have := HM.out; simpa [this] using hown8) hgrow8 hat8; have hc8 := q8.st.cell 8 rfl; have hf8 := q8.st.free 8)
  have r8 := q8.field 8 (.slice b8 (m + 1) d8)
  have mw8 := mw7.trans (mv8.trans (Mov.field x8 8 (.slice b8 (m + 1) d8)))
  clear o8 h8 hB8 hown8 hgrow8 hat8 k8 q8 mv8 hc8 hf8 r7 mw7
  generalize x8.setCell ⟨sb, 8, none⟩ (.slice b8 (m + 1) d8) = u8w at *
  have o9 : u8w.ownsRow B 3 1 (.slice a9 m c9) m (xL stk) := by have := Own.mid (pre := [_, _, _, _]) r8.own; simpa [HM.out] using this
  have h9 := r8.st.cell 9 rfl
  have hB9 := r8.hB
  go_upto_region 11 with (at_builtin; refine wpList_append_own_at _ rfl (.tmp 67) (.tmp 68) 26 rfl B 3 i3 (.int .i64 0) 1 8 Try.underlying26 hi3 hz3 hs3 hb3 rfl (by decide) _ _ _ rfl (o9.alloc _) _ 1 1 [.int .i64 0] rfl rfl (cell_one_new _ _ _) (one3 _) (by unfold maxLen; omega) (by omega) (by simp; omega) ?_; intro v9 x9 hown9 hgrow9 hnil9 hat9; clear hnil9; obtain ⟨b9, d9, rfl, k9⟩ := ownsRow_shape hown9; obtain ⟨q9, mv9⟩ := Raw.app0 (pre := [_, _, _, _]) r8 (by have := HM.out; simpa [this] using hown9) hgrow9 hat9; have hc9 := q9.st.cell 9 rfl; have hf9 := q9.st.free 9)
  have r9 := q9.field 9 (.slice b9 (m + 1) d9)
  have mw9 := mw8.trans (mv9.trans (Mov.field x9 9 (.slice b9 (m + 1) d9)))
  clear o9 h9 hB9 hown9 hgrow9 hat9 k9 q9 mv9 hc9 hf9 r8 mw8
  generalize x9.setCell ⟨sb, 9, none⟩ (.slice b9 (m + 1) d9) = u9w at *
  have hI : Inv u9w sb B db n cap zs off ⟨⟨true, p, -1, -1, 0⟩ :: stk, rc⟩ := by
    refine ⟨.slice b5 (m + 1) d5, .slice b6 (m + 1) d6, .slice b7 (m + 1) d7, .slice b8 (m + 1) d8, .slice b9 (m + 1) d9, v14, v15, v16, v17, v18, ?_⟩
    simp only [oL_cons, sL_cons, bL_cons, eL_cons, xL_cons]
    exact r9
  clear r9 h0 hck
  obtain ⟨b5', d5', h5⟩ := hI.f5
  have h5' : u9w.cell? ⟨sb, 5, none⟩ = some (.slice b5' (m + 1) d5') := by rw [h5, List.length_cons, HM.out]
  clear h5
  go_wp2_with fail
  refine (space_any u9w db n cap zs _ (p + 1) (by omega) hn (by omega) hI.doc).mono ?_
  rintro e w0 ⟨q, rfl, hsp, rfl⟩
  have HSP : Hid (Js.Sps zs n (p + 1) q) := hsp
  clear hsp h5'
  have hq1 : p + 1 ≤ q := HSP.out.1
  have hq2 : q ≤ n := HSP.out.2.1
  go_upto_region 13 with fail
  go_cut [93] (fun x w' => x = .bool (decide (q < n) && (Js.ch zs q == 125)) ∧ w' = w0)
  case first =>
    by_cases hqn : q < n
    · have hcq := hI.doc.at hqn
      go_wp2
      go_meet
      case rel => exact ⟨by simp [hqn], rfl⟩
    · go_wp2
      go_meet
      case rel => exact ⟨by simp [hqn], rfl⟩
  case rest =>
  obtain ⟨rfl, rfl⟩ := hcut
  cases hb : (decide (q < n) && (Js.ch zs q == 125))
  rotate_left
  · obtain ⟨hb1, hb2⟩ : q < n ∧ Js.ch zs q = 125 := by simpa using hb
    have HB2 : Hid (Js.ch zs q = 125) := hb2
    clear hb hb2
    go_wp2_with fail
    refine (pop_any wc sb B db n cap zs off ⟨true, p, -1, -1, 0⟩ stk rc (by have := HM.out; omega) hI).mono ?_
    rintro e w2 ⟨rfl, hi2, hm2⟩
    go_wp2
    go_ret2
    refine .inl ⟨q, ⟨stk, rc⟩, rfl, hi2, mw9.trans hm2, by omega, hb1, .inl HB2.out, rfl, none, ⟨true, p, -1, -1, 0⟩, true, by simp, ?_⟩
    rw [HC.out]
    exact Js.SegE.blanks HSP.out _
  clear hb
  go_wp2_with fail
  go_loopw [10] (fun v wr => (∃ (q : Nat) (r : Option Js.Ms) (top : Js.Lv) (rc' : Option Js.Ms), v = .int .i64 q ∧ p + 1 ≤ q ∧ q ≤ n ∧ Inv wr sb B db n cap zs off ⟨top :: stk, rc'⟩ ∧ Mov B sb w wr ∧ 0 ≤ top.ix ∧ top.ix ≤ (q : Int) ∧ Hid (rc' = rc.or r ∧ Js.SegE zs n off (p + 1) q (⟨true, p, -1, -1, 0⟩ :: stk, true) (top :: stk, true) r ∧ top.obj = true))) (fun v _ => n - (intOf v).toNat)
  case atStart => exact ⟨q, none, ⟨true, p, -1, -1, 0⟩, rc, rfl, hq1, hq2, hI, mw9, by simp, by simp, by simp, Js.SegE.blanks HSP.out _, rfl⟩
  case round =>
    obtain ⟨t, r, top, rc', rfl, ht1, ht2, hi, hmv, hx0, hx1, H⟩ := hrel
    clear hI HSP hq1 hq2 mw9
    by_cases htn : t < n
    rotate_left
    · go_wp2
      go_ret2
      exact .inr ⟨_, rfl, hmv⟩
    have hct := hi.doc.at htn
    obtain ⟨c1, hcc1⟩ : ∃ c1, Js.ch zs t = c1 := ⟨_, rfl⟩
    rw [hcc1] at hct
    have HC1 : Hid (Js.ch zs t = c1) := hcc1
    clear hcc1
    by_cases c34 : c1 = 34
    rotate_left
    · have f34 : (c1 != 34) = true := by simp [bne, c34]
      clear c34
      go_wp2
      go_ret2
      exact .inr ⟨_, rfl, hmv⟩
    subst c34
    go_wp2_with fail
    refine (string_any wr db n cap zs _ t rfl hn htn hi.doc).mono ?_
    rintro e w0 ⟨hres, rfl⟩
    rcases hres with ⟨en, rfl, hstr⟩ | ⟨x, rfl⟩
    rotate_left
    · go_wp2
      go_ret2
      exact .inr ⟨x, rfl, hmv⟩
    have HST : Hid (Js.Str zs n (t + 1) en) := hstr
    clear hstr hct
    have hen1 : t + 1 < en := HST.out.bound.1
    have hen2 : en ≤ n := HST.out.bound.2
    obtain ⟨g7, d7', k7, k7c, k7f, k7s⟩ := hi.top7
    rw [HM.out] at k7 k7c k7f k7s
    have K7S : Hid _ := k7s
    clear k7s
    go_upto_region 23 with fail
    obtain ⟨hi7, hm7⟩ := K7S.out (t : Int)
    generalize w0.setCell ⟨g7, m, none⟩ (.int .i64 (t : Int)) = w7 at *
    clear k7 k7c k7f K7S hi
    obtain ⟨g8, d8', k8, k8c, k8f, k8s⟩ := hi7.top8
    rw [HM.out] at k8 k8c k8f k8s
    have K8S : Hid _ := k8s
    clear k8s
    go_upto_region 24 with fail
    obtain ⟨hi8, hm8⟩ := K8S.out (en : Int)
    generalize w7.setCell ⟨g8, m, none⟩ (.int .i64 (en : Int)) = w8 at *
    clear k8 k8c k8f K8S hi7
    have hmv8 := (hmv.trans hm7).trans hm8
    clear hmv hm7 hm8
    have HNM : Hid (Js.SegE zs n off (p + 1) en (⟨true, p, -1, -1, 0⟩ :: stk, true) (⟨top.obj, top.st, t, en, top.ix⟩ :: stk, false) (r.or (if off = (t : Int) + 1 then some ⟨t, en, true, ⟨top.obj, top.st, t, en, top.ix⟩ :: stk⟩ else none))) := H.out.2.1.trans (Js.SegE.name HC1.out HST.out top stk)
    have h3 := hi8.f3
    have h4 := hi8.f4
    have h10 := hi8.f10
    obtain ⟨fb, hfb⟩ : ∃ fb, rFound rc' = fb := ⟨_, rfl⟩
    have h10' : w8.cell? ⟨sb, 10, none⟩ = some (.bool fb) := by rw [← hfb]; exact h10
    have HFB : Hid (rFound rc' = fb) := hfb
    clear h10 hfb
    go_cut [153] (fun x w' => x = .bool (!fb && (off == (t : Int) + 1)) ∧ w' = w8)
    case first =>
      cases fb
      · go_wp2
        go_meet
        case rel => exact ⟨by simp, rfl⟩
      · go_wp2
        go_meet
        case rel => exact ⟨by simp, rfl⟩
    case rest =>
    obtain ⟨rfl, rfl⟩ := hcut
    clear h3 h4 h10'
    go_upto_if 153 with fail
    go_cut [] (fun w' => ∃ rc1, Inv w' sb B db n cap zs off ⟨⟨top.obj, top.st, t, en, top.ix⟩ :: stk, rc1⟩ ∧ Mov B sb w w' ∧ Hid (rc1 = rc'.or (if off = (t : Int) + 1 then some ⟨t, en, true, ⟨top.obj, top.st, t, en, top.ix⟩ :: stk⟩ else none)))
    case first =>
      cases hbb : (!fb && (off == (t : Int) + 1))
      · have HRC : Hid (rc' = rc'.or (if off = (t : Int) + 1 then some ⟨t, en, true, ⟨top.obj, top.st, t, en, top.ix⟩ :: stk⟩ else none)) := by
          have hfb := HFB.out
          cases rc' with
          | some m0 => rfl
          | none =>
            have : fb = false := by rw [← hfb]; rfl
            subst this
            have : ¬ off = (t : Int) + 1 := by simpa using hbb
            rw [if_neg this]; rfl
        clear HFB hbb
        go_wp2
        go_meet
        case rel => exact ⟨rc', hi8, hmv8, HRC⟩
      · obtain ⟨hb1, hb2⟩ : fb = false ∧ off = (t : Int) + 1 := by simpa using hbb
        obtain rfl : rc' = none := by
          have hfb := HFB.out
          cases rc' with
          | some m0 => rw [hb1] at hfb; cases hfb
          | none => rfl
        have HRC : Hid (some (Js.Ms.mk t en true (⟨top.obj, top.st, t, en, top.ix⟩ :: stk)) = (none : Option Js.Ms).or (if off = (t : Int) + 1 then some ⟨t, en, true, ⟨top.obj, top.st, t, en, top.ix⟩ :: stk⟩ else none)) := by
          rw [if_pos hb2]; rfl
        clear HFB hb1 hb2
        go_wp2_with fail
        refine (record_any wc sb B db n cap zs off (⟨top.obj, top.st, t, en, top.ix⟩ :: stk) t en true (by have := HM.out; simp; omega) hi8).mono ?_
        rintro e w9 ⟨rfl, hi9, hm9⟩
        go_wp2
        go_meet
        case rel => exact ⟨_, hi9, hmv8.trans hm9, HRC⟩
    case rest =>
    obtain ⟨rc1, hi9, hmv9, HRC⟩ := hcut
    clear hi8 hmv8 HFB
    have h1 := hi9.f1
    have hdoc9 := hi9.doc
    go_wp2_with (go_at_call 18; refine (note_any _ sb _ _ (by omega) h1).mono ?_; rintro e w' ⟨rfl, rfl⟩)
    refine (space_any _ db n cap zs _ en rfl hn hen2 hdoc9).mono ?_
    rintro e w0 ⟨q1, rfl, hsp, rfl⟩
    have HSP1 : Hid (Js.Sps zs n en q1) := hsp
    clear hsp
    have hqa1 : en ≤ q1 := HSP1.out.1
    have hqb1 : q1 ≤ n := HSP1.out.2.1
    by_cases hq1n : q1 < n
    rotate_left
    · go_wp2
      go_ret2
      exact .inr ⟨_, rfl, hmv9⟩
    have hcq1 := hdoc9.at hq1n
    obtain ⟨c3, hcc3⟩ : ∃ c3, Js.ch zs q1 = c3 := ⟨_, rfl⟩
    rw [hcc3] at hcq1
    have HC3 : Hid (Js.ch zs q1 = c3) := hcc3
    clear hcc3
    by_cases c58 : c3 = 58
    rotate_left
    · have f58 : (c3 != 58) = true := by simp [bne, c58]
      clear c58
      go_wp2
      go_ret2
      exact .inr ⟨_, rfl, hmv9⟩
    subst c58
    go_wp2_with fail
    refine (space_any _ db n cap zs _ (q1 + 1) (by omega) hn (by omega) hdoc9).mono ?_
    rintro e w0 ⟨t2, rfl, hsp, rfl⟩
    have HSP2 : Hid (Js.Sps zs n (q1 + 1) t2) := hsp
    clear hsp
    have ht1' : q1 + 1 ≤ t2 := HSP2.out.1
    have ht2' : t2 ≤ n := HSP2.out.2.1
    have H' : Hid (rc1 = rc.or (r.or (if off = (t : Int) + 1 then some ⟨t, en, true, ⟨top.obj, top.st, t, en, top.ix⟩ :: stk⟩ else none)) ∧ Js.SegE zs n off (p + 1) t2 (⟨true, p, -1, -1, 0⟩ :: stk, true) (⟨top.obj, top.st, t, en, top.ix⟩ :: stk, false) (r.or (if off = (t : Int) + 1 then some ⟨t, en, true, ⟨top.obj, top.st, t, en, top.ix⟩ :: stk⟩ else none)) ∧ (Js.Lv.mk top.obj top.st t en top.ix).obj = true) := by
      refine ⟨by rw [HRC.out, H.out.1, Option.or_assoc], ?_, H.out.2.2⟩
      have hs := ((HNM.out.trans (Js.SegE.blanks HSP1.out _)).trans (Js.SegE.colon hq1n HC3.out _)).trans (Js.SegE.blanks HSP2.out _)
      rw [Option.or_none, Option.or_none, Option.or_none] at hs
      exact hs
    have hx0' : 0 ≤ (Js.Lv.mk top.obj top.st t en top.ix).ix := hx0
    have hx1' : (Js.Lv.mk top.obj top.st t en top.ix).ix ≤ (t2 : Int) := by show top.ix ≤ _; omega
    generalize (r.or (if off = (t : Int) + 1 then some ⟨t, en, true, ⟨top.obj, top.st, t, en, top.ix⟩ :: stk⟩ else none)) = r' at H'
    generalize Js.Lv.mk top.obj top.st t en top.ix = top' at *
    have ht0 : p + 1 ≤ t2 := by omega
    clear HNM HRC H hx0 hx1 h1 hdoc9 hcq1 HST HC1 HSP1 HSP2 HC3
    go_wp2_with fail
    refine ((HV.out t2 (by omega) ht2').calls hi9 (by have := HM.out; simp; omega) (starts_lt hr.out (by omega) H'.out.2.1 H'.out.1)).mono ?_
    rintro e w2 hres
    rcases hres with ⟨e1, ⟨stk', rc2⟩, rfl, hi2, hm2, he1, he2, hst, hst2, r1, hrc2, hsegv⟩ | ⟨x, rfl, hm2⟩
    rotate_left
    · go_wp2
      go_ret2
      exact .inr ⟨x, rfl, hmv9.trans hm2⟩
    obtain rfl : stk' = top' :: stk := hst
    have H2 : Hid (rc2 = rc1.or r1 ∧ (Js.Dl zs n e1 → Js.SegE zs n off t2 e1 (top' :: stk, false) (top' :: stk, false) r1)) := ⟨hrc2, hsegv⟩
    clear hrc2 hsegv hst2 hi9
    go_wp2_with fail
    refine (space_any w2 db n cap zs _ e1 rfl hn he2 hi2.doc).mono ?_
    rintro e w0 ⟨q2, rfl, hsp, rfl⟩
    have HSP : Hid (Js.Sps zs n e1 q2) := hsp
    clear hsp
    have hqa : e1 ≤ q2 := HSP.out.1
    have hqb : q2 ≤ n := HSP.out.2.1
    by_cases hq2n : q2 < n
    rotate_left
    · go_wp2
      go_ret2
      exact .inr ⟨_, rfl, hmv9.trans hm2⟩
    have hcq := hi2.doc.at hq2n
    obtain ⟨c2, hcc⟩ : ∃ c2, Js.ch zs q2 = c2 := ⟨_, rfl⟩
    rw [hcc] at hcq
    have HC2 : Hid (Js.ch zs q2 = c2) := hcc
    clear hcc
    by_cases c93 : c2 = 125
    · subst c93
      go_wp2_with fail
      refine (pop_any w0 sb B db n cap zs off top' stk rc2 (by have := HM.out; omega) hi2).mono ?_
      rintro e w3 ⟨rfl, hi3, hm3⟩
      go_wp2
      go_ret2
      refine .inl ⟨q2, ⟨stk, rc2⟩, rfl, hi3, (hmv9.trans hm2).trans hm3, by omega, hq2n, .inl HC2.out, rfl, r'.or r1, top', false, ?_, ?_⟩
      · rw [H2.out.1, H'.out.1, Option.or_assoc]
      · rw [HC.out]
        have hs := (H'.out.2.1.trans (H2.out.2 (dl_of HSP.out hq2n (.inr (.inr HC2.out))))).trans (Js.SegE.blanks HSP.out _)
        rw [Option.or_none] at hs
        exact hs
    have f93 : (c2 == 125) = false := beq_eq_false_iff_ne.2 c93
    by_cases c44 : c2 = 44
    rotate_left
    · have f44 : (c2 != 44) = true := by simp [bne, c44]
      clear c93 c44
      go_wp2
      go_ret2
      exact .inr ⟨_, rfl, hmv9.trans hm2⟩
    subst c44
    obtain ⟨g9, d9', k9, k9c, k9f, k9s⟩ := hi2.top9
    rw [HM.out] at k9 k9c k9f k9s
    have K9S : Hid _ := k9s
    clear k9s c93
    go_wp2_with fail
    obtain ⟨hi3, hm3⟩ := K9S.out (top'.ix + 1)
    generalize w0.setCell ⟨g9, m, none⟩ (.int .i64 (top'.ix + 1)) = w4 at *
    refine (space_any w4 db n cap zs _ (q2 + 1) (by omega) hn (by omega) hi3.doc).mono ?_
    rintro e w5 ⟨q3, rfl, hsp3, rfl⟩
    have HS3 : Hid (Js.Sps zs n (q2 + 1) q3) := hsp3
    clear hsp3
    have hqc : q2 + 1 ≤ q3 := HS3.out.1
    have hqd : q3 ≤ n := HS3.out.2.1
    clear k9 k9c k9f
    go_wp2
    go_roundw
    case rel =>
      refine ⟨q3, r'.or r1, ⟨top'.obj, top'.st, top'.ns, top'.ne, top'.ix + 1⟩, rc2, rfl, by omega, hqd, hi3, (hmv9.trans hm2).trans hm3, by simp; omega, by simp; omega, ?_, ?_, H'.out.2.2⟩
      · rw [H2.out.1, H'.out.1, Option.or_assoc]
      · have hs := (((H'.out.2.1.trans (H2.out.2 (dl_of HSP.out hq2n (.inl HC2.out)))).trans (Js.SegE.blanks HSP.out _)).trans (Js.SegE.comma hq2n HC2.out top' stk false)).trans (Js.SegE.blanks HS3.out _)
        rw [Option.or_none, Option.or_none, Option.or_none, H'.out.2.2] at hs
        rw [H'.out.2.2]
        exact hs
    case measure => simp [intOf]; omega

theorem cont_step (sb B db n cap : Nat) (zs : List Int) (off : Int) (p : Nat) (hn : n ≤ 1048576) (hval : ∀ q, p < q → q ≤ n → ValOK sb B db n cap zs off q) : ContOK sb B db n cap zs off p := by
  intro S w hinv hl hp hr hc
  obtain ⟨stk, rc⟩ := S
  rcases hc with h | h
  · exact cont_obj w sb B db n cap zs off stk rc p hn hp hinv hl hr hval h
  · exact cont_arr w sb B db n cap zs off stk rc p hn hp hinv hl hr hval h
/-- jsValue, at every place. -/
theorem value_all (sb B db n cap : Nat) (zs : List Int) (off : Int) (hn : n ≤ 1048576) : ∀ k p, n - p ≤ k → p ≤ n → ValOK sb B db n cap zs off p
  | 0, p, h1, h2 => value_step sb B db n cap zs off p hn h2 (fun h => by omega)
  | k + 1, p, h1, h2 => value_step sb B db n cap zs off p hn h2 (fun h => cont_step sb B db n cap zs off p hn (fun q hq1 hq2 => value_all sb B db n cap zs off hn k q (by omega) hq2))
end Go.Proofs.Qxb6603798a
