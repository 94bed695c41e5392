/-
  THE WALK of (*expansion).add (40): a function that calls itself.
-/
import Derived.Test.Qxb6603470aModel
import Derived.Deep.RegionWith
namespace Go.Proofs.Qxb6603470a
open Go.RowKit
set_option linter.unusedVariables false
set_option linter.unusedSimpArgs false

/-- The expansion: its struct in the block behind w, its options' row behind that. -/
structure EInv (w wr : World) (vo : Value) (outs : List ByteArray) (sz : Nat) : Prop where
  below : Below w.heap.size w wr
  st : BlockAt wr w.heap.size 73 [vo, .int .i64 sz]
  own : wr.ownsRow (w.heap.size + 1) 9 1 vo outs.length (outs.map Value.string)
  nl : outs = [] → vo = .slice none 0 0

section
variable {w wr w1 : World} {vo v' : Value} {outs : List ByteArray} {sz : Nat}
theorem EInv.size (h : EInv w wr vo outs sz) : w.heap.size + 1 ≤ wr.heap.size := h.st.lt
theorem EInv.alloc (h : EInv w wr vo outs sz) (o : Obj) : EInv w (wr.alloc o) vo outs sz :=
  ⟨h.below.alloc (by have := h.size; omega) o, h.st.of (Below.heap_alloc _ _ _ h.st.lt), h.own.alloc o, h.nl⟩
theorem EInv.drewN (h : EInv w wr vo outs sz) (x : Nat) : EInv w (wr.drewN x) vo outs sz := ⟨below_drewN h.below x, h.st, h.own, h.nl⟩
theorem EInv.drew (h : EInv w wr vo outs sz) : EInv w wr.drew vo outs sz := ⟨h.below.drew, h.st, h.own, h.nl⟩
theorem EInv.shape (h : EInv w wr vo outs sz) : ∃ a c, vo = .slice a outs.length c := by
  rcases h.own.2 with ⟨rfl, h0⟩ | ⟨g, cap, cur, rfl, _, _, hn, _⟩
  · exact ⟨none, 0, by rw [h0]⟩
  · exact ⟨_, cap, rfl⟩
theorem EInv.setSize (h : EInv w wr vo outs sz) (s : Nat) : EInv w (wr.setCell ⟨w.heap.size, 1, none⟩ (.int .i64 s)) vo outs s :=
  ⟨h.below.setCell (p := ⟨w.heap.size, 1, none⟩) (Nat.le_refl _) _, h.st.set 1 _, ownsRow_setCell_below h.own (Nat.lt_succ_self _) _, h.nl⟩
theorem EInv.out (h : EInv w wr vo outs sz) {o : Obj} {s : ByteArray} (hown : w1.ownsRow (w.heap.size + 1) 9 1 v' (outs.length + 1) (outs.map Value.string ++ [.string s])) (hg : (wr.alloc o).grownBy w1 vo.ownBlock) :
    EInv w (w1.setCell ⟨w.heap.size, 0, none⟩ v') v' (outs ++ [s]) sz := by
  have ha := h.alloc o
  have hs := ha.size
  have hb : Below w.heap.size w w1 := ha.below.grown hg (by omega) (fun k hk => by have := (h.own.lt k hk).1; omega)
  have hst : BlockAt w1 w.heap.size 73 [vo, .int .i64 sz] := ha.st.of (hg.block _ ha.st.lt (fun e => by have := (h.own.lt _ e.symm).1; omega))
  exact ⟨hb.setCell (p := ⟨w.heap.size, 0, none⟩) (Nat.le_refl _) _, hst.set 0 _, ownsRow_setCell_below (by simpa using hown) (Nat.lt_succ_self _) _, fun h => by simp at h⟩
/-- The struct's cells in the middle of an append. -/
theorem EInv.mid (h : EInv w wr vo outs sz) {o : Obj} (hg : (wr.alloc o).grownBy w1 vo.ownBlock) : BlockAt w1 w.heap.size 73 [vo, .int .i64 sz] := by
  have ha := h.alloc o
  exact ha.st.of (hg.block _ ha.st.lt (fun e => by have := (h.own.lt _ e.symm).1; omega))
end

/-- The first n lines. -/
theorem lns_take {g : SP → Nat → Value} {w : World} {B : Nat → Prop} {a : Option Addr} {n c N : Nat} {L : List (List SP)} (h : LnsAt g w B (.slice a n c) L) (hN : N ≤ L.length) (h1 : 1 ≤ N) : LnsAt g w B (.slice a N c) (L.take N) := by
  obtain ⟨a', c', V, e, h2, h3, h4, h5⟩ := h
  cases e
  refine ⟨a, c, V, by rw [List.length_take, Nat.min_eq_left hN], by rw [List.length_take]; omega, by rw [List.length_take]; omega, fun _ => ?_, fun j hj => ?_⟩
  · obtain ⟨b, o, x1, x2, x3⟩ := h4 (by omega)
    exact ⟨b, o, x1, x2, fun i hi => x3 i (by rw [List.length_take] at hi; omega)⟩
  · rw [List.length_take] at hj
    have := h5 j (by omega)
    rw [List.getD_eq_getElem?_getD, List.getElem?_take, if_pos (by omega), ← List.getD_eq_getElem?_getD]
    exact this

/-- What is asked of the pieces. -/
def POK2 (T : Tab) (q : Bool) (f : Nat) (p : SP) : Prop :=
  (hasR T.length p = true → 1 ≤ p.n ∧ p.n ≤ (T.getD p.r.toNat []).length ∧ rankOf T.length p ≤ f) ∧ (hasR T.length p = false → 1 ≤ (if q then p.q else p.o).size ∧ (if q then p.q else p.o).size ≤ 1048576)
def LOK (T : Tab) (q : Bool) (f : Nat) (LL : List (List SP)) : Prop := ∀ L ∈ LL, ∀ p ∈ L, POK2 T q f p
theorem sub_lok {T : Tab} (hw : WF T) (hf : TabFit T) {p : SP} {q : Bool} {f : Nat} (hp : POK2 T q (f + 1) p) (hr : hasR T.length p = true) : LOK T true f (linesOf T p) := by
  intro L hL p' hp'
  obtain ⟨h1, h2, h3⟩ := sub_ok hw hf hr hL hp'
  refine ⟨fun hr' => ⟨(h3.2 hr').1, (h3.2 hr').2.1, by have := (hp.1 hr).2.2; omega⟩, fun hr' => ⟨?_, ?_⟩⟩
  · have := h3.1 hr'; simp only [if_true]; omega
  · simp only [if_true]
    have hd : p.r.toNat < T.length := by have := hasR_iff.1 hr; omega
    have hL2 : L ∈ T.getD p.r.toNat [] := List.mem_of_mem_take hL
    obtain ⟨j, hj, ej⟩ := mem_getD (d := []) hL2
    obtain ⟨k, hk, ek⟩ := mem_getD (d := default) hp'
    have := (hf.2 p.r.toNat hd).2 j hj
    rw [ej] at this
    have := (this.2 k hk).2
    rw [ek] at this
    exact this

def AddRes (w : World) (R : List ByteArray × Nat × Bool) (e : Ending) (w' : World) : Prop :=
  e = .returned (.bool R.2.2) ∧ ∃ vo, EInv w w' vo R.1 R.2.1 ∧ R.1.length ≤ 4194304 ∧ R.1.length ≤ R.2.1 ∧ (R.2.2 = true → R.2.1 ≤ 4194304)
def AddOK (w : World) (T : Tab) (P : Nat → Nat) (f : Nat) : Prop :=
  ∀ (LL : List (List SP)) (q : Bool) (v vo : Value) (outs : List ByteArray) (sz : Nat) (wr : World), LOK T q f LL → LnsAt (bc T.length P) w (· < w.heap.size) v LL → EInv w wr vo outs sz → outs.length ≤ sz → sz ≤ 4194304 →
    Calls Try.prog 40 #[.pointer (some ⟨w.heap.size, 0, none⟩), v, .bool q] wr fun e w' => AddRes w (eat outs sz (evLines T q LL)) e w'

/-- The loops' book: what has been put, what is to come. -/
def Bk (R : List ByteArray × Nat × Bool) (outs : List ByteArray) (sz : Nat) (es : List Ev) : Prop := outs.length ≤ sz ∧ sz ≤ 4194304 ∧ eat outs sz es = R

theorem row_shape {w : World} {base : Nat} {e : TypeId} {size : Nat} {v : Value} {n : Nat} {xs : List Value} (h : w.ownsRow base e size v n xs) : ∃ a c, v = .slice a n c := by
  rcases h.2 with ⟨rfl, h0⟩ | ⟨g, cap, cur, rfl, _⟩
  · exact ⟨none, 0, by rw [h0]⟩
  · exact ⟨_, cap, rfl⟩
set_option maxRecDepth 100000 in
set_option maxHeartbeats 4000000 in
theorem add_step (w : World) (T : Tab) (P : Nat → Nat) (f : Nat) (hw : WF T) (hf : TabFit T) (htb : TblAt w (· < w.heap.size) T.length P T) (ih : ∀ k, k < f → AddOK w T P k) : AddOK w T P f := by
  intro LL q v vo outs sz wr hlok hv hi hos hsz
  obtain ⟨R, hR⟩ : ∃ R, R = eat outs sz (evLines T q LL) := ⟨_, rfl⟩
  have HB : Hid (Bk R outs sz (evLines T q (LL.drop 0))) := ⟨hos, hsz, hR.symm⟩
  rw [← hR]
  clear hR
  obtain ⟨a, c, V, rfl, hc, hn, hat, hel⟩ := hv
  have HAT : Hid (At w (· < w.heap.size) a LL.length LL.length V) := hat
  have HEL : Hid (∀ j, j < LL.length → PcsAt (bc T.length P) w (· < w.heap.size) (V j) (LL.getD j [])) := hel
  have HW : Hid (WF T ∧ TabFit T ∧ TblAt w (· < w.heap.size) T.length P T) := ⟨hw, hf, htb⟩
  have HIH : Hid (∀ k, k < f → AddOK w T P k) := ih
  have HLO : Hid (LOK T q f LL) := hlok
  clear hat hel hw hf htb ih hlok hos hsz
  obtain ⟨n, hn'⟩ : ∃ n, n = LL.length := ⟨_, rfl⟩
  have HN : Hid (n = LL.length) := hn'
  rw [← hn'] at hc hn ⊢
  clear hn'
  obtain ⟨i9, hi9, hz0, hz1, hz2⟩ := info_parts info9
  go_enter Try.func40, Try.ntmps40
  go_wp2_with fail
  go_loopw [8, 10, 11, 14] (fun _ _ _ i wr => ∃ (k : Nat) (vo : Value) (outs : List ByteArray) (sz : Nat), i = .int .i64 k ∧ k ≤ n ∧ EInv w wr vo outs sz ∧ Hid (Bk R outs sz (evLines T q (LL.drop k)))) (fun _ _ _ i _ => n - (intOf i).toNat)
  case atStart => exact ⟨0, vo, outs, sz, rfl, Nat.zero_le _, hi, HB⟩
  case round =>
    clear hi HB
    obtain ⟨k, vo, outs, sz, rfl, hk, hi, HB⟩ := hrel
    by_cases hlt : k < n
    rotate_left
    · obtain rfl : k = n := by omega
      have HD : Hid (R = (outs, sz, true)) := by
        have := HB.out.2.2
        rw [List.drop_of_length_le (by rw [HN.out]; exact Nat.le_refl _)] at this
        exact this.symm
      go_wp2_with fail
      go_ret
      rw [HD.out]
      have := HB.out.1
      have := HB.out.2.1
      exact ⟨rfl, vo, hi, by dsimp only; omega, by dsimp only; omega, fun _ => by dsimp only; omega⟩
    obtain ⟨b, o, rfl, hb, hcell⟩ := HAT.out (by have := HN.out; omega)
    have hck := (hi.below.cell (p := ⟨b, o + k, none⟩) hb).trans (hcell k (by have := HN.out; omega))
    clear hcell
    obtain ⟨aL, cL, hVL, hnL, hatL⟩ := pcs_shape (HEL.out k (by have := HN.out; omega))
    rw [hVL] at hck
    clear hVL
    have HDR : Hid (LL.drop k = LL.getD k [] :: LL.drop (k + 1)) := drop_cons (by have := HN.out; omega)
    have HLK : Hid (∀ p ∈ LL.getD k [], POK2 T q f p) := HLO.out _ (by
      rw [List.getD_eq_getElem?_getD, List.getElem?_eq_getElem (by have := HN.out; omega)]; exact List.getElem_mem _)
    generalize LL.getD k [] = L at *
    have HATL : Hid (At w (· < w.heap.size) aL L.length (L.length * 4) (fun i => bc T.length P (L.getD (i / 4) default) (i % 4))) := hatL
    clear hatL
    have HB2 : Hid (Bk R outs sz (rem T q (L :: LL.drop (k + 1)) 0)) := by
      rw [rem_zero, ← HDR.out]; exact HB.out
    clear HB HDR
    obtain ⟨nL, hnL'⟩ : ∃ n, n = L.length := ⟨_, rfl⟩
    have HNL : Hid (nL = L.length) := hnL'
    rw [← hnL'] at hck hnL
    clear hnL'
    go_wp2_with fail
    go_loopw [10, 11, 20] (fun _ _ i wr => ∃ (t : Nat) (vo : Value) (outs : List ByteArray) (sz : Nat), i = .int .i64 t ∧ t ≤ nL ∧ EInv w wr vo outs sz ∧ Hid (Bk R outs sz (rem T q (L :: LL.drop (k + 1)) t))) (fun _ _ i _ => nL - (intOf i).toNat)
    case atStart => exact ⟨0, vo, outs, sz, rfl, Nat.zero_le _, hi, HB2⟩
    case round =>
      clear hi HB2 hck
      obtain ⟨t, vo, outs, sz, rfl, ht, hi, HB⟩ := hrel
      by_cases htl : t < nL
      rotate_left
      · have HB3 : Hid (Bk R outs sz (evLines T q (LL.drop (k + 1)))) := by
          have := HB.out
          rw [rem_next _ _ (by have := HNL.out; omega), rem_zero] at this
          exact ⟨this.1, this.2.1, this.2.2⟩
        go_wp2_with fail
        go_roundw
        case rel => exact ⟨k + 1, vo, outs, sz, by go_num, by omega, hi, HB3⟩
        case measure => simp [intOf]; omega
      obtain ⟨bL, oL, rfl, hbL, hcL⟩ := HATL.out (by have := HNL.out; omega)
      obtain ⟨d0, d1, d2, d3⟩ := at4 (a := none) (n := 0) (k := t) (by have := HNL.out; omega) hcL
      clear hcL
      replace d0 := (hi.below.cell (p := ⟨bL, oL + t * 4, none⟩) hbL).trans d0
      replace d1 := (hi.below.cell (p := ⟨bL, oL + t * 4 + 1, none⟩) hbL).trans d1
      replace d2 := (hi.below.cell (p := ⟨bL, oL + t * 4 + 2, none⟩) hbL).trans d2
      replace d3 := (hi.below.cell (p := ⟨bL, oL + t * 4 + 3, none⟩) hbL).trans d3
      have HPP : Hid (POK2 T q f (L.getD t default)) := HLK.out _ (by
        rw [List.getD_eq_getElem?_getD, List.getElem?_eq_getElem (by have := HNL.out; omega)]; exact List.getElem_mem _)
      have HBE : Hid (Bk R outs sz (ev T q (L.getD t default) ++ rem T q (L :: LL.drop (k + 1)) (t + 1))) := by
        rw [← rem_piece _ _ (by have := HNL.out; omega)]; exact HB.out
      clear HB
      generalize hpp : L.getD t default = p at *
      clear hpp
      obtain ⟨po, pq, pr, pn⟩ := p
      simp only [bc] at d0 d1 d2 d3
      obtain ⟨ao, co, hvo⟩ := hi.shape
      subst hvo
      cases hr : hasR T.length ⟨po, pq, pr, pn⟩
      · have HHR : Hid (hasR T.length ⟨po, pq, pr, pn⟩ = false) := hr
        have hpt : ptrOf T.length P ⟨po, pq, pr, pn⟩ = none := by unfold ptrOf; rw [hr]; rfl
        rw [hpt] at d2
        clear hr hpt
        go_upto_region 10 with fail
        have hpb : BlockAt (wr.alloc (.cells #[.string po, .string pq, .pointer none, .int .i64 pn] 89)) wr.heap.size 89 [.string po, .string pq, .pointer none, .int .i64 pn] := heap_alloc_new wr _
        have hi2 := hi.alloc (.cells #[.string po, .string pq, .pointer none, .int .i64 pn] 89)
        have hpbl : w.heap.size < wr.heap.size := hi.size
        generalize wr.alloc (.cells #[.string po, .string pq, .pointer none, .int .i64 pn] 89) = w2 at *
        generalize wr.heap.size = pb at *
        clear hi d0 d1 d2 d3
        have e0 := hpb.cell 0 rfl
        have e1 := hpb.cell 1 rfl
        have s0 := hi2.st.cell 0 rfl
        have s1 := hi2.st.cell 1 rfl
        have fz := hi2.st.free 1
        clear hpb
        cases q
        · have HE2 : Hid (Bk R outs sz (some po :: rem T false (L :: LL.drop (k + 1)) (t + 1))) := by
            have := HBE.out
            rw [ev_plain HHR.out] at this
            exact this
          have hos : 1 ≤ (po).size ∧ (po).size ≤ 1048576 := HPP.out.2 HHR.out
          have hsl := HE2.out.2.1
          have hol := HE2.out.1
          by_cases hbig : 4194304 < sz + (po).size
          · have HD : Hid (R = (outs, sz + (po).size, false)) := by
              have := HE2.out.2.2
              rw [eat, if_pos hbig] at this
              exact this.symm
            have hi3 : EInv w (w2.setCell ⟨w.heap.size, 1, none⟩ (.int .i64 ((sz : Int) + (po).size))) (.slice ao outs.length co) outs (sz + (po).size) := hi2.setSize (sz + (po).size)
            go_wp2_with fail
            go_ret
            rw [HD.out]
            exact ⟨rfl, _, hi3, by dsimp only; omega, by dsimp only; omega, fun h => by cases h⟩
          · have HX : Hid (Bk R (outs ++ [po]) (sz + (po).size) (rem T false (L :: LL.drop (k + 1)) (t + 1))) := by
              have := HE2.out.2.2
              rw [eat, if_neg hbig] at this
              exact ⟨by simp; omega, by omega, this⟩
            have hi3 : EInv w (w2.setCell ⟨w.heap.size, 1, none⟩ (.int .i64 ((sz : Int) + (po).size))) (.slice ao outs.length co) outs (sz + (po).size) := hi2.setSize (sz + (po).size)
            clear HE2 HBE HPP HHR
            go_upto_region 16 with fail
            generalize w2.setCell ⟨w.heap.size, 1, none⟩ (.int .i64 ((sz : Int) + (po).size)) = w3 at *
            clear hi2 s0 s1 fz e0 e1
            have s0 := hi3.st.cell 0 rfl
            have hw3 := hi3.size
            go_wp2_with (at_builtin; refine wpList_append_own_at _ rfl (.tmp 61) (.tmp 63) 22 rfl (w.heap.size + 1) 9 i9 (.string ⟨#[]⟩) 1 16 Try.underlying22 hi9 hz0 hz1 hz2 rfl (by decide) _ _ _ rfl (hi3.own.alloc _) _ 1 1 [.string po] rfl rfl (cell_one_new _ _ _) (one9 _) (by unfold maxLen; omega) (by omega) (by simp; omega) ?_; intro v' w7 hown7 hgrow hnil hloc; have hst7 := hi3.mid hgrow; have s7 := hst7.cell 0 rfl; have f7 := hst7.free 0; obtain ⟨a7, c7, rfl⟩ := row_shape hown7)
            have hi7 := hi3.out hown7 hgrow
            clear hown7 hgrow hloc hnil hi3 hst7 s7 f7 s0
            go_wp2_with fail
            go_roundw
            case rel => exact ⟨t + 1, _, _, _, by go_num, by omega, hi7, HX⟩
            case measure => simp [intOf]; omega
        · have HE2 : Hid (Bk R outs sz (some pq :: rem T true (L :: LL.drop (k + 1)) (t + 1))) := by
            have := HBE.out
            rw [ev_plain HHR.out] at this
            exact this
          have hos : 1 ≤ (pq).size ∧ (pq).size ≤ 1048576 := HPP.out.2 HHR.out
          have hsl := HE2.out.2.1
          have hol := HE2.out.1
          by_cases hbig : 4194304 < sz + (pq).size
          · have HD : Hid (R = (outs, sz + (pq).size, false)) := by
              have := HE2.out.2.2
              rw [eat, if_pos hbig] at this
              exact this.symm
            have hi3 : EInv w (w2.setCell ⟨w.heap.size, 1, none⟩ (.int .i64 ((sz : Int) + (pq).size))) (.slice ao outs.length co) outs (sz + (pq).size) := hi2.setSize (sz + (pq).size)
            go_wp2_with fail
            go_ret
            rw [HD.out]
            exact ⟨rfl, _, hi3, by dsimp only; omega, by dsimp only; omega, fun h => by cases h⟩
          · have HX : Hid (Bk R (outs ++ [pq]) (sz + (pq).size) (rem T true (L :: LL.drop (k + 1)) (t + 1))) := by
              have := HE2.out.2.2
              rw [eat, if_neg hbig] at this
              exact ⟨by simp; omega, by omega, this⟩
            have hi3 : EInv w (w2.setCell ⟨w.heap.size, 1, none⟩ (.int .i64 ((sz : Int) + (pq).size))) (.slice ao outs.length co) outs (sz + (pq).size) := hi2.setSize (sz + (pq).size)
            clear HE2 HBE HPP HHR
            go_upto_region 16 with fail
            generalize w2.setCell ⟨w.heap.size, 1, none⟩ (.int .i64 ((sz : Int) + (pq).size)) = w3 at *
            clear hi2 s0 s1 fz e0 e1
            have s0 := hi3.st.cell 0 rfl
            have hw3 := hi3.size
            go_wp2_with (at_builtin; refine wpList_append_own_at _ rfl (.tmp 61) (.tmp 63) 22 rfl (w.heap.size + 1) 9 i9 (.string ⟨#[]⟩) 1 16 Try.underlying22 hi9 hz0 hz1 hz2 rfl (by decide) _ _ _ rfl (hi3.own.alloc _) _ 1 1 [.string pq] rfl rfl (cell_one_new _ _ _) (one9 _) (by unfold maxLen; omega) (by omega) (by simp; omega) ?_; intro v' w7 hown7 hgrow hnil hloc; have hst7 := hi3.mid hgrow; have s7 := hst7.cell 0 rfl; have f7 := hst7.free 0; obtain ⟨a7, c7, rfl⟩ := row_shape hown7)
            have hi7 := hi3.out hown7 hgrow
            clear hown7 hgrow hloc hnil hi3 hst7 s7 f7 s0
            go_wp2_with fail
            go_roundw
            case rel => exact ⟨t + 1, _, _, _, by go_num, by omega, hi7, HX⟩
            case measure => simp [intOf]; omega
      · have HHR : Hid (hasR T.length ⟨po, pq, pr, pn⟩ = true) := hr
        obtain ⟨hr0, hr1⟩ := hasR_iff.1 hr
        dsimp only at hr0 hr1
        obtain ⟨D, rfl⟩ : ∃ D : Nat, pr = D := ⟨pr.toNat, by omega⟩
        have hpt : ptrOf T.length P ⟨po, pq, D, pn⟩ = some ⟨P D, 0, none⟩ := by unfold ptrOf; rw [hr]; rfl
        rw [hpt] at d2
        clear hr hpt
        have hDN : D < T.length := by omega
        obtain ⟨k1, k2, k3⟩ := HPP.out.1 HHR.out
        dsimp only [Int.toNat_natCast] at k1 k2
        obtain ⟨N, rfl⟩ : ∃ N : Nat, pn = N := ⟨pn.toNat, by omega⟩
        obtain ⟨f', rfl⟩ : ∃ f', f = f' + 1 := by
          unfold rankOf at k3
          rw [if_pos HHR.out] at k3
          exact ⟨f - 1, by omega⟩
        have HSL : Hid (LOK T true f' (linesOf T ⟨po, pq, D, N⟩)) := sub_lok HW.out.1 HW.out.2.1 HPP.out HHR.out
        have HLI : Hid (linesOf T ⟨po, pq, D, N⟩ = (T.getD D []).take N) := rfl
        have HEV : Hid (Bk R outs sz (none :: (evLines T true (linesOf T ⟨po, pq, D, N⟩) ++ rem T q (L :: LL.drop (k + 1)) (t + 1)))) := by
          have := HBE.out
          rw [ev_ref HW.out.1 HW.out.2.1 (fun h => ⟨by dsimp only; omega, k2⟩) HHR.out] at this
          exact this
        clear HBE HPP k3
        obtain ⟨hPD, vD, hcD, hlD⟩ := HW.out.2.2 D hDN
        obtain ⟨aD, nD, cD, rfl⟩ := lns_val hlD
        have HLT : Hid (LnsAt (bc T.length P) w (· < w.heap.size) (.slice aD N cD) (linesOf T ⟨po, pq, D, N⟩)) := by
          rw [HLI.out]; exact lns_take hlD (by omega) (by omega)
        have hND : N ≤ nD ∧ nD ≤ cD ∧ nD ≤ 1048576 := by
          obtain ⟨a', c', V', e, h2, h3, _⟩ := hlD
          cases e
          exact ⟨by omega, h2, len_fit HW.out.2.1 D⟩
        have haD : ∃ bD oD, aD = some ⟨bD, oD, none⟩ := by
          obtain ⟨a', c', V', e, h2, h3, h4, _⟩ := hlD
          cases e
          obtain ⟨b, o, h, _⟩ := h4 (by omega)
          exact ⟨b, o, h⟩
        obtain ⟨bD, oD, rfl⟩ := haD
        clear hlD
        go_upto_region 8 with fail
        have hpb : BlockAt (wr.alloc (.cells #[.string po, .string pq, .pointer (some ⟨P D, 0, none⟩), .int .i64 N] 89)) wr.heap.size 89 [.string po, .string pq, .pointer (some ⟨P D, 0, none⟩), .int .i64 N] := heap_alloc_new wr _
        have hi2 := hi.alloc (.cells #[.string po, .string pq, .pointer (some ⟨P D, 0, none⟩), .int .i64 N] 89)
        have hcD2 := (hi2.below.cell (p := ⟨P D, 0, none⟩) hPD).trans hcD
        generalize wr.alloc (.cells #[.string po, .string pq, .pointer (some ⟨P D, 0, none⟩), .int .i64 N] 89) = w2 at *
        generalize wr.heap.size = pb at *
        clear hi d0 d1 d2 d3 hcD
        have e2 := hpb.cell 2 rfl
        have e3 := hpb.cell 3 rfl
        clear hpb
        obtain ⟨⟨outs1, sz1, ok1⟩, hR1⟩ : ∃ R1, R1 = eat outs sz (evLines T true (linesOf T ⟨po, pq, D, N⟩)) := ⟨_, rfl⟩
        have HCALL : Hid (Calls Try.prog 40 #[.pointer (some ⟨w.heap.size, 0, none⟩), .slice (some ⟨bD, oD, none⟩) N cD, .bool true] w2.drew fun e w' => AddRes w (outs1, sz1, ok1) e w') := by
          rw [hR1]
          exact HIH.out f' (Nat.lt_succ_self _) _ _ _ _ _ _ _ HSL.out HLT.out hi2.drew HEV.out.1 HEV.out.2.1
        have HRR : Hid (if ok1 = true then eat outs1 sz1 (rem T q (L :: LL.drop (k + 1)) (t + 1)) = R else R = (outs1, sz1, ok1)) := by
          have := HEV.out.2.2
          rw [eat, eat_append, ← hR1] at this
          dsimp only at this
          show if ok1 = true then _ else _
          split
          · rename_i h; rw [if_pos h] at this; exact this
          · rename_i h; rw [if_neg h] at this; exact this.symm
        clear hR1 HEV HSL HLI HLT
        go_region_with (go_at_call 40; refine HCALL.out.mono ?_; rintro e w5 ⟨rfl, vo5, hi5, h51, h52, h53⟩)
        all_goals (
          cases ok1
          · have HD : Hid (R = (outs1, sz1, false)) := by
              have := HRR.out
              rw [if_neg (by decide)] at this
              exact this
            clear HRR HCALL
            go_wp2_with fail
            go_ret
            rw [HD.out]
            exact ⟨rfl, _, hi5, h51, h52, fun h => by cases h⟩
          · have HX : Hid (Bk R outs1 sz1 (rem T q (L :: LL.drop (k + 1)) (t + 1))) := by
              have := HRR.out
              rw [if_pos rfl] at this
              exact ⟨h52, h53 rfl, this⟩
            clear HRR HCALL
            go_wp2_with fail
            go_roundw
            case rel => exact ⟨t + 1, _, _, _, by go_num, by omega, hi5, HX⟩
            case measure => simp [intOf]; omega)

theorem add_all (w : World) (T : Tab) (P : Nat → Nat) (hw : WF T) (hf : TabFit T) (htb : TblAt w (· < w.heap.size) T.length P T) (f : Nat) : AddOK w T P f := by
  induction f using Nat.strongRecOn with
  | ind f ih => exact add_step w T P f hw hf htb ih

def ZAddRes (R : List ByteArray × Nat × Bool) (w : World) (e : Ending) (w' : World) : Prop :=
  Below w.heap.size w w' ∧ ∃ v, e = .returned (.tuple #[v, .int .i64 R.2.1, .bool R.2.2]) ∧ w'.ownsRow w.heap.size 9 1 v R.1.length (R.1.map Value.string) ∧ R.1.length ≤ 4194304 ∧ (R.1 = [] → v = .slice none 0 0)

theorem ownsRow_mono {w : World} {base base' : Nat} {e : TypeId} {size : Nat} {v : Value} {n : Nat} {xs : List Value} (h : w.ownsRow base e size v n xs) (hb : base' ≤ base) : w.ownsRow base' e size v n xs := by
  obtain ⟨h1, h2⟩ := h
  refine ⟨h1, ?_⟩
  rcases h2 with h2 | ⟨g, cap, cur, rfl, hg, q⟩
  · exact .inl h2
  · exact .inr ⟨g, cap, cur, rfl, by omega, q⟩

set_option maxRecDepth 100000 in
set_option maxHeartbeats 1000000 in
theorem zadd_any (v : Value) (LL : List (List SP)) (w : World) (T : Tab) (P : Nat → Nat) (f : Nat) (hw : WF T) (hf : TabFit T) (htb : TblAt w (· < w.heap.size) T.length P T) (hlok : LOK T false f LL) (hv : LnsAt (bc T.length P) w (· < w.heap.size) v LL) :
    Calls Try.prog 24 #[.slice none 0 0, .int .i64 0, v, .bool false] w fun e w' => ZAddRes (eat [] 0 (evLines T false LL)) w e w' := by
  obtain ⟨a, n, c, rfl⟩ := lns_val hv
  have HC : Hid (∀ w1, EInv w w1 (.slice none 0 0) [] 0 → Calls Try.prog 40 #[.pointer (some ⟨w.heap.size, 0, none⟩), .slice a n c, .bool false] w1 fun e w' => AddRes w (eat [] 0 (evLines T false LL)) e w') :=
    fun w1 hi => add_all w T P hw hf htb f LL false _ _ [] 0 w1 hlok hv hi (Nat.le_refl _) (by decide)
  clear hv hlok htb hw hf
  generalize eat [] 0 (evLines T false LL) = R at *
  obtain ⟨outs, sz, ok⟩ := R
  go_enter Try.func24, Try.ntmps24
  go_wp2_with fail
  have hi : EInv w (w.alloc (.cells #[.slice none 0 0, .int .i64 0] 73)) (.slice none 0 0) [] 0 :=
    ⟨(Below.refl _ _).alloc (Nat.le_refl _) _, heap_alloc_new w _, World.ownsRow_nil _ _ _ _, fun _ => rfl⟩
  generalize w.alloc (.cells #[.slice none 0 0, .int .i64 0] 73) = w1 at *
  refine (HC.out w1 hi).mono ?_
  rintro e w2 ⟨rfl, vo, hi2, h1, h2, h3⟩
  clear hi HC
  dsimp only at hi2 h1 h2 h3
  have s0 := hi2.st.cell 0 rfl
  have s1 := hi2.st.cell 1 rfl
  obtain ⟨ao, co, hvo⟩ := hi2.shape
  subst hvo
  go_wp2_with fail
  go_quiet (fail)
  go_wp2_with fail
  refine bodyPost_ret (results_tmp3 rfl _ _ _) rfl ?_
  exact ⟨below_drewN hi2.below _, _, rfl, ownsRow_mono (hi2.drewN _).own (Nat.le_succ _), h1, hi2.nl⟩
end Go.Proofs.Qxb6603470a
