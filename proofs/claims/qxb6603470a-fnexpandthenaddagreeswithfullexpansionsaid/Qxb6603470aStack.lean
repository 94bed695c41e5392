/-
  addModel's STACK: plain, and in the heap. No walk here.
-/
import Derived.Test.Qxb6603470aPlain
import Derived.Test.Qxb6603470aExp
import Derived.WalkSmall
namespace Go.Proofs.Qxb6603470a
open Go.RowKit
set_option linter.unusedVariables false
set_option linter.unusedSimpArgs false

/-- Where addModel stands in one list of lines. -/
structure Fr where
  d : Int
  n : Nat
  li : Nat
  pi : Nat
  q : Bool

section
variable {T : Tab} {top : List (List SP)}
def frLines (T : Tab) (top : List (List SP)) (f : Fr) : List (List SP) := if f.d < 0 then top else T.getD f.d.toNat []
def remF (T : Tab) (top : List (List SP)) (f : Fr) : List Ev := rem T f.q (((frLines T top f).take f.n).drop f.li) f.pi
def restS (T : Tab) (top : List (List SP)) (fs : List Fr) : List Ev := fs.flatMap (remF T top)
def rkF (T : Tab) (f : Fr) : Nat := if f.d < 0 then T.length * 1048577 + 1 else f.d.toNat * 1048577 + f.n
def FrOK (T : Tab) (top : List (List SP)) (f : Fr) : Prop :=
  (f.d = -1 ∧ f.q = false ∧ f.n = top.length) ∨ (0 ≤ f.d ∧ f.d < T.length ∧ f.q = true ∧ f.n ≤ (T.getD f.d.toNat []).length)
def Dp (T : Tab) : List Fr → Prop
  | [] => True
  | f :: r => rkF T f + r.length ≤ T.length * 1048577 + 1 ∧ Dp T r
/-- The pieces of the top lines. -/
def TopOK (T : Tab) (top : List (List SP)) : Prop := ∀ L ∈ top, ∀ p ∈ L, PcOK T p ∧ (hasR T.length p = false → 1 ≤ p.o.size ∧ p.o.size ≤ 1048576)

structure AOK (T : Tab) (top : List (List SP)) (R : List ByteArray × Nat × Bool) (outs : List ByteArray) (sz : Nat) (fs : List Fr) : Prop where
  ok : ∀ f ∈ fs, FrOK T top f
  dp : Dp T fs
  len : outs.length ≤ sz
  lim : sz ≤ 4194304
  eq : eat outs sz (restS T top fs) = R

theorem restS_cons (f : Fr) (r : List Fr) : restS T top (f :: r) = remF T top f ++ restS T top r := by unfold restS; rw [List.flatMap_cons]
theorem frLines_len {f : Fr} (h : FrOK T top f) : f.n ≤ (frLines T top f).length := by
  unfold frLines
  rcases h with ⟨h1, _, h3⟩ | ⟨h1, _, _, h4⟩
  · rw [if_pos (by omega)]; omega
  · rw [if_neg (by omega)]; exact h4

/-- The line that the frame stands in. -/
def lineF (T : Tab) (top : List (List SP)) (f : Fr) : List SP := (frLines T top f).getD f.li []
theorem drop_line {f : Fr} (h : FrOK T top f) (hl : f.li < f.n) : ((frLines T top f).take f.n).drop f.li = lineF T top f :: ((frLines T top f).take f.n).drop (f.li + 1) := by
  have hn := frLines_len h
  rw [drop_cons (d := []) (by rw [List.length_take]; omega)]
  congr 1
  unfold lineF
  rw [List.getD_eq_getElem?_getD, List.getD_eq_getElem?_getD, List.getElem?_take, if_pos hl]

/-- A frame that is through. -/
theorem AOK.pop {R : List ByteArray × Nat × Bool} {outs : List ByteArray} {sz : Nat} {f : Fr} {r : List Fr} (h : AOK T top R outs sz (f :: r)) (hl : f.n ≤ f.li) :
    AOK T top R outs sz r ∧ (restS T top (f :: r)).length = (restS T top r).length + 1 := by
  have e : restS T top (f :: r) = none :: restS T top r := by
    rw [restS_cons]
    unfold remF
    rw [List.drop_of_length_le (by rw [List.length_take]; omega)]
    rfl
  refine ⟨⟨fun g hg => h.ok g (List.mem_cons_of_mem _ hg), h.dp.2, h.len, h.lim, ?_⟩, by rw [e]; rfl⟩
  have := h.eq
  rw [e] at this
  exact this

/-- To the next line. -/
theorem AOK.next {R : List ByteArray × Nat × Bool} {outs : List ByteArray} {sz : Nat} {f : Fr} {r : List Fr} (h : AOK T top R outs sz (f :: r)) (hl : f.li < f.n) (hp : (lineF T top f).length ≤ f.pi) :
    AOK T top R outs sz ({ f with li := f.li + 1, pi := 0 } :: r) ∧ (restS T top (f :: r)).length = (restS T top ({ f with li := f.li + 1, pi := 0 } :: r)).length + 1 := by
  have hf := h.ok f (List.mem_cons_self ..)
  have e : restS T top (f :: r) = none :: restS T top ({ f with li := f.li + 1, pi := 0 } :: r) := by
    rw [restS_cons, restS_cons]
    unfold remF
    rw [drop_line hf hl, rem_next _ _ hp]
    rfl
  refine ⟨⟨fun g hg => ?_, h.dp, h.len, h.lim, ?_⟩, by rw [e]; rfl⟩
  · rcases List.mem_cons.1 hg with rfl | hg
    · exact hf
    · exact h.ok g (List.mem_cons_of_mem _ hg)
  · have := h.eq
    rw [e] at this
    exact this

/-- What is known of the piece that is read. -/
theorem piece_ok (hw : WF T) (hf : TabFit T) (ht : TopOK T top) {f : Fr} (h : FrOK T top f) (hl : f.li < f.n) (hp : f.pi < (lineF T top f).length) :
    PcOK T ((lineF T top f).getD f.pi default) ∧ (hasR T.length ((lineF T top f).getD f.pi default) = true → rankOf T.length ((lineF T top f).getD f.pi default) ≤ rkF T f) ∧
      (hasR T.length ((lineF T top f).getD f.pi default) = false → 1 ≤ (if f.q then ((lineF T top f).getD f.pi default).q else ((lineF T top f).getD f.pi default).o).size ∧ (if f.q then ((lineF T top f).getD f.pi default).q else ((lineF T top f).getD f.pi default).o).size ≤ 1048576) := by
  have hm : (lineF T top f).getD f.pi default ∈ lineF T top f := by
    rw [List.getD_eq_getElem?_getD, List.getElem?_eq_getElem hp]; exact List.getElem_mem _
  have hlen := frLines_len h
  generalize hpe : (lineF T top f).getD f.pi default = p at *
  rcases h with ⟨h1, h2, h3⟩ | ⟨h1, h2, h3, h4⟩
  · have hml : lineF T top f ∈ top := by
      have hx : frLines T top f = top := by unfold frLines; rw [if_pos (by omega)]
      unfold lineF
      rw [hx] at hlen ⊢
      rw [List.getD_eq_getElem?_getD, List.getElem?_eq_getElem (by omega)]; exact List.getElem_mem _
    obtain ⟨a, b⟩ := ht _ hml p hm
    refine ⟨a, fun hr => ?_, fun hr => ?_⟩
    · have := rank_le hf a
      unfold rkF
      rw [if_pos (by omega)]
      unfold fuelOf at this
      exact this
    · rw [h2]; exact b hr
  · have hx : frLines T top f = T.getD f.d.toNat [] := by unfold frLines; rw [if_neg (by omega)]
    have hd : f.d.toNat < T.length := by omega
    have hlw := hw f.d.toNat hd f.li (by rw [hx] at hlen; omega)
    have hlf := (hf.2 f.d.toNat hd).2 f.li (by rw [hx] at hlen; omega)
    have hle : (T.getD f.d.toNat []).getD f.li [] = lineF T top f := by unfold lineF; rw [hx]
    rw [hle] at hlw hlf
    have hpk := hlw.2 f.pi hp
    have hpf := hlf.2 f.pi hp
    rw [hpe] at hpk hpf
    refine ⟨fun hr => ⟨by have := (hpk.2 hr).1; omega, (hpk.2 hr).2.1⟩, fun hr => ?_, fun hr => ?_⟩
    · obtain ⟨q1, q2, q3, q4⟩ := hpk.2 hr
      obtain ⟨s0, s1⟩ := hasR_iff.1 hr
      unfold rankOf rkF
      rw [if_pos hr, if_neg (by omega)]
      have hl2 := len_fit hf p.r.toNat
      by_cases e : p.r = f.d
      · have := q4 (by omega); rw [e]; omega
      · have : p.r.toNat + 1 ≤ f.d.toNat := by omega
        have := Nat.mul_le_mul_right 1048577 this
        omega
    · rw [h3]
      exact ⟨by have := hpk.1 hr; simp only [if_true]; omega, by simp only [if_true]; exact hpf.2⟩

/-- A piece that names lines: they are pushed. -/
theorem AOK.push (hw : WF T) (hf : TabFit T) (ht : TopOK T top) {R : List ByteArray × Nat × Bool} {outs : List ByteArray} {sz : Nat} {f : Fr} {r : List Fr} (h : AOK T top R outs sz (f :: r)) (hl : f.li < f.n) (hp : f.pi < (lineF T top f).length)
    (hr : hasR T.length ((lineF T top f).getD f.pi default) = true) {n : Nat} (hn : ((lineF T top f).getD f.pi default).n = n) :
    AOK T top R outs sz (⟨((lineF T top f).getD f.pi default).r, n, 0, 0, true⟩ :: { f with pi := f.pi + 1 } :: r) ∧
      (restS T top (f :: r)).length = (restS T top (⟨((lineF T top f).getD f.pi default).r, n, 0, 0, true⟩ :: { f with pi := f.pi + 1 } :: r)).length + 1 := by
  have hfo := h.ok f (List.mem_cons_self ..)
  obtain ⟨p1, p2, _⟩ := piece_ok hw hf ht hfo hl hp
  have hrk := p2 hr
  have hpn := p1 hr
  obtain ⟨s0, s1⟩ := hasR_iff.1 hr
  have e : restS T top (f :: r) = none :: restS T top (⟨((lineF T top f).getD f.pi default).r, n, 0, 0, true⟩ :: { f with pi := f.pi + 1 } :: r) := by
    rw [restS_cons, restS_cons, restS_cons]
    unfold remF
    rw [drop_line hfo hl, rem_piece _ _ hp, ev_ref hw hf p1 hr]
    dsimp only
    have e2 : frLines T top ⟨((lineF T top f).getD f.pi default).r, n, 0, 0, true⟩ = T.getD ((lineF T top f).getD f.pi default).r.toNat [] := by unfold frLines; rw [if_neg (by dsimp only; omega)]
    rw [e2, List.drop_zero, rem_zero]
    have e3 : linesOf T ((lineF T top f).getD f.pi default) = (T.getD ((lineF T top f).getD f.pi default).r.toNat []).take n := by unfold linesOf; rw [hn]; rfl
    rw [e3]
    have e4 : ((frLines T top { f with pi := f.pi + 1 }).take f.n).drop f.li = lineF T top f :: ((frLines T top f).take f.n).drop (f.li + 1) := drop_line hfo hl
    rw [e4]
    simp
  refine ⟨⟨fun g hg => ?_, ⟨?_, h.dp⟩, h.len, h.lim, ?_⟩, by rw [e]; rfl⟩
  · rcases List.mem_cons.1 hg with rfl | hg
    · exact .inr ⟨s0, s1, rfl, by dsimp only; omega⟩
    · rcases List.mem_cons.1 hg with rfl | hg
      · exact hfo
      · exact h.ok g (List.mem_cons_of_mem _ hg)
  · have hd := h.dp.1
    unfold rankOf at hrk
    rw [if_pos hr] at hrk
    have : rkF T ⟨((lineF T top f).getD f.pi default).r, n, 0, 0, true⟩ = ((lineF T top f).getD f.pi default).r.toNat * 1048577 + n := by unfold rkF; rw [if_neg (by dsimp only; omega)]
    rw [this]
    simp only [List.length_cons]
    have h5 : ((lineF T top f).getD f.pi default).n.toNat = n := by rw [hn]; rfl
    rw [h5] at hrk
    exact (fun (A n' B C l : Nat) (h1 : A + n' + 1 ≤ B) (h2 : B + l ≤ C) => show A + n' + (l + 1) ≤ C by omega) _ _ _ _ _ hrk hd
  · have := h.eq
    rw [e] at this
    exact this

/-- An option: it is put, or it is too much. -/
theorem AOK.emit (hw : WF T) (hf : TabFit T) (ht : TopOK T top) {R : List ByteArray × Nat × Bool} {outs : List ByteArray} {sz : Nat} {f : Fr} {r : List Fr} (h : AOK T top R outs sz (f :: r)) (hl : f.li < f.n) (hp : f.pi < (lineF T top f).length)
    (hr : hasR T.length ((lineF T top f).getD f.pi default) = false) {opt : ByteArray} (ho : (if f.q then ((lineF T top f).getD f.pi default).q else ((lineF T top f).getD f.pi default).o) = opt) :
    opt.size ≤ 1048576 ∧ (4194304 < sz + opt.size → R = (outs, sz + opt.size, false)) ∧
    (¬ 4194304 < sz + opt.size → AOK T top R (outs ++ [opt]) (sz + opt.size) ({ f with pi := f.pi + 1 } :: r)) ∧ (restS T top (f :: r)).length = (restS T top ({ f with pi := f.pi + 1 } :: r)).length + 1 := by
  have hfo := h.ok f (List.mem_cons_self ..)
  obtain ⟨p1, _, p3⟩ := piece_ok hw hf ht hfo hl hp
  obtain ⟨z1, z2⟩ := p3 hr
  rw [ho] at z1 z2
  have e : restS T top (f :: r) = some opt :: restS T top ({ f with pi := f.pi + 1 } :: r) := by
    rw [restS_cons, restS_cons]
    unfold remF
    rw [drop_line hfo hl, rem_piece _ _ hp, ev_plain hr, ho]
    have e4 : ((frLines T top { f with pi := f.pi + 1 }).take f.n).drop f.li = lineF T top f :: ((frLines T top f).take f.n).drop (f.li + 1) := drop_line hfo hl
    dsimp only
    rw [e4]
    simp
  have he := h.eq
  rw [e, eat] at he
  refine ⟨z2, fun hc => by rw [if_pos hc] at he; exact he.symm, fun hc => ?_, by rw [e]; rfl⟩
  rw [if_neg hc] at he
  refine ⟨fun g hg => ?_, h.dp, by have := h.len; simp; omega, by omega, he⟩
  rcases List.mem_cons.1 hg with rfl | hg
  · exact hfo
  · exact h.ok g (List.mem_cons_of_mem _ hg)
theorem AOK.done {R : List ByteArray × Nat × Bool} {outs : List ByteArray} {sz : Nat} (h : AOK T top R outs sz []) : R = (outs, sz, true) := h.eq.symm
theorem AOK.depth (hf : TabFit T) {R : List ByteArray × Nat × Bool} {outs : List ByteArray} {sz : Nat} {fs : List Fr} (h : AOK T top R outs sz fs) : fs.length ≤ 1099512676354 := by
  cases fs with
  | nil => simp
  | cons f r =>
    have := h.dp.1
    have h2 := Nat.mul_le_mul_right 1048577 hf.1
    simp only [List.length_cons]
    omega
end

/-! ### in the heap -/
def frC (f : Fr) : List Value := [.int .i64 f.d, .int .i64 f.n, .int .i64 f.li, .int .i64 f.pi, .bool f.q]
/-- The frames' cells, the bottom's first (the list's head is the top). -/
def frs : List Fr → List Value
  | [] => []
  | f :: r => frs r ++ frC f
theorem frs_len : ∀ fs : List Fr, (frs fs).length = fs.length * 5
  | [] => rfl
  | f :: r => by simp only [frs, List.length_append, frs_len r, List.length_cons]; simp [frC]; omega

structure AInv (w wr : World) (vo vs : Value) (outs : List ByteArray) (fs : List Fr) : Prop where
  below : Below w.heap.size w wr
  own : wr.ownsRow w.heap.size 9 1 vo outs.length (outs.map Value.string)
  stk : wr.ownsRow w.heap.size 66 5 vs fs.length (frs fs)
  apart : ∀ k, vo.ownBlock = some k → vs.ownBlock ≠ some k

section
variable {w wr w1 : World} {vo vs v' : Value} {outs : List ByteArray} {fs : List Fr}
theorem AInv.size (h : AInv w wr vo vs outs fs) : w.heap.size ≤ wr.heap.size := h.below.size
theorem AInv.alloc (h : AInv w wr vo vs outs fs) (o : Obj) : AInv w (wr.alloc o) vo vs outs fs := ⟨h.below.alloc h.size o, h.own.alloc o, h.stk.alloc o, h.apart⟩
/-- A world that parts in new blocks alone. -/
theorem AInv.moved (h : AInv w wr vo vs outs fs) (hb : Below wr.heap.size wr w1) : AInv w w1 vo vs outs fs :=
  ⟨h.below.trans (hb.mono h.size), ownsRow_same h.own (fun k hk => hb.block k (h.own.lt k hk).2), ownsRow_same h.stk (fun k hk => hb.block k (h.stk.lt k hk).2), h.apart⟩
theorem AInv.shape (h : AInv w wr vo vs outs fs) : ∃ a c, vs = .slice a fs.length c ∧ (0 < fs.length → ∃ g, a = some ⟨g, 0, none⟩ ∧ fs.length ≤ c) := by
  rcases h.stk.2 with ⟨rfl, h0⟩ | ⟨g, cap, cur, rfl, _, _, hn, _⟩
  · exact ⟨none, 0, by rw [h0], fun h => by omega⟩
  · exact ⟨_, cap, rfl, fun _ => ⟨g, rfl, hn⟩⟩
theorem AInv.shapeO (h : AInv w wr vo vs outs fs) : ∃ a c, vo = .slice a outs.length c := by
  rcases h.own.2 with ⟨rfl, h0⟩ | ⟨g, cap, cur, rfl, _, _, hn, _⟩
  · exact ⟨none, 0, by rw [h0]⟩
  · exact ⟨_, cap, rfl⟩
theorem AInv.out (h : AInv w wr vo vs outs fs) {o : Obj} {s : ByteArray} (hown : w1.ownsRow w.heap.size 9 1 v' (outs.length + 1) (outs.map Value.string ++ [.string s])) (hg : (wr.alloc o).grownBy w1 vo.ownBlock)
    (hat : v'.ownBlock = vo.ownBlock ∨ v'.ownBlock = some (wr.alloc o).heap.size) : AInv w w1 v' vs (outs ++ [s]) fs := by
  have ha := h.alloc o
  refine ⟨ha.below.grown hg ha.size (fun k hk => (h.own.lt k hk).1), by simpa using hown, ha.stk.kept hg ?_, fun k hk hs => ?_⟩
  · cases e : vs.ownBlock with
    | none => exact .inl rfl
    | some k => exact .inr (fun e2 => h.apart k e2.symm e)
  · rcases hat with e | e
    · exact h.apart k (e ▸ hk) hs
    · rw [e] at hk; cases hk
      have := (ha.stk.lt _ hs).2
      omega
theorem AInv.push (h : AInv w wr vo vs outs fs) {o : Obj} {f : Fr} (hown : w1.ownsRow w.heap.size 66 5 v' (fs.length + 1) (frs fs ++ frC f)) (hg : (wr.alloc o).grownBy w1 vs.ownBlock)
    (hat : v'.ownBlock = vs.ownBlock ∨ v'.ownBlock = some (wr.alloc o).heap.size) : AInv w w1 vo v' outs (f :: fs) := by
  have ha := h.alloc o
  refine ⟨ha.below.grown hg ha.size (fun k hk => (h.stk.lt k hk).1), ha.own.kept hg ?_, hown, fun k hk hs => ?_⟩
  · cases e : vo.ownBlock with
    | none => exact .inl rfl
    | some k => exact .inr (fun e2 => h.apart k e e2.symm)
  · rcases hat with e | e
    · exact h.apart k hk (e ▸ hs)
    · rw [e] at hs; cases hs
      have := (ha.own.lt _ hk).2
      omega
theorem AInv.pop {f : Fr} {g c m : Nat} (h : AInv w wr vo (.slice (some ⟨g, 0, none⟩) (m + 1) c) outs (f :: fs)) (hm : fs.length = m) : AInv w wr vo (.slice (some ⟨g, 0, none⟩) m c) outs fs := by
  have ho := h.stk
  simp only [List.length_cons, hm, frs] at ho
  have := ownsRow_pop (n := m) (xs := frs fs) (last := frC f) (by rw [frs_len, hm]) ho
  exact ⟨h.below, h.own, by rw [hm]; exact this, fun k hk hs => h.apart k hk hs⟩
theorem AInv.put {f f' : Fr} {g c m : Nat} (h : AInv w wr vo (.slice (some ⟨g, 0, none⟩) (m + 1) c) outs (f :: fs)) (hm : fs.length = m) (j : Nat) (u : Value) (hl : (frC f).set j u = frC f') :
    AInv w (wr.setCell ⟨g, m * 5 + j, none⟩ u) vo (.slice (some ⟨g, 0, none⟩) (m + 1) c) outs (f' :: fs) := by
  have ho := h.stk
  simp only [List.length_cons, hm] at ho
  have hs := ho.stored (m * 5 + j) u
  have hg := (ho.lt g rfl).1
  refine ⟨h.below.setCell (p := ⟨g, m * 5 + j, none⟩) (by show _ ≤ g; omega) u, ownsRow_same h.own (fun k hk => Below.heap_setCell _ _ _ _ (by show k ≠ g; intro e; subst e; exact h.apart k hk rfl)), ?_, h.apart⟩
  have h2 := hs.1
  simp only [frs] at h2 ⊢
  rw [List.set_append_right _ _ (by rw [frs_len, hm]; omega), frs_len, hm, Nat.add_sub_cancel_left, hl] at h2
  simp only [List.length_cons, hm]
  exact h2
theorem AInv.top {f : Fr} {g c m : Nat} (h : AInv w wr vo (.slice (some ⟨g, 0, none⟩) (m + 1) c) outs (f :: fs)) (hm : fs.length = m) (j : Nat) {u : Value} (hu : (frC f)[j]? = some u) :
    wr.cell? ⟨g, m * 5 + j, none⟩ = some u ∧ wr.frozen? ⟨g, m * 5 + j, none⟩ = false := by
  have ho := h.stk
  simp only [List.length_cons, hm] at ho
  have hj : j < 5 := by have := (List.getElem?_eq_some_iff.1 hu).1; simpa [frC] using this
  refine ⟨?_, ho.frozenAt _⟩
  rw [ho.cellAt (m * 5 + j) (by omega)]
  simp only [frs]
  rw [List.getElem?_append_right (by rw [frs_len, hm]; omega), frs_len, hm, Nat.add_sub_cancel_left, hu]
end
end Go.Proofs.Qxb6603470a
