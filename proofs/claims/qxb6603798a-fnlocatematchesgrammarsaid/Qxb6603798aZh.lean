/-
  THE HEAP of ZZLocate (10).
-/
import Derived.Test.Qxb6603798aLoc
import Derived.Test.Qxb6603798aState

namespace Go.Proofs.Qxb6603798a
open Go.RowKit
set_option linter.unusedVariables false
set_option linter.unusedSimpArgs false

/-! ### plain: the levels' names are in the text -/
def LvOK (n : Nat) (l : Js.Lv) : Prop := l.ns = -1 ∨ (0 ≤ l.ns ∧ l.ns < l.ne ∧ l.ne ≤ n)
theorem step_ok {zs : List Int} {n : Nat} {s s' : List Js.Lv × Bool} {t : Js.Tok} (hg : Js.G zs n t) (h : ∀ l ∈ s.1, LvOK n l) (hs : Js.step zs s t = some s') : ∀ l ∈ s'.1, LvOK n l := by
  obtain ⟨g1, g2, _⟩ := hg
  obtain ⟨s1, b⟩ := s
  unfold Js.step at hs
  by_cases k0 : t.k = 0
  · rw [if_pos k0] at hs
    cases b
    · have := Option.some.inj hs
      subst this
      intro l hl
      rcases List.mem_cons.1 hl with rfl | hl
      · exact .inl rfl
      · exact h l hl
    · cases hs
  rw [if_neg k0] at hs
  by_cases k1 : t.k = 1
  · rw [if_pos k1] at hs
    cases s1 with
    | nil => cases hs
    | cons l r =>
      have := Option.some.inj hs
      subst this
      exact fun l' hl => h l' (List.mem_cons_of_mem _ hl)
  rw [if_neg k1] at hs
  by_cases k2 : t.k = 2
  · rw [if_pos k2] at hs
    cases s1 with
    | nil => cases hs
    | cons l r =>
      have := Option.some.inj hs
      subst this
      intro l' hl
      rcases List.mem_cons.1 hl with rfl | hl
      · exact h l (List.mem_cons_self ..)
      · exact h l' (List.mem_cons_of_mem _ hl)
  rw [if_neg k2] at hs
  by_cases k3 : t.k = 3
  · rw [if_pos k3] at hs
    have := Option.some.inj hs
    subst this; exact h
  rw [if_neg k3] at hs
  by_cases k4 : t.k = 4
  · rw [if_pos k4] at hs
    cases s1 with
    | nil => cases hs
    | cons l r =>
      cases b
      · cases hs
      · have := Option.some.inj hs
        subst this
        intro l' hl
        rcases List.mem_cons.1 hl with rfl | hl
        · exact .inr ⟨by simp, by simp; omega, by simp; omega⟩
        · exact h l' (List.mem_cons_of_mem _ hl)
  rw [if_neg k4] at hs
  cases b
  · have := Option.some.inj hs
    subst this; exact h
  · cases hs
theorem rep_ok {zs : List Int} {n : Nat} {off : Int} : ∀ (T : List Js.Tok) (s : List Js.Lv × Bool) (m : Js.Ms), (∀ t ∈ T, Js.G zs n t) → (∀ l ∈ s.1, LvOK n l) → Js.rep zs off s T = some m → ∀ l ∈ m.path, LvOK n l
  | [], s, m, _, _, h => by cases h
  | t :: T, s, m, hg, hl, h => by
    unfold Js.rep at h
    cases hs : Js.step zs s t with
    | none => rw [hs] at h; cases h
    | some s' =>
      rw [hs] at h
      have hl' := step_ok (hg t (List.mem_cons_self ..)) hl hs
      have ih := rep_ok (off := off) T s' m (fun u hu => hg u (List.mem_cons_of_mem _ hu)) hl'
      cases hr : Js.repT off s s' t with
      | none => simp only [hr, Option.none_or] at h; exact ih h
      | some m' =>
        simp only [hr, Option.some_or] at h
        cases h
        unfold Js.repT at hr
        split at hr
        · split at hr
          · cases hr; exact hl
          · cases hr
        · split at hr
          · split at hr
            · cases hr; exact hl'
            · cases hr
          · split at hr
            · split at hr
              · cases hr; exact hl
              · cases hr
            · cases hr
theorem lvs_get (db cap : Nat) : ∀ (s : List Js.Lv) (k i : Nat) (l : Js.Lv), s.reverse[k]? = some l → i < 5 → (lvs db cap s false)[k * 5 + i]? = (lvC db cap l false)[i]?
  | [], k, i, l, h, _ => by simp at h
  | l0 :: r, k, i, l, h, hi => by
    simp only [lvs]
    rw [List.reverse_cons] at h
    by_cases hk : k < r.length
    · rw [List.getElem?_append_left (by rw [lvs_len]; omega)]
      rw [List.getElem?_append_left (by simpa using hk)] at h
      exact lvs_get db cap r k i l h hi
    · have hlt := (List.getElem?_eq_some_iff.1 h).1
      simp at hlt
      obtain rfl : k = r.length := by omega
      rw [List.getElem?_append_right (by simp)] at h
      simp at h
      subst h
      rw [List.getElem?_append_right (by rw [lvs_len]; omega), lvs_len, Nat.add_sub_cancel_left]

/-! ### the heap -/
def nL (db cap : Nat) (l : List Js.Lv) : List Value := l.reverse.map (nmV db cap)
def fL (l : List Js.Lv) : List Value := l.reverse.map fun _ => .bool false
structure ZInv (w wr : World) (rows : List Row) : Prop where
  below : Below w.heap.size w wr
  own : Own wr w.heap.size rows
  size : w.heap.size ≤ wr.heap.size
section
variable {w wr w1 : World} {rows pre post : List Row} {v v' x : Value} {e : TypeId} {xs : List Value}
theorem ZInv.lit (h : ZInv w wr rows) (cs : List Value) (e : TypeId) (n : Nat) (hn : cs.length = n) (hm : n ≤ maxLen) : ZInv w (wr.alloc (.cells cs.toArray e)) (rows ++ [(.slice (some ⟨wr.heap.size, 0, none⟩) n n, e, cs)]) := by
  refine ⟨h.below.alloc h.size _, ⟨?_, ?_⟩, by have := h.size; simp; omega⟩
  · intro r hr
    rcases List.mem_append.1 hr with hr | hr
    · exact (h.own.1 r hr).alloc _
    · obtain rfl : r = _ := by simpa using hr
      have := World.ownsRow_lit (base := w.heap.size) (e := e) (size := 1) wr cs.toArray n h.size hm (by simp [hn])
      simpa [hn] using this
  · rw [List.pairwise_append]
    refine ⟨h.own.2, by simp, ?_⟩
    intro a ha b hb
    obtain rfl : b = _ := by simpa using hb
    intro k hk hk2
    have := ((h.own.1 a ha).lt k hk).2
    simp [Value.ownBlock] at hk2
    omega
theorem ZInv.cut (h : ZInv w wr (rows ++ post)) : ZInv w wr rows :=
  ⟨h.below, ⟨fun r hr => h.own.1 r (List.mem_append.2 (.inl hr)), (List.pairwise_append.1 h.own.2).1⟩, h.size⟩
theorem ZInv.app (h : ZInv w wr (pre ++ (v, e, xs) :: post)) {o : Obj} (hown : w1.ownsRow w.heap.size e 1 v' (xs.length + 1) (xs ++ [x])) (hg : (wr.alloc o).grownBy w1 v.ownBlock)
    (hat : v'.ownBlock = v.ownBlock ∨ v'.ownBlock = some (wr.alloc o).heap.size) : ZInv w w1 (pre ++ (v', e, xs ++ [x]) :: post) := by
  have ha : Own (wr.alloc o) w.heap.size (pre ++ (v, e, xs) :: post) := h.own.alloc o
  have hk := fun k hk => (h.own.mid.lt k hk).1
  refine ⟨(h.below.alloc h.size o).grown hg (by have := h.size; simp; omega) hk, ?_, by have := h.size; have := hg.size; simp at this; omega⟩
  refine ha.turn hg (r' := (v', e, xs ++ [x])) (by simpa using hown) ?_
  rcases hat with e | e
  · exact .inl e
  · exact .inr ⟨_, e, Nat.le_refl _⟩
end
theorem take_map_succ {α : Type} (f : α → Value) (P : List α) (k : Nat) (a : α) (h : P[k]? = some a) : (P.take k).map f ++ [f a] = (P.take (k + 1)).map f := by
  have hk := (List.getElem?_eq_some_iff.1 h).1
  rw [List.take_succ_eq_append_getElem hk, List.map_append]
  have : P[k] = a := by rw [List.getElem?_eq_getElem hk] at h; exact Option.some.inj h
  simp [this]
end Go.Proofs.Qxb6603798a
