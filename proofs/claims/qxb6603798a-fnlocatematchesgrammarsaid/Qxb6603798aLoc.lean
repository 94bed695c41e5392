/-
  THE HEAP of locate (15): the levels' row, the answer's block.
-/
import Derived.Test.Qxb6603798aHeap
import Derived.Test.Qxb6603798aEnd
import Derived.Test.Qxb6603798aRep
import Derived.Maps.AppendAt
namespace Go.Proofs.Qxb6603798a
open Go.RowKit
set_option linter.unusedVariables false
set_option linter.unusedSimpArgs false

def nmV (db cap : Nat) (l : Js.Lv) : Value := if l.ns < 0 then .slice none 0 0 else .slice (some ⟨db, l.ns.toNat, none⟩) (l.ne - l.ns).toNat (cap - l.ns.toNat)
def lvC (db cap : Nat) (l : Js.Lv) (b : Bool) : List Value := [.bool l.obj, .int .i64 l.st, .bool b, nmV db cap l, .int .i64 l.ix]
/-- The levels' cells, outermost first; the flag is the top's. -/
def lvs (db cap : Nat) : List Js.Lv → Bool → List Value
  | [], _ => []
  | l :: r, b => lvs db cap r false ++ lvC db cap l b
theorem lvs_len (db cap : Nat) : ∀ (s : List Js.Lv) (b : Bool), (lvs db cap s b).length = s.length * 5
  | [], _ => rfl
  | l :: r, b => by simp only [lvs, List.length_append, lvs_len db cap r false, List.length_cons]; simp [lvC]; omega
def zeros41 : List Value := [.slice none 0 0, .int .i64 0, .int .i64 0, .bool false]

structure LInv (w wr : World) (db cap : Nat) (v : Value) (s : List Js.Lv) (b : Bool) : Prop where
  below : Below w.heap.size w wr
  res : StructAt wr w.heap.size 41 zeros41
  own : wr.ownsRow (w.heap.size + 1) 45 5 v s.length (lvs db cap s b)
  size : w.heap.size + 1 ≤ wr.heap.size

theorem ownsRow_shape5 {w : World} {B : Nat} {e : TypeId} {v : Value} {n : Nat} {xs : List Value} (h : w.ownsRow B e 5 v n xs) : ∃ a c, v = .slice a n c ∧ (0 < n → ∃ g, a = some ⟨g, 0, none⟩ ∧ n ≤ c) := by
  rcases h.2 with ⟨rfl, rfl⟩ | ⟨g, cap, cur, rfl, _, _, hn, _⟩
  · exact ⟨none, 0, rfl, fun h => by omega⟩
  · exact ⟨_, cap, rfl, fun _ => ⟨g, rfl, hn⟩⟩

section
variable {w wr w1 : World} {db cap : Nat} {v v' : Value} {s : List Js.Lv} {b : Bool}
theorem LInv.doc (h : LInv w wr db cap v s b) {n : Nat} {zs : List Int} (hd : DocAt w db n zs) (hdb : db < w.heap.size) : DocAt wr db n zs := fun i hi =>
  (h.below.cell (p := ⟨db, i, none⟩) hdb).trans (hd i hi)
theorem LInv.alloc (h : LInv w wr db cap v s b) (o : Obj) : LInv w (wr.alloc o) db cap v s b :=
  ⟨h.below.alloc (by have := h.size; omega) o, h.res.of (Below.heap_alloc _ _ _ (by have := h.size; omega)), h.own.alloc o, by have := h.size; simp; omega⟩
theorem LInv.app (h : LInv w wr db cap v s b) {o : Obj} {l : Js.Lv} {c : Bool} (hb : b = false) (hown : w1.ownsRow (w.heap.size + 1) 45 5 v' (s.length + 1) (lvs db cap s b ++ lvC db cap l c)) (hg : (wr.alloc o).grownBy w1 v.ownBlock) :
    LInv w w1 db cap v' (l :: s) c := by
  have ha := h.alloc o
  have hk := fun k hk => (h.own.lt k hk).1
  subst hb
  refine ⟨ha.below.grown hg (by have := ha.size; omega) (fun k e => by have := hk k e; omega), ha.res.of (hg.block _ (by have := ha.size; omega) (fun e => by have := hk _ e.symm; omega)), hown, by have := ha.size; have := hg.size; omega⟩
theorem LInv.pop {l : Js.Lv} {g c m : Nat} (h : LInv w wr db cap (.slice (some ⟨g, 0, none⟩) (m + 1) c) (l :: s) b) (hm : s.length = m) : LInv w wr db cap (.slice (some ⟨g, 0, none⟩) m c) s false := by
  have ho := h.own
  simp only [List.length_cons, hm, lvs] at ho
  have := ownsRow_pop (n := m) (xs := lvs db cap s false) (last := lvC db cap l b) (by rw [lvs_len, hm]) ho
  exact ⟨h.below, h.res, by rw [hm]; exact this, h.size⟩
theorem LInv.put {l l' : Js.Lv} {c' : Bool} {g c m : Nat} (h : LInv w wr db cap (.slice (some ⟨g, 0, none⟩) (m + 1) c) (l :: s) b) (hm : s.length = m) (j : Nat) (u : Value)
    (hl : (lvC db cap l b).set j u = lvC db cap l' c') : LInv w (wr.setCell ⟨g, m * 5 + j, none⟩ u) db cap (.slice (some ⟨g, 0, none⟩) (m + 1) c) (l' :: s) c' := by
  have ho := h.own
  simp only [List.length_cons, hm] at ho
  have hs := ho.stored (m * 5 + j) u
  have hg := (ho.lt g rfl).1
  refine ⟨h.below.setCell (p := ⟨g, m * 5 + j, none⟩) (by show _ ≤ g; omega) u, h.res.of (Below.heap_setCell _ _ _ _ (by show _ ≠ g; omega)), ?_, by have := h.size; simp [World.setCell]; omega⟩
  have h2 := hs.1
  simp only [lvs] at h2 ⊢
  rw [List.set_append_right _ _ (by rw [lvs_len, hm]; omega), lvs_len, hm, Nat.add_sub_cancel_left, hl] at h2
  simp only [List.length_cons, hm]
  exact h2
theorem LInv.top {l : Js.Lv} {g c m : Nat} (h : LInv w wr db cap (.slice (some ⟨g, 0, none⟩) (m + 1) c) (l :: s) b) (hm : s.length = m) (j : Nat) {u : Value} (hu : (lvC db cap l b)[j]? = some u) :
    wr.cell? ⟨g, m * 5 + j, none⟩ = some u ∧ wr.frozen? ⟨g, m * 5 + j, none⟩ = false := by
  have ho := h.own
  simp only [List.length_cons, hm] at ho
  have hj : j < 5 := by have := (List.getElem?_eq_some_iff.1 hu).1; simpa [lvC] using this
  refine ⟨?_, ho.frozenAt _⟩
  rw [ho.cellAt (m * 5 + j) (by omega)]
  simp only [lvs]
  rw [List.getElem?_append_right (by rw [lvs_len, hm]; omega), lvs_len, hm, Nat.add_sub_cancel_left, hu]
/-- Two values told apart by a level whose other fields are alike: the flag alone. -/
theorem LInv.shape (h : LInv w wr db cap v s b) : ∃ a c, v = .slice a s.length c ∧ (0 < s.length → ∃ g, a = some ⟨g, 0, none⟩ ∧ s.length ≤ c) := ownsRow_shape5 h.own
end

/-- The remaining text, and what it will report. -/
structure Rest (zs : List Int) (n : Nat) (off : Int) (R : Option Js.Ms) (s : List Js.Lv × Bool) (j : Nat) (T : List Js.Tok) : Prop where
  ch : Js.Ch j n T
  good : ∀ t ∈ T, Js.G zs n t ∧ (t.k = 0 → Js.Cont zs n t.i t.x)
  runs : ∃ s', Js.run zs s T = some s'
  rep : Js.rep zs off s T = R
  ix : ∀ l ∈ s.1, 0 ≤ l.ix ∧ l.ix ≤ j
  len : s.1.length ≤ j
  le : j ≤ n
theorem Rest.next {zs : List Int} {n : Nat} {off : Int} {R : Option Js.Ms} {s s' : List Js.Lv × Bool} {j : Nat} {t : Js.Tok} {T : List Js.Tok} (h : Rest zs n off R s j (t :: T)) (hs : Js.step zs s t = some s') :
    t.i = j ∧ t.i < t.e ∧ t.e ≤ n ∧ (∀ m, Js.repT off s s' t = some m → R = some m) ∧ (Js.repT off s s' t = none → (∀ l ∈ s'.1, 0 ≤ l.ix ∧ l.ix ≤ t.e) → s'.1.length ≤ t.e → Rest zs n off R s' t.e T) := by
  obtain ⟨⟨a1, a2⟩, b, ⟨s2, c⟩, d, e, f, g⟩ := h
  have hg := b t (List.mem_cons_self ..)
  simp only [Js.run, hs] at c
  simp only [Js.rep, hs] at d
  refine ⟨a1, hg.1.1, hg.1.2.1, fun m hm => ?_, fun hn h1 h2 => ?_⟩
  · rw [hm, Option.some_or] at d; exact d.symm
  · rw [hn, Option.none_or] at d
    exact ⟨a2, fun u hu => b u (List.mem_cons_of_mem _ hu), ⟨s2, c⟩, d, h1, h2, hg.1.2.1⟩
theorem Rest.step {zs : List Int} {n : Nat} {off : Int} {R : Option Js.Ms} {s : List Js.Lv × Bool} {j : Nat} {t : Js.Tok} {T : List Js.Tok} (h : Rest zs n off R s j (t :: T)) : ∃ s', Js.step zs s t = some s' := by
  obtain ⟨s2, c⟩ := h.runs
  simp only [Js.run] at c
  cases hs : Js.step zs s t with
  | none => rw [hs] at c; cases c
  | some s' => exact ⟨s', rfl⟩
end Go.Proofs.Qxb6603798a
