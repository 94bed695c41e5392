/-
  THE HEAP of the model's state: the struct's block, the rows that it owns, the text's bytes. No walk here.
-/
import Derived.Test.Qxb6603798aLeaf
namespace Go.Proofs.Qxb6603798a
open Go.RowKit
set_option linter.unusedVariables false
set_option linter.unusedSimpArgs false

/-- A row that the call owns: the slice, its elements' type, its elements (one cell each). -/
abbrev Row := Value × TypeId × List Value
def Apart (r s : Row) : Prop := ∀ k, r.1.ownBlock = some k → s.1.ownBlock ≠ some k
theorem Apart.symm {r s : Row} (h : Apart r s) : Apart s r := fun k h1 h2 => h k h2 h1
def Own (w : World) (B : Nat) (l : List Row) : Prop := (∀ r ∈ l, w.ownsRow B r.2.1 1 r.1 r.2.2.length r.2.2) ∧ l.Pairwise Apart

section
variable {w w' : World} {B : Nat} {l pre post : List Row} {r r' : Row}
theorem Own.kept {row : Option Nat} (h : Own w B l) (hg : w.grownBy w' row) (hne : ∀ r ∈ l, r.1.ownBlock = none ∨ r.1.ownBlock ≠ row) : Own w' B l :=
  ⟨fun r hr => (h.1 r hr).kept hg (hne r hr), h.2⟩
theorem Own.mid (h : Own w B (pre ++ r :: post)) : w.ownsRow B r.2.1 1 r.1 r.2.2.length r.2.2 := h.1 r (by simp)
theorem Own.turn (h : Own w B (pre ++ r :: post)) (hg : w.grownBy w' r.1.ownBlock) (hr : w'.ownsRow B r'.2.1 1 r'.1 r'.2.2.length r'.2.2)
    (hb : r'.1.ownBlock = r.1.ownBlock ∨ ∃ k, r'.1.ownBlock = some k ∧ w.heap.size ≤ k) : Own w' B (pre ++ r' :: post) := by
  obtain ⟨h1, h2⟩ := h
  rw [List.pairwise_append, List.pairwise_cons] at h2
  obtain ⟨p1, ⟨p2, p3⟩, p4⟩ := h2
  have ap : ∀ s ∈ pre ++ post, Apart r s := by
    intro s hs
    rcases List.mem_append.1 hs with h | h
    · exact (p4 s h r (by simp)).symm
    · exact p2 s h
  have hne : ∀ s ∈ pre ++ post, s.1.ownBlock = none ∨ s.1.ownBlock ≠ r.1.ownBlock := by
    intro s hs
    cases e : s.1.ownBlock with
    | none => exact .inl rfl
    | some k => exact .inr (fun e2 => ap s hs k e2.symm e)
  have ap' : ∀ s ∈ pre ++ post, Apart r' s := by
    intro s hs k hk hs2
    rcases hb with e | ⟨k', e, hk'⟩
    · rw [e] at hk; exact ap s hs k hk hs2
    · rw [e] at hk; cases hk
      have hm : s ∈ pre ++ r :: post := by
        rcases List.mem_append.1 hs with h | h
        · exact List.mem_append.2 (.inl h)
        · exact List.mem_append.2 (.inr (List.mem_cons_of_mem _ h))
      have := ((h1 s hm).lt k hs2).2
      omega
  refine ⟨?_, ?_⟩
  · intro s hs
    rcases List.mem_append.1 hs with h | h
    · exact (h1 s (List.mem_append.2 (.inl h))).kept hg (hne s (List.mem_append.2 (.inl h)))
    · rcases List.mem_cons.1 h with rfl | h
      · exact hr
      · exact (h1 s (List.mem_append.2 (.inr (List.mem_cons_of_mem _ h)))).kept hg (hne s (List.mem_append.2 (.inr h)))
  · rw [List.pairwise_append, List.pairwise_cons]
    refine ⟨p1, ⟨fun s hs => ap' s (List.mem_append.2 (.inr hs)), p3⟩, ?_⟩
    intro s hs t ht
    rcases List.mem_cons.1 ht with rfl | ht
    · exact (ap' s (List.mem_append.2 (.inl hs))).symm
    · exact p4 s hs t (List.mem_cons_of_mem _ ht)
theorem Own.below (h : Own w B l) {a : Addr} (ha : a.block < B) (u : Value) : Own (w.setCell a u) B l :=
  ⟨fun r hr => ownsRow_setCell_below (h.1 r hr) ha u, h.2⟩
theorem Own.alloc (h : Own w B l) (o : Obj) : Own (w.alloc o) B l := ⟨fun r hr => (h.1 r hr).alloc o, h.2⟩
end

theorem ownsRow_shape {w : World} {B : Nat} {e : TypeId} {v : Value} {n : Nat} {xs : List Value} (h : w.ownsRow B e 1 v n xs) : ∃ a c, v = .slice a n c ∧ (0 < n → ∃ g, a = some ⟨g, 0, none⟩ ∧ n ≤ c) := by
  rcases h.2 with ⟨rfl, rfl⟩ | ⟨g, cap, cur, rfl, _, _, hn, _⟩
  · exact ⟨none, 0, rfl, fun h => by omega⟩
  · exact ⟨_, cap, rfl, fun _ => ⟨g, rfl, hn⟩⟩

/-- The struct's cells lie in block sb. -/
def StructAt (w : World) (sb : Nat) (T : TypeId) (fs : List Value) : Prop := w.heap[sb]? = some (.cells fs.toArray T (0, 0))
section
variable {w w' : World} {sb : Nat} {T : TypeId} {fs : List Value}
theorem StructAt.cell (h : StructAt w sb T fs) (j : Nat) {v : Value} (hj : fs[j]? = some v) : w.cell? ⟨sb, j, none⟩ = some v := by
  rw [cell_of_row w sb j fs.toArray T (0, 0) h]; simpa using hj
theorem StructAt.lt (h : StructAt w sb T fs) : sb < w.heap.size := (Array.getElem?_eq_some_iff.1 h).1
theorem StructAt.free (h : StructAt w sb T fs) (j : Nat) : w.frozen? ⟨sb, j, none⟩ = false := by
  unfold StructAt at h
  simp [World.frozen?, h]
theorem StructAt.set (h : StructAt w sb T fs) (j : Nat) (v : Value) : StructAt (w.setCell ⟨sb, j, none⟩ v) sb T (fs.set j v) := by
  unfold StructAt
  rw [heap_setCell_same w sb j fs.toArray T v h]
  simp
theorem StructAt.of (h : StructAt w sb T fs) (hb : w'.heap[sb]? = w.heap[sb]?) : StructAt w' sb T fs := hb.trans h
end

/-- Only block sb, and blocks from B on, may have turned. -/
structure Mov (B sb : Nat) (w w' : World) : Prop where
  os : w'.os = w.os
  tape : w'.tape = w.tape
  output : w'.output = w.output
  size : w.heap.size ≤ w'.heap.size
  block : ∀ k, k < B → k ≠ sb → w'.heap[k]? = w.heap[k]?
theorem Mov.refl (B sb : Nat) (w : World) : Mov B sb w w := ⟨rfl, rfl, rfl, Nat.le_refl _, fun _ _ _ => rfl⟩
theorem Mov.trans {B sb : Nat} {a b c : World} (h : Mov B sb a b) (k : Mov B sb b c) : Mov B sb a c :=
  ⟨k.os.trans h.os, k.tape.trans h.tape, k.output.trans h.output, Nat.le_trans h.size k.size, fun i h1 h2 => (k.block i h1 h2).trans (h.block i h1 h2)⟩
theorem Mov.drewN (B sb : Nat) (w : World) (m : Nat) : Mov B sb w (w.drewN m) := ⟨rfl, rfl, rfl, Nat.le_refl _, fun _ _ _ => rfl⟩
theorem Mov.grown {B sb : Nat} {w w' : World} {row : Option Nat} (hB : B ≤ w.heap.size) (hg : w.grownBy w' row) (hr : ∀ k, row = some k → B ≤ k) : Mov B sb w w' :=
  ⟨hg.os, hg.tape, hg.output, hg.size, fun k h1 _ => hg.block k (by omega) (fun e => by have := hr k e.symm; omega)⟩
theorem Mov.alloc {B sb : Nat} {w : World} (hB : B ≤ w.heap.size) (o : Obj) : Mov B sb w (w.alloc o) := Mov.grown hB (World.grownBy_alloc w o none) (fun k h => by cases h)
theorem Mov.field {B sb : Nat} (w : World) (j : Nat) (v : Value) : Mov B sb w (w.setCell ⟨sb, j, none⟩ v) :=
  ⟨rfl, rfl, rfl, by simp, fun k _ h2 => Below.heap_setCell _ _ _ _ h2⟩

structure Raw (w : World) (sb B db n : Nat) (zs : List Int) (fs : List Value) (rows : List Row) : Prop where
  st : StructAt w sb 28 fs
  own : Own w B rows
  doc : DocAt w db n zs
  hdb : db < B
  hne : db ≠ sb
  hsb : sb < B
  hB : B ≤ w.heap.size

section
variable {w w1 : World} {sb B db n : Nat} {zs : List Int} {fs : List Value} {pre post rows : List Row} {v v' : Value} {e : TypeId} {xs : List Value}
theorem docAt_mov (h : DocAt w db n zs) (hm : Mov B sb w w1) (hdb : db < B) (hne : db ≠ sb) : DocAt w1 db n zs := fun i hi =>
  (World.cell?_of_block (hm.block db hdb hne)).trans (h i hi)
theorem Raw.mk' (h : Raw w sb B db n zs fs rows) {fs' : List Value} {rows' : List Row} (hst : StructAt w1 sb 28 fs') (hown : Own w1 B rows') (hm : Mov B sb w w1) : Raw w1 sb B db n zs fs' rows' :=
  ⟨hst, hown, docAt_mov h.doc hm h.hdb h.hne, h.hdb, h.hne, h.hsb, Nat.le_trans h.hB hm.size⟩
/-- A draw. -/
theorem Raw.drewN (h : Raw w sb B db n zs fs rows) (m : Nat) : Raw (w.drewN m) sb B db n zs fs rows := ⟨h.st, h.own, h.doc, h.hdb, h.hne, h.hsb, h.hB⟩
/-- A new block. -/
theorem Raw.alloc (h : Raw w sb B db n zs fs rows) (o : Obj) : Raw (w.alloc o) sb B db n zs fs rows :=
  h.mk' (h.st.of (Below.heap_alloc w o sb h.st.lt)) (h.own.alloc o) (Mov.alloc h.hB o)
/-- A field is stored. -/
theorem Raw.field (h : Raw w sb B db n zs fs rows) (j : Nat) (u : Value) : Raw (w.setCell ⟨sb, j, none⟩ u) sb B db n zs (fs.set j u) rows :=
  h.mk' (h.st.set j u) (h.own.below (by exact h.hsb) u) (Mov.field w j u)

theorem Raw.rowBlock (h : Raw w sb B db n zs fs (pre ++ (v, e, xs) :: post)) : ∀ k, v.ownBlock = some k → B ≤ k := fun k hk => (h.own.mid.lt k hk).1
theorem Raw.shape (h : Raw w sb B db n zs fs (pre ++ (v, e, xs) :: post)) : ∃ a c, v = .slice a xs.length c ∧ (0 < xs.length → ∃ g, a = some ⟨g, 0, none⟩ ∧ xs.length ≤ c) := ownsRow_shape h.own.mid
/-- An append: the new world, before the field is stored. -/
theorem Raw.app0 (h : Raw w sb B db n zs fs (pre ++ (v, e, xs) :: post)) {o : Obj} {x : Value} (hown : w1.ownsRow B e 1 v' (xs.length + 1) (xs ++ [x])) (hg : (w.alloc o).grownBy w1 v.ownBlock)
    (hat : v'.ownBlock = v.ownBlock ∨ v'.ownBlock = some (w.alloc o).heap.size) : Raw w1 sb B db n zs fs (pre ++ (v', e, xs ++ [x]) :: post) ∧ Mov B sb w w1 := by
  have ha := h.alloc o
  have hm : Mov B sb (w.alloc o) w1 := Mov.grown ha.hB hg h.rowBlock
  have hst : StructAt w1 sb 28 fs := ha.st.of (hg.block sb ha.st.lt (fun e => by have := h.rowBlock sb e.symm; have := h.hsb; omega))
  refine ⟨ha.mk' hst (ha.own.turn hg (r' := (v', e, xs ++ [x])) (by simpa using hown) ?_) hm, (Mov.alloc h.hB o).trans hm⟩
  rcases hat with e | e
  · exact .inl e
  · exact .inr ⟨_, e, Nat.le_refl _⟩
/-- A store into an owned row. -/
theorem Raw.put {g c m : Nat} (h : Raw w sb B db n zs fs (pre ++ (.slice (some ⟨g, 0, none⟩) m c, e, xs) :: post)) (hx : xs.length = m) (i : Nat) (u : Value) :
    Raw (w.setCell ⟨g, i, none⟩ u) sb B db n zs fs (pre ++ (.slice (some ⟨g, 0, none⟩) m c, e, xs.set i u) :: post) ∧ Mov B sb w (w.setCell ⟨g, i, none⟩ u) := by
  have hr := h.own.mid
  simp only [hx] at hr
  have hs := hr.stored i u
  have hm : Mov B sb w (w.setCell ⟨g, i, none⟩ u) := Mov.grown h.hB hs.2 h.rowBlock
  refine ⟨h.mk' (h.st.of (hs.2.block sb h.st.lt (fun e => by have := h.rowBlock sb e.symm; have := h.hsb; omega))) (h.own.turn hs.2 (r' := (.slice (some ⟨g, 0, none⟩) m c, e, xs.set i u)) ?_ (.inl rfl)) hm, hm⟩
  simp only [List.length_set, hx]; exact hs.1
theorem Raw.putCell {g c m : Nat} (h : Raw w sb B db n zs fs (pre ++ (.slice (some ⟨g, 0, none⟩) m c, e, xs) :: post)) (hx : xs.length = m) (i : Nat) {u : Value} (hu : xs[i]? = some u) :
    w.cell? ⟨g, i, none⟩ = some u ∧ w.frozen? ⟨g, i, none⟩ = false := by
  have hr := h.own.mid
  simp only [hx] at hr
  have hi : i < m := by rw [← hx]; exact (List.getElem?_eq_some_iff.1 hu).1
  exact ⟨(hr.cellAt i (by omega)).trans hu, hr.frozenAt i⟩
/-- A row is cut by its last element. -/
theorem Raw.pop {g c m : Nat} {x : Value} (h : Raw w sb B db n zs fs (pre ++ (.slice (some ⟨g, 0, none⟩) (m + 1) c, e, xs ++ [x]) :: post)) (hx : xs.length = m) (j : Nat) :
    Raw (w.setCell ⟨sb, j, none⟩ (.slice (some ⟨g, 0, none⟩) m c)) sb B db n zs (fs.set j (.slice (some ⟨g, 0, none⟩) m c)) (pre ++ (.slice (some ⟨g, 0, none⟩) m c, e, xs) :: post) := by
  have hr := h.own.mid
  simp only [List.length_append, List.length_singleton, hx] at hr
  have hp := ownsRow_pop (n := m) (xs := xs) (last := [x]) (by simp [hx]) hr
  have h2 : Raw w sb B db n zs fs (pre ++ (.slice (some ⟨g, 0, none⟩) m c, e, xs) :: post) :=
    h.mk' h.st (h.own.turn (w' := w) (World.grownBy.refl w _) (r' := (.slice (some ⟨g, 0, none⟩) m c, e, xs)) (by simp only [hx]; exact hp) (.inl rfl)) (Mov.refl _ _ _)
  exact h2.field j _
/-- A row is made anew; the field is stored; in the walk's own spelling of the world. -/
theorem Raw.make (h : Raw w sb B db n zs fs (pre ++ (v, e, xs) :: post)) (z : Value) (m : Nat) (hm : m ≤ maxLen) (j : Nat) :
    Raw ((w.setCell ⟨sb, j, none⟩ (.slice (some ⟨w.heap.size, 0, none⟩) m m)).alloc (.cells (madeCells #[z] m) e)) sb B db n zs (fs.set j (.slice (some ⟨w.heap.size, 0, none⟩) m m))
      (pre ++ (.slice (some ⟨w.heap.size, 0, none⟩) m m, e, List.replicate m z) :: post) ∧
    Mov B sb w ((w.setCell ⟨sb, j, none⟩ (.slice (some ⟨w.heap.size, 0, none⟩) m m)).alloc (.cells (madeCells #[z] m) e)) := by
  have hrow := World.ownsRow_lit (base := B) (e := e) (size := 1) w (madeCells #[z] m) m h.hB hm (by rw [size_madeCells, Nat.mul_one])
  have hlist : (madeCells #[z] m).toList = List.replicate m z := by
    apply List.ext_getElem
    · simp [size_madeCells]
    · intro i h1 h2
      simp [madeCells, Nat.mod_one]
  rw [hlist] at hrow
  have hm2 : Mov B sb w (w.alloc (.cells (madeCells #[z] m) e)) := Mov.alloc h.hB _
  have h2 : Raw (w.alloc (.cells (madeCells #[z] m) e)) sb B db n zs fs (pre ++ (.slice (some ⟨w.heap.size, 0, none⟩) m m, e, List.replicate m z) :: post) :=
    h.mk' (h.st.of (Below.heap_alloc w _ sb h.st.lt)) (h.own.turn (World.grownBy_alloc w _ _) (r' := (.slice (some ⟨w.heap.size, 0, none⟩) m m, e, List.replicate m z)) (by simp only [List.length_replicate]; exact hrow) (.inr ⟨w.heap.size, rfl, Nat.le_refl _⟩)) hm2
  rw [← World.setCell_alloc_past _ sb j _ h.st.lt]
  exact ⟨h2.field j _, hm2.trans (Mov.field _ j _)⟩
end
end Go.Proofs.Qxb6603798a
