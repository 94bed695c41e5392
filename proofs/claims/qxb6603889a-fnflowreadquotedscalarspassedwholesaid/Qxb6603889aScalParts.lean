/-
  SMALL PARTS for the law on quoted scalars: the copy's contract behind a name; what an append into a row of the call's own does to the rest.
-/
import Derived.Test.Qxb6603889aFlow
import Derived.Test.Qxb6603889aReadQ
namespace Go.Proofs.Qxb6603889a
open Go.RowKit

theorem ints_one (c : Int) : ∀ u ∈ [Value.int .u8 c], u.oneCell' = true := by
  intro u hu; simp at hu; subst hu; rfl

/-- The copy, whatever was handed in. -/
def CopyTo (w : World) (v : Value) (a' : Option Addr) (n : Nat) (zs : List Int) : Prop :=
  Calls Try.prog 9 #[v] w fun e w' => e = .returned (.slice a' n n) ∧ Below w.heap.size w w' ∧ Hid (0 < n → a' = some ⟨w.heap.size, 0, none⟩ ∧ w.heap.size < w'.heap.size ∧ ∀ i, i < n → w'.cell? ⟨w.heap.size, i, none⟩ = some (.int .u8 (zs.getD i 0)))
theorem CopyTo.calls {w : World} {v : Value} {a' : Option Addr} {n : Nat} {zs : List Int} (h : CopyTo w v a' n zs) :
  Calls Try.prog 9 #[v] w fun e w' => e = .returned (.slice a' n n) ∧ Below w.heap.size w w' ∧ Hid (0 < n → a' = some ⟨w.heap.size, 0, none⟩ ∧ w.heap.size < w'.heap.size ∧ ∀ i, i < n → w'.cell? ⟨w.heap.size, i, none⟩ = some (.int .u8 (zs.getD i 0))) := h
theorem copyTo_row (b off n cap : Nat) (zs : List Int) (w : World) (hn : n ≤ 1048576) (hb : b < w.heap.size)
    (hc : ∀ i, i < n → w.cell? ⟨b, off + i, none⟩ = some (.int .u8 (zs.getD i 0))) : CopyTo w (.slice (some ⟨b, off, none⟩) n cap) (some ⟨w.heap.size, 0, none⟩) n zs := by
  refine (copy_row b off n cap zs w hn hb hc).mono ?_
  rintro e w' ⟨rfl, rfl⟩
  refine ⟨rfl, (Below.refl _ _).alloc (Nat.le_refl _) _, fun _ => ⟨rfl, by simp, fun i hi => ?_⟩⟩
  rw [World.cell?_alloc_at _ _ _ _ rfl, half_get _ _ _ _ hi, if_pos hi]
theorem copyTo_empty (x : Addr) (cap : Nat) (w : World) : CopyTo w (.slice (some x) 0 cap) (some ⟨w.heap.size, 0, none⟩) 0 [] := by
  refine (copy_empty x cap w).mono ?_
  rintro e w' ⟨rfl, rfl⟩
  exact ⟨rfl, (Below.refl _ _).alloc (Nat.le_refl _) _, fun h => absurd h (by omega)⟩
theorem copyTo_nil (w : World) : CopyTo w (.slice none 0 0) none 0 [] := by
  refine (copy_nil w).mono ?_
  rintro e w' ⟨rfl, rfl⟩
  exact ⟨rfl, Below.refl _ _, fun h => absurd h (by omega)⟩

/-- Behind a new block and an append into the row at B. -/
theorem below_app {B : Nat} {w1 wr w4 : World} {o : Obj} (hB : B ≤ wr.heap.size) (h : Below B w1 wr) (hg : (wr.alloc o).grownBy w4 (some B)) : Below B w1 w4 :=
  (h.alloc hB o).grown hg (by simp; omega) (fun k hk => by cases hk; exact Nat.le_refl _)
/-- A cell below B behind it. -/
theorem cell_app {B : Nat} {wr w4 : World} {o : Obj} {a : Addr} {v : Value} (hg : (wr.alloc o).grownBy w4 (some B)) (ha : a.block < B) (h : wr.cell? a = some v) : w4.cell? a = some v :=
  hg.cell (Lib.cell?_alloc_some o h) (by intro e; cases e; omega)
theorem size_app {B : Nat} {wr w4 : World} {o : Obj} (hg : (wr.alloc o).grownBy w4 (some B)) : wr.heap.size + 1 ≤ w4.heap.size := by
  have := hg.size; simpa using this

/-- A row that is owned, read. -/
theorem owned_cells {w : World} {B g m cap : Nat} {l : List Int} (h : w.ownsRow B 5 1 (.slice (some ⟨g, 0, none⟩) m cap) m (l.map (Value.int .u8))) : m = l.length ∧ ∀ i, i < m → w.cell? ⟨g, i, none⟩ = some (.int .u8 (l.getD i 0)) := by
  have hl : m = l.length := by have := h.1; simpa using this.symm
  refine ⟨hl, fun i hi => ?_⟩
  rw [h.cellAt i (by omega), List.getElem?_map, List.getD_eq_getElem?_getD, List.getElem?_eq_getElem (by omega)]
  rfl
end Go.Proofs.Qxb6603889a
