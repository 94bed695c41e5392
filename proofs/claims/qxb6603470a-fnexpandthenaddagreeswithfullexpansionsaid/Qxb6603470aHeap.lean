/-
  THE HEAP: how the data read. No walk here.
-/
import Derived.Test.Qxb6603470aRows
import Derived.WalkKit
import Derived.Below
import Derived.Deep.OwnRows
namespace Go.Proofs.Qxb6603470a
open Go.RowKit
set_option linter.unusedVariables false
set_option linter.unusedSimpArgs false

/-- A piece of a line, plain. -/
structure SP where
  o : ByteArray
  q : ByteArray
  r : Int
  n : Int
instance : Inhabited SP := ⟨⟨ByteArray.empty, ByteArray.empty, 0, 0⟩⟩

/-- The cells of a piece as the law is handed it. -/
def pc (p : SP) : Nat → Value
  | 0 => .string p.o
  | 1 => .string p.q
  | 2 => .int .i64 p.r
  | _ => .int .i64 p.n

/-- From the address on lie the cells f 0, f 1, .. (m of them); asked only of a slice that holds something. -/
def At (w : World) (B : Nat → Prop) (a : Option Addr) (n m : Nat) (f : Nat → Value) : Prop :=
  0 < n → ∃ b o, a = some ⟨b, o, none⟩ ∧ B b ∧ ∀ i, i < m → w.cell? ⟨b, o + i, none⟩ = some (f i)

def StrsAt (w : World) (B : Nat → Prop) (v : Value) (ss : List ByteArray) : Prop :=
  ∃ a c, v = .slice a ss.length c ∧ ss.length ≤ c ∧ ss.length ≤ 9223372036854775807 ∧ At w B a ss.length ss.length (fun i => .string (ss.getD i ByteArray.empty))
def IntsAt (w : World) (B : Nat → Prop) (v : Value) (zs : List Int) : Prop :=
  ∃ a c, v = .slice a zs.length c ∧ zs.length ≤ c ∧ zs.length ≤ 9223372036854775807 ∧ At w B a zs.length zs.length (fun i => .int .i64 (zs.getD i 0))
/-- A line of pieces, each of four cells, as 'g' lays them. -/
def PcsAt (g : SP → Nat → Value) (w : World) (B : Nat → Prop) (v : Value) (L : List SP) : Prop :=
  ∃ a c, v = .slice a L.length c ∧ L.length ≤ c ∧ L.length ≤ 9223372036854775807 ∧ At w B a L.length (L.length * 4) (fun i => g (L.getD (i / 4) default) (i % 4))
def LnsAt (g : SP → Nat → Value) (w : World) (B : Nat → Prop) (v : Value) (LL : List (List SP)) : Prop :=
  ∃ a c V, v = .slice a LL.length c ∧ LL.length ≤ c ∧ LL.length ≤ 9223372036854775807 ∧ At w B a LL.length LL.length V ∧ ∀ j, j < LL.length → PcsAt g w B (V j) (LL.getD j [])
def TabAt (w : World) (B : Nat → Prop) (v : Value) (T : List (List (List SP))) : Prop :=
  ∃ a c V, v = .slice a T.length c ∧ T.length ≤ c ∧ T.length ≤ 9223372036854775807 ∧ At w B a T.length T.length V ∧ ∀ d, d < T.length → LnsAt pc w B (V d) (T.getD d [])

section
variable {w w' : World} {B B' : Nat → Prop} {v : Value} {g : SP → Nat → Value}
/-- The blocks of the kind B hold in w' what they held in w. -/
def Same (B : Nat → Prop) (w w' : World) : Prop := ∀ b, B b → w'.heap[b]? = w.heap[b]?
theorem Same.cell (h : Same B w w') {p : Addr} (hp : B p.block) : w'.cell? p = w.cell? p := World.cell?_of_block (w := w) (h p.block hp)
theorem Same.of_below {N : Nat} (h : Below N w w') (hN : ∀ b, B b → b < N) : Same B w w' := fun b hb => h.block b (hN b hb)
theorem At.next {a : Option Addr} {n m : Nat} {f : Nat → Value} (h : At w B a n m f) (hb : Same B w w') (hB : ∀ b, B b → B' b) : At w' B' a n m f := fun hn => by
  obtain ⟨b, o, rfl, h1, h2⟩ := h hn
  exact ⟨b, o, rfl, hB b h1, fun i hi => (hb.cell (p := ⟨b, o + i, none⟩) h1).trans (h2 i hi)⟩
theorem StrsAt.next {ss : List ByteArray} (h : StrsAt w B v ss) (hb : Same B w w') (hB : ∀ b, B b → B' b) : StrsAt w' B' v ss := by
  obtain ⟨a, c, h1, h2, h3, h4⟩ := h
  exact ⟨a, c, h1, h2, h3, h4.next hb hB⟩
theorem IntsAt.next {zs : List Int} (h : IntsAt w B v zs) (hb : Same B w w') (hB : ∀ b, B b → B' b) : IntsAt w' B' v zs := by
  obtain ⟨a, c, h1, h2, h3, h4⟩ := h
  exact ⟨a, c, h1, h2, h3, h4.next hb hB⟩
theorem PcsAt.next {L : List SP} (h : PcsAt g w B v L) (hb : Same B w w') (hB : ∀ b, B b → B' b) : PcsAt g w' B' v L := by
  obtain ⟨a, c, h1, h2, h3, h4⟩ := h
  exact ⟨a, c, h1, h2, h3, h4.next hb hB⟩
theorem LnsAt.next {L : List (List SP)} (h : LnsAt g w B v L) (hb : Same B w w') (hB : ∀ b, B b → B' b) : LnsAt g w' B' v L := by
  obtain ⟨a, c, V, h1, h2, h3, h4, h5⟩ := h
  exact ⟨a, c, V, h1, h2, h3, h4.next hb hB, fun j hj => (h5 j hj).next hb hB⟩
theorem TabAt.next {T : List (List (List SP))} (h : TabAt w B v T) (hb : Same B w w') (hB : ∀ b, B b → B' b) : TabAt w' B' v T := by
  obtain ⟨a, c, V, h1, h2, h3, h4, h5⟩ := h
  exact ⟨a, c, V, h1, h2, h3, h4.next hb hB, fun j hj => (h5 j hj).next hb hB⟩

/-- The four cells of piece k. -/
theorem at4 {a : Option Addr} {b o n : Nat} {L : List SP} {k : Nat} (hk : k < L.length) (h : ∀ i, i < L.length * 4 → w.cell? ⟨b, o + i, none⟩ = some (g (L.getD (i / 4) default) (i % 4))) :
    w.cell? ⟨b, o + k * 4, none⟩ = some (g (L.getD k default) 0) ∧ w.cell? ⟨b, o + k * 4 + 1, none⟩ = some (g (L.getD k default) 1) ∧
    w.cell? ⟨b, o + k * 4 + 2, none⟩ = some (g (L.getD k default) 2) ∧ w.cell? ⟨b, o + k * 4 + 3, none⟩ = some (g (L.getD k default) 3) := by
  have h0 := h (k * 4) (by omega)
  have h1 := h (k * 4 + 1) (by omega)
  have h2 := h (k * 4 + 2) (by omega)
  have h3 := h (k * 4 + 3) (by omega)
  rw [show k * 4 / 4 = k by omega, show k * 4 % 4 = 0 by omega] at h0
  rw [show (k * 4 + 1) / 4 = k by omega, show (k * 4 + 1) % 4 = 1 by omega] at h1
  rw [show (k * 4 + 2) / 4 = k by omega, show (k * 4 + 2) % 4 = 2 by omega] at h2
  rw [show (k * 4 + 3) / 4 = k by omega, show (k * 4 + 3) % 4 = 3 by omega] at h3
  exact ⟨h0, h1, h2, h3⟩
end
def IsB (e : Ending) : Prop := ∃ b, e = .returned (.bool b)
theorem lns_shape {g : SP → Nat → Value} {w : World} {B : Nat → Prop} {v : Value} {L : List (List SP)} (h : LnsAt g w B v L) : ∃ a c V, v = .slice a L.length c ∧ L.length ≤ 9223372036854775807 ∧ At w B a L.length L.length V ∧ ∀ j, j < L.length → PcsAt g w B (V j) (L.getD j []) := by
  obtain ⟨a, c, V, h1, h2, h3, h4, h5⟩ := h
  exact ⟨a, c, V, h1, h3, h4, h5⟩
theorem pcs_shape {g : SP → Nat → Value} {w : World} {B : Nat → Prop} {v : Value} {L : List SP} (h : PcsAt g w B v L) : ∃ a c, v = .slice a L.length c ∧ L.length ≤ 9223372036854775807 ∧ At w B a L.length (L.length * 4) (fun i => g (L.getD (i / 4) default) (i % 4)) := by
  obtain ⟨a, c, h1, h2, h3, h4⟩ := h
  exact ⟨a, c, h1, h3, h4⟩


/-- Does the piece name one of n defaults? -/
def hasR (n : Nat) (p : SP) : Bool := decide (0 ≤ p.r ∧ p.r < n)

def POK (T : List (List (List SP))) (d j : Nat) (p : SP) : Prop :=
  (hasR T.length p = false → p.q.size ≠ 0) ∧ (hasR T.length p = true → 1 ≤ p.n ∧ p.n ≤ (T.getD p.r.toNat []).length ∧ p.r ≤ d ∧ (p.r = d → p.n ≤ j))
def LineOK (T : List (List (List SP))) (d j : Nat) (L : List SP) : Prop := L.length ≠ 0 ∧ ∀ k, k < L.length → POK T d j (L.getD k default)
def DefOK (T : List (List (List SP))) (d : Nat) (LL : List (List SP)) : Prop := ∀ j, j < LL.length → LineOK T d j (LL.getD j [])
def WF (T : List (List (List SP))) : Prop := ∀ d, d < T.length → DefOK T d (T.getD d [])

end Go.Proofs.Qxb6603470a
