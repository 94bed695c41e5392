/-
  THE ARGUMENTS, opened: from the reader's data to 'StrsAt', 'IntsAt', 'TabAt'.
-/
import Derived.Test.Qxb6603470aLaw
import Derived.OpenShut
import Derived.Deep.Strs
namespace Go.Proofs.Qxb6603470a
open Go.ChangeShapes Go.WideShapes Go.RowKit
set_option linter.unusedVariables false
set_option linter.unusedSimpArgs false

theorem cellsT9 : Try.prog.cellsOf 9 = 1 := by kernel_rfl
theorem cellsT3 : Try.prog.cellsOf 3 = 1 := by kernel_rfl
theorem cellsT44 : Try.prog.cellsOf 44 = 1 := by kernel_rfl
theorem cellsT46 : Try.prog.cellsOf 46 = 1 := by kernel_rfl
theorem cellsT55 : Try.prog.cellsOf 55 = 4 := by kernel_rfl

theorem addr_at {w : World} {a : Addr} {n : Nat} {f : Nat → Value} (h : ∀ i, i < n → w.cell? (a.add i) = some (f i)) (hp : 0 < n) :
    ∃ b o, a = ⟨b, o, none⟩ ∧ b < w.heap.size ∧ ∀ i, i < n → w.cell? ⟨b, o + i, none⟩ = some (f i) := by
  obtain ⟨b, off, spot⟩ := a
  have hspot : spot = none := by simpa [Addr.add] using World.cell?_spot (h 0 hp)
  subst hspot
  have h2 : ∀ i, i < n → w.cell? ⟨b, off + i, none⟩ = some (f i) := fun j hj => by rw [← Go.WideShapes.add_plain]; exact h j hj
  exact ⟨b, off, rfl, World.block_lt_of_cell? _ _ (h2 0 hp), h2⟩

theorem add_add (a : Addr) (m n : Nat) : (a.add m).add n = a.add (m + n) := by
  by_cases hm : m = 0
  · subst hm; simp [Addr.add]
  · by_cases hn : n = 0
    · subst hn; simp [Addr.add]
    · simp [Addr.add, hm, hn, Nat.add_assoc]
theorem getD_map_range {α : Type} {n i : Nat} {f : Nat → α} {d : α} (h : i < n) : ((List.range n).map f).getD i d = f i := by
  rw [List.getD_eq_getElem?_getD, List.getElem?_map, List.getElem?_range h]; rfl

section
variable {H : Type} {enc : TypeId × Value → H} {w : World} {base : Nat} {held : Bool}

theorem open22 {v : Value} {fuel : Nat} {x : DataW H × List MemPlace} (h : DataW.trod enc Try.prog w base (fun _ => true) held fuel 22 [v] = some x) : ∃ ss, StrsAt w (· < w.heap.size) v ss := by
  rcases Deep.open_strs Try.underlying22 Try.underlying9 cellsT9 h with ⟨hcs, _⟩ | ⟨a, len, cap, m, Sx, hcs, _, hl, hm, hmm, _, hcell⟩
  · simp at hcs
    subst hcs
    exact ⟨[], none, 0, rfl, Nat.le_refl _, by show 0 ≤ _; decide, fun h => absurd h (by show ¬ 0 < 0; decide)⟩
  · simp at hcs
    subst hcs
    simp only [if_true] at hmm
    have hlen : ((List.range len).map Sx).length = len := by simp
    refine ⟨(List.range len).map Sx, some a, cap, by rw [hlen], by rw [hlen]; exact hl, by rw [hlen]; unfold maxLen at hm; omega, fun hp => ?_⟩
    rw [hlen] at hp ⊢
    obtain ⟨b, o, rfl, hb, hc⟩ := addr_at (n := len) (f := fun i => .string (Sx i)) (fun i hi => (hcell i (by omega)).1) hp
    exact ⟨b, o, rfl, hb, fun i hi => by rw [hc i hi]; dsimp only; rw [getD_map_range hi]⟩

theorem open31 {v : Value} {fuel : Nat} {x : DataW H × List MemPlace} (h : DataW.trod enc Try.prog w base (fun _ => true) held fuel 31 [v] = some x) : ∃ zs, IntsAt w (· < w.heap.size) v zs := by
  rcases Deep.open_slice1 Try.underlying31 cellsT3 h with ⟨hcs, _⟩ | ⟨a, len, cap, m, n, V, D, Pl, hcs, _, hl, hm, hmm, _, hx⟩
  · simp at hcs
    subst hcs
    exact ⟨[], none, 0, rfl, Nat.le_refl _, by show 0 ≤ _; decide, fun h => absurd h (by show ¬ 0 < 0; decide)⟩
  · simp at hcs
    subst hcs
    simp only [if_true] at hmm
    obtain ⟨Z, hZ⟩ : ∃ Z : Nat → Int, ∀ i, i < len → V i = .int .i64 (Z i) := Deep.choose_lt (n := len) (p := fun i z => V i = .int .i64 z) (fun i hi => by
      obtain ⟨z, h1, _⟩ := DataW.trod_int Try.underlying3 (hx i (by omega)).2
      exact ⟨z, by simpa using h1⟩)
    have hlen : ((List.range len).map Z).length = len := by simp
    refine ⟨(List.range len).map Z, some a, cap, by rw [hlen], by rw [hlen]; exact hl, by rw [hlen]; unfold maxLen at hm; omega, fun hp => ?_⟩
    rw [hlen] at hp ⊢
    obtain ⟨b, o, rfl, hb, hc⟩ := addr_at (n := len) (f := fun i => .int .i64 (Z i)) (fun i hi => by rw [(hx i (by omega)).1, hZ i hi]) hp
    exact ⟨b, o, rfl, hb, fun i hi => by rw [hc i hi]; dsimp only; rw [getD_map_range hi]⟩

set_option maxRecDepth 100000 in
theorem open55 {cs : List Value} {fuel : Nat} {x : DataW H × List MemPlace} (h : DataW.trod enc Try.prog w base (fun _ => true) held fuel 55 cs = some x) : ∃ p : SP, cs = [pc p 0, pc p 1, pc p 2, pc p 3] := by
  obtain ⟨xs, n, _, _, hl, hlen, hf⟩ := DataW.trod_struct Try.underlying55 h
  rw [cellsT55] at hl
  match cs, hl with
  | [c0, c1, c2, c3], _ =>
    match xs, hlen with
    | [y0, y1, y2, y3], _ =>
      have g0 : DataW.trod enc Try.prog w base (fun _ => true) held n 9 (([c0, c1, c2, c3].drop 0).take (Try.prog.cellsOf 9)) = some y0 := hf 0 _ rfl
      have g1 : DataW.trod enc Try.prog w base (fun _ => true) held n 9 (([c0, c1, c2, c3].drop 1).take (Try.prog.cellsOf 9)) = some y1 := hf 1 _ rfl
      have g2 : DataW.trod enc Try.prog w base (fun _ => true) held n 3 (([c0, c1, c2, c3].drop 2).take (Try.prog.cellsOf 3)) = some y2 := hf 2 _ rfl
      have g3 : DataW.trod enc Try.prog w base (fun _ => true) held n 3 (([c0, c1, c2, c3].drop 3).take (Try.prog.cellsOf 3)) = some y3 := hf 3 _ rfl
      rw [cellsT9] at g0 g1
      rw [cellsT3] at g2 g3
      obtain ⟨s0, e0, _⟩ := DataW.trod_string Try.underlying9 (x := y0) g0
      obtain ⟨s1, e1, _⟩ := DataW.trod_string Try.underlying9 (x := y1) g1
      obtain ⟨z2, e2, _⟩ := DataW.trod_int Try.underlying3 (x := y2) g2
      obtain ⟨z3, e3, _⟩ := DataW.trod_int Try.underlying3 (x := y3) g3
      simp at e0 e1 e2 e3
      subst e0 e1 e2 e3
      exact ⟨⟨s0, s1, z2, z3⟩, rfl⟩

theorem open44 {v : Value} {fuel : Nat} {x : DataW H × List MemPlace} (h : DataW.trod enc Try.prog w base (fun _ => true) held fuel 44 [v] = some x) : ∃ L, PcsAt pc w (· < w.heap.size) v L := by
  rcases Deep.open_slice Try.underlying44 h with ⟨hcs, _⟩ | ⟨a, len, cap, m, n, D, Pl, hcs, _, hl, hm, hmm, _, hx⟩
  · simp at hcs
    subst hcs
    exact ⟨[], none, 0, rfl, Nat.le_refl _, by show 0 ≤ _; decide, fun h => absurd h (by show ¬ 0 < 0; decide)⟩
  · simp at hcs
    subst hcs
    simp only [if_true] at hmm
    rw [cellsT55] at hx
    obtain ⟨L, hL⟩ : ∃ L : Nat → SP, ∀ i, i < len → ∀ j, j < 4 → w.cell? (a.add (i * 4 + j)) = some (pc (L i) j) := Deep.choose_lt (n := len) (p := fun i p => ∀ j, j < 4 → w.cell? (a.add (i * 4 + j)) = some (pc p j)) (fun i hi => by
      obtain ⟨cs', h1, h2⟩ := hx i (by omega)
      obtain ⟨p, rfl⟩ := open55 h2
      obtain ⟨_, _, h3⟩ := World.cells?_some h1
      refine ⟨p, fun j hj => ?_⟩
      have := h3 j hj
      rw [add_add] at this
      rw [this]
      match j, hj with
      | 0, _ => rfl
      | 1, _ => rfl
      | 2, _ => rfl
      | 3, _ => rfl)
    have hlen : ((List.range len).map L).length = len := by simp
    refine ⟨(List.range len).map L, some a, cap, by rw [hlen], by rw [hlen]; exact hl, by rw [hlen]; unfold maxLen at hm; omega, fun hp => ?_⟩
    rw [hlen] at hp ⊢
    obtain ⟨b, o, rfl, hb, hc⟩ := addr_at (n := len * 4) (f := fun i => pc (L (i / 4)) (i % 4)) (fun i hi => by
      have := hL (i / 4) (by omega) (i % 4) (Nat.mod_lt _ (by decide))
      rwa [show i / 4 * 4 + i % 4 = i by omega] at this) (by omega)
    exact ⟨b, o, rfl, hb, fun i hi => by rw [hc i hi]; dsimp only; rw [getD_map_range (by omega)]⟩

theorem open46 {v : Value} {fuel : Nat} {x : DataW H × List MemPlace} (h : DataW.trod enc Try.prog w base (fun _ => true) held fuel 46 [v] = some x) : ∃ L, LnsAt pc w (· < w.heap.size) v L := by
  rcases Deep.open_slice1 Try.underlying46 cellsT44 h with ⟨hcs, _⟩ | ⟨a, len, cap, m, n, V, D, Pl, hcs, _, hl, hm, hmm, _, hx⟩
  · simp at hcs
    subst hcs
    exact ⟨[], none, 0, fun _ => undef, rfl, Nat.le_refl _, by show 0 ≤ _; decide, fun h => absurd h (by show ¬ 0 < 0; decide), fun j hj => absurd hj (Nat.not_lt_zero _)⟩
  · simp at hcs
    subst hcs
    simp only [if_true] at hmm
    obtain ⟨L, hL⟩ : ∃ L : Nat → List SP, ∀ i, i < len → PcsAt pc w (· < w.heap.size) (V i) (L i) := Deep.choose_lt (n := len) (p := fun i l => PcsAt pc w (· < w.heap.size) (V i) l) (fun i hi => open44 (hx i (by omega)).2)
    have hlen : ((List.range len).map L).length = len := by simp
    refine ⟨(List.range len).map L, some a, cap, V, by rw [hlen], by rw [hlen]; exact hl, by rw [hlen]; unfold maxLen at hm; omega, fun hp => ?_, fun j hj => ?_⟩
    · rw [hlen] at hp ⊢
      obtain ⟨b, o, rfl, hb, hc⟩ := addr_at (n := len) (f := V) (fun i hi => (hx i (by omega)).1) hp
      exact ⟨b, o, rfl, hb, hc⟩
    · rw [hlen] at hj
      rw [getD_map_range hj]
      exact hL j hj

theorem open32 {v : Value} {fuel : Nat} {x : DataW H × List MemPlace} (h : DataW.trod enc Try.prog w base (fun _ => true) held fuel 32 [v] = some x) : ∃ L, TabAt w (· < w.heap.size) v L := by
  rcases Deep.open_slice1 Try.underlying32 cellsT46 h with ⟨hcs, _⟩ | ⟨a, len, cap, m, n, V, D, Pl, hcs, _, hl, hm, hmm, _, hx⟩
  · simp at hcs
    subst hcs
    exact ⟨[], none, 0, fun _ => undef, rfl, Nat.le_refl _, by show 0 ≤ _; decide, fun h => absurd h (by show ¬ 0 < 0; decide), fun j hj => absurd hj (Nat.not_lt_zero _)⟩
  · simp at hcs
    subst hcs
    simp only [if_true] at hmm
    obtain ⟨L, hL⟩ : ∃ L : Nat → List (List SP), ∀ i, i < len → LnsAt pc w (· < w.heap.size) (V i) (L i) := Deep.choose_lt (n := len) (p := fun i l => LnsAt pc w (· < w.heap.size) (V i) l) (fun i hi => open46 (hx i (by omega)).2)
    have hlen : ((List.range len).map L).length = len := by simp
    refine ⟨(List.range len).map L, some a, cap, V, by rw [hlen], by rw [hlen]; exact hl, by rw [hlen]; unfold maxLen at hm; omega, fun hp => ?_, fun j hj => ?_⟩
    · rw [hlen] at hp ⊢
      obtain ⟨b, o, rfl, hb, hc⟩ := addr_at (n := len) (f := V) (fun i hi => (hx i (by omega)).1) hp
      exact ⟨b, o, rfl, hb, hc⟩
    · rw [hlen] at hj
      rw [getD_map_range hj]
      exact hL j hj
end
end Go.Proofs.Qxb6603470a
