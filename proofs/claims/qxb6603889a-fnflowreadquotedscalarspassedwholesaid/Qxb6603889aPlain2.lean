/-
  PLAIN: a text written as a quoted scalar: each byte as its piece, between two quotes.
-/
import Derived.RowKit
namespace Go.Proofs.Qxb6603889a.Quo

/-- A byte's piece, in a double-quoted and in a single-quoted scalar. -/
def fd (c : Int) : List Int := if c == 34 || c == 92 then [92, c] else [c]
def fs (c : Int) : List Int := if c == 39 then [39, 39] else [c]

/-- The opening quote and the first k bytes' pieces. -/
def esc (f : Int → List Int) (h : Int) (zs : List Int) : Nat → List Int
  | 0 => [h]
  | k + 1 => esc f h zs k ++ f (zs.getD k 0)
/-- The scalar. -/
def full (f : Int → List Int) (h : Int) (zs : List Int) (n : Nat) : List Int := esc f h zs n ++ [h]

theorem fd_len (c : Int) : (fd c).length ≤ 2 := by unfold fd; split <;> simp
theorem fs_len (c : Int) : (fs c).length ≤ 2 := by unfold fs; split <;> simp
section
variable (f : Int → List Int) (h : Int) (zs : List Int)
theorem esc_len (hf : ∀ c, (f c).length ≤ 2) : ∀ k, (esc f h zs k).length ≤ 2 * k + 1
  | 0 => by simp [esc]
  | k + 1 => by have := esc_len hf k; have := hf (zs.getD k 0); simp only [esc, List.length_append]; omega
theorem esc_pos : ∀ k, 1 ≤ (esc f h zs k).length
  | 0 => by simp [esc]
  | k + 1 => by have := esc_pos k; simp only [esc, List.length_append]; omega
theorem esc_pre (n : Nat) : ∀ j, j ≤ n → ∃ r, full f h zs n = esc f h zs j ++ r := by
  intro j hj
  induction n with
  | zero => obtain rfl : j = 0 := by omega
            exact ⟨[h], rfl⟩
  | succ n ih =>
    by_cases e : j = n + 1
    · subst e; exact ⟨[h], rfl⟩
    · obtain ⟨r, hr⟩ : ∃ r, esc f h zs n = esc f h zs j ++ r := by
        clear ih
        have hjn : j ≤ n := by omega
        clear e hj
        induction n with
        | zero => obtain rfl : j = 0 := by omega
                  exact ⟨[], by simp⟩
        | succ n ih =>
          by_cases e : j = n + 1
          · subst e; exact ⟨[], by simp⟩
          · obtain ⟨r, hr⟩ := ih (by omega)
            exact ⟨r ++ f (zs.getD n 0), by rw [esc, hr, List.append_assoc]⟩
      exact ⟨r ++ f (zs.getD n 0) ++ [h], by rw [full, esc, hr]; simp⟩
theorem full_len (n : Nat) : (full f h zs n).length = (esc f h zs n).length + 1 := by simp [full]
theorem full_head (n : Nat) : (full f h zs n).getD 0 0 = h := by
  obtain ⟨r, hr⟩ := esc_pre f h zs n 0 (Nat.zero_le _)
  rw [hr]; rfl
theorem full_last (n : Nat) : (full f h zs n).getD (esc f h zs n).length 0 = h := by
  simp [full]
theorem full_at (n j : Nat) (hj : j < n) (i : Nat) (hi : i < (f (zs.getD j 0)).length) :
    (full f h zs n).getD ((esc f h zs j).length + i) 0 = (f (zs.getD j 0)).getD i 0 ∧ (esc f h zs j).length + i < (full f h zs n).length := by
  obtain ⟨r, hr⟩ := esc_pre f h zs n (j + 1) hj
  rw [hr, esc]
  generalize f (zs.getD j 0) = l at *
  generalize esc f h zs j = e at *
  constructor
  · rw [List.append_assoc, List.getD_eq_getElem?_getD, List.getD_eq_getElem?_getD, List.getElem?_append_right (by omega), List.getElem?_append_left (by omega)]
    rw [show e.length + i - e.length = i by omega]
  · simp only [List.length_append]; omega
end

/-- Where the reader stands, inside the scalar or behind it. -/
def Pos (f : Int → List Int) (h : Int) (zs : List Int) (n : Nat) (q0 : Int) (g0 : Bool) (p : Nat) (q : Int) (g : Bool) : Prop :=
  (p = 0 ∧ q = q0 ∧ g = g0) ∨ (∃ j, j ≤ n ∧ p = (esc f h zs j).length ∧ q = h ∧ g = true) ∨ (p = (full f h zs n).length ∧ q = 0 ∧ g = true)
theorem Pos.le {f : Int → List Int} {h : Int} {zs : List Int} {n : Nat} {q0 : Int} {g0 : Bool} {p : Nat} {q : Int} {g : Bool} (hp : Pos f h zs n q0 g0 p q g) : p ≤ (full f h zs n).length := by
  rcases hp with ⟨rfl, _⟩ | ⟨j, hj, rfl, _⟩ | ⟨rfl, _⟩
  · omega
  · obtain ⟨r, hr⟩ := esc_pre f h zs n j hj
    rw [hr]; simp
  · omega
theorem Pos.done {f : Int → List Int} {h : Int} {zs : List Int} {n : Nat} {q0 : Int} {g0 : Bool} {p : Nat} {q : Int} {g : Bool} (hp : Pos f h zs n q0 g0 p q g) (e : p = (full f h zs n).length) : q = 0 ∧ g = true := by
  have hl := full_len f h zs n
  rcases hp with ⟨rfl, _⟩ | ⟨j, hj, rfl, _⟩ | ⟨_, h1, h2⟩
  · omega
  · exfalso
    have : ∀ n, j ≤ n → (esc f h zs j).length ≤ (esc f h zs n).length := by
      intro n
      induction n with
      | zero => intro hj; obtain rfl : j = 0 := by omega
                exact Nat.le_refl _
      | succ n ih =>
        intro hj
        by_cases e : j = n + 1
        · subst e; exact Nat.le_refl _
        · have := ih (by omega); simp only [esc, List.length_append]; omega
    have := this n hj
    omega
  · exact ⟨h1, h2⟩
/-- The reader's steps. -/
theorem dq_start (zs : List Int) (n : Nat) (q0 : Int) (g0 : Bool) : Pos fd 34 zs n q0 g0 1 34 true := .inr (.inl ⟨0, Nat.zero_le _, rfl, rfl, rfl⟩)
theorem sq_start (zs : List Int) (n : Nat) (q0 : Int) (g0 : Bool) : Pos fs 39 zs n q0 g0 1 39 true := .inr (.inl ⟨0, Nat.zero_le _, rfl, rfl, rfl⟩)
section
variable {f : Int → List Int} {h : Int} {zs : List Int} {n : Nat} {q0 : Int} {g0 : Bool}
theorem pos_next {j p : Nat} (hj : j < n) (hp : p = (esc f h zs j).length + (f (zs.getD j 0)).length) : Pos f h zs n q0 g0 p h true :=
  .inr (.inl ⟨j + 1, hj, by rw [hp, esc, List.length_append], rfl, rfl⟩)
theorem pos_end {p : Nat} (hp : p = (esc f h zs n).length + 1) : Pos f h zs n q0 g0 p 0 true := .inr (.inr ⟨by rw [hp, full_len], rfl, rfl⟩)
end
theorem fd_special {c : Int} (h : (c == 34 || c == 92) = true) : fd c = [92, c] := by unfold fd; rw [if_pos h]
theorem fd_plain {c : Int} (h : (c == 34 || c == 92) = false) : fd c = [c] := by unfold fd; rw [if_neg (by rw [h]; simp)]
theorem fs_special {c : Int} (h : (c == 39) = true) : fs c = [39, 39] := by unfold fs; rw [if_pos h]
theorem fs_plain {c : Int} (h : (c == 39) = false) : fs c = [c] := by unfold fs; rw [if_neg (by rw [h]; simp)]
end Go.Proofs.Qxb6603889a.Quo
