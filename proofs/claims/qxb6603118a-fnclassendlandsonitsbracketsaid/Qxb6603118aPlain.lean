/-
  THE PLAIN LAW of classEnd: no Go in sight.
-/
import Derived.Lib.Index
import Derived.Lib.IndexBytes
namespace Go.Proofs.Qxb6603118a.Cls

/-- The loop, from a place on: 'k' bytes are still to be passed unread. How far it comes. -/
def scan : List UInt8 → Nat → Nat
  | [], k => k
  | _ :: r, k + 1 => scan r k + 1
  | c :: r, 0 =>
    if c = 92 then scan r 1 + 1
    else if Lib.hasPrefix (c :: r) [91, 58] = true ∧ 0 ≤ Lib.index (r.drop 1) [58, 93] then scan r ((Lib.index (r.drop 1) [58, 93]).toNat + 3) + 1
    else if c = 93 then 0
    else scan r 0 + 1

theorem scan_skip : ∀ (l : List UInt8) (k : Nat), scan l k = k + scan (l.drop k) 0
  | [], k => by simp [scan]
  | c :: r, 0 => by simp
  | c :: r, k + 1 => by
    rw [scan, scan_skip r k, List.drop_succ_cons]; omega

/-- The first byte that the loop reads: behind a '^', and behind a ']'. -/
def caret (l : List UInt8) : Nat := if l.head? = some 94 then 1 else 0
def first (l : List UInt8) : Nat := if (l.drop (caret l)).head? = some 93 then caret l + 1 else caret l
def endOf (l : List UInt8) : Nat := first l + scan (l.drop (first l)) 0
def classEnd (re : List UInt8) (start : Nat) : Nat := start + 1 + endOf (re.drop (start + 1))

theorem index_room : ∀ (s : List UInt8) (a b : UInt8), 0 ≤ Lib.index s [a, b] → (Lib.index s [a, b]).toNat + 2 ≤ s.length
  | [], a, b => by simp [Lib.index]
  | c :: r, a, b => by
    have ih := index_room r a b
    unfold Lib.index
    split
    · rename_i h
      intro _
      cases r with
      | nil => simp [List.isPrefixOf] at h
      | cons d t => simp
    · split
      · simp
      · rename_i h
        intro h0
        have : 0 ≤ Lib.index r [a, b] := by
          have := Lib.index_ge r [a, b]
          have h2 : Lib.index r [a, b] ≠ -1 := by simpa using h
          omega
        have := ih this
        simp; omega

theorem scan_le : ∀ (l : List UInt8) (k : Nat), k ≤ l.length → scan l k ≤ l.length + 1
  | [], k => by simp [scan]; omega
  | c :: r, k + 1 => fun h => by
    rw [scan]; have := scan_le r k (by simpa using h); simp; omega
  | c :: r, 0 => fun _ => by
    rw [scan]
    split
    · cases r with
      | nil => simp [scan]
      | cons d t => have := scan_le (d :: t) 1 (by simp); simp at this ⊢; omega
    · split
      · rename_i h
        have hr := index_room _ _ _ h.2
        rw [List.length_drop] at hr
        have := scan_le r ((Lib.index (r.drop 1) [58, 93]).toNat + 3) (by omega)
        rw [List.length_cons]; omega
      · split
        · omega
        · have := scan_le r 0 (by simp)
          simp; omega

theorem scan_over : ∀ (l : List UInt8) (k : Nat), k ≤ l.length → scan l k = l.length + 1 → l.getLast? = some 92
  | [], k => by simp [scan]; omega
  | c :: r, k + 1 => fun h e => by
    rw [scan] at e
    have := scan_over r k (by simpa using h) (by simp at e; omega)
    rw [List.getLast?_cons, this]; rfl
  | c :: r, 0 => fun _ e => by
    rw [scan] at e
    split at e
    · rename_i hc
      cases r with
      | nil => simp [hc]
      | cons d t =>
        have := scan_over (d :: t) 1 (by simp) (by simp at e ⊢; omega)
        rw [List.getLast?_cons, this]; rfl
    · split at e
      · rename_i h
        have hr := index_room _ _ _ h.2
        rw [List.length_drop] at hr
        rw [List.length_cons] at e
        have := scan_over r ((Lib.index (r.drop 1) [58, 93]).toNat + 3) (by omega) (by omega)
        rw [List.getLast?_cons, this]; rfl
      · split at e
        · simp at e
        · have := scan_over r 0 (by simp) (by simp at e; omega)
          rw [List.getLast?_cons, this]; rfl

theorem scan_hit : ∀ (l : List UInt8) (k : Nat), scan l k < l.length → l[scan l k]? = some 93
  | [], k => by simp
  | c :: r, k + 1 => fun h => by
    rw [scan] at h ⊢
    rw [List.getElem?_cons_succ]; exact scan_hit r k (by simpa using h)
  | c :: r, 0 => fun h => by
    rw [scan] at h ⊢
    split at h
    · rename_i hc; rw [if_pos hc, List.getElem?_cons_succ]; exact scan_hit r 1 (by simpa using h)
    · rename_i hc; rw [if_neg hc]
      split at h
      · rename_i h2; rw [if_pos h2, List.getElem?_cons_succ]; exact scan_hit r _ (by simpa using h)
      · rename_i h2; rw [if_neg h2]
        split at h
        · rename_i h3; rw [if_pos h3]; simp [h3]
        · rename_i h3; rw [if_neg h3, List.getElem?_cons_succ]; exact scan_hit r 0 (by simpa using h)

theorem scan_pos (l : List UInt8) (h0 : l ≠ []) (h : l.head? ≠ some 93) : 1 ≤ scan l 0 := by
  cases l with
  | nil => exact absurd rfl h0
  | cons c r =>
    rw [scan]
    simp at h
    split
    · omega
    · split
      · omega
      · omega

/-- No backslash, no '[': the first ']'. -/
theorem scan_plain : ∀ (l : List UInt8), (∀ c ∈ l, c ≠ 92 ∧ c ≠ 91) → ∀ j, j < scan l 0 → l[j]? ≠ some 93
  | [], _ => by simp [scan]
  | c :: r, h => fun j hj => by
    have hc := h c (by simp)
    rw [scan, if_neg hc.1, if_neg (by simp [Lib.hasPrefix, List.isPrefixOf]; intro e; exact absurd e.symm hc.2)] at hj
    split at hj
    · omega
    · rename_i h3
      cases j with
      | zero => simpa using h3
      | succ j => rw [List.getElem?_cons_succ]; exact scan_plain r (fun c hc => h c (by simp [hc])) j (by omega)

theorem first_le2 (l : List UInt8) : first l ≤ l.length := by
  unfold first caret
  cases l with
  | nil => simp
  | cons c r => cases r with
    | nil => by_cases h : c = 94 <;> by_cases h' : c = 93 <;> simp [h, h'] <;> (try split) <;> simp
    | cons d t => simp; split <;> split <;> omega

theorem endOf_le (l : List UInt8) : endOf l ≤ l.length + 1 := by
  unfold endOf
  have h1 := first_le2 l
  have h2 := scan_le (l.drop (first l)) 0 (by simp)
  simp at h2; omega

theorem endOf_over (l : List UInt8) (h : endOf l = l.length + 1) : l.getLast? = some 92 := by
  unfold endOf at h
  have h1 := first_le2 l
  have h2 := scan_over (l.drop (first l)) 0 (by simp) (by simp; omega)
  rw [List.getLast?_drop] at h2
  split at h2
  · simp at h2
  · exact h2

theorem endOf_hit (l : List UInt8) (h : endOf l < l.length) : l[endOf l]? = some 93 := by
  unfold endOf at h ⊢
  have h2 := scan_hit (l.drop (first l)) 0 (by simp; omega)
  rwa [List.getElem?_drop] at h2

/-- Where the answer lies inside the text it is not the class's first member. -/
theorem endOf_pos (l : List UInt8) (h : endOf l < l.length) : 1 ≤ endOf l ∧ (l.head? = some 94 → 2 ≤ endOf l) := by
  have key : first l < l.length := by unfold endOf at h; omega
  by_cases h94 : l.head? = some 94
  · have hc : caret l = 1 := by simp [caret, h94]
    by_cases h93 : (l.drop 1).head? = some 93
    · have hf : first l = 2 := by simp only [first, hc]; rw [if_pos h93]
      unfold endOf; rw [hf]; exact ⟨by omega, fun _ => by omega⟩
    · have hf : first l = 1 := by simp only [first, hc]; rw [if_neg h93]
      have := scan_pos (l.drop 1) (by intro e; have := congrArg List.length e; simp at this; omega) h93
      unfold endOf; rw [hf]; exact ⟨by omega, fun _ => by omega⟩
  · have hc : caret l = 0 := by simp [caret, h94]
    refine ⟨?_, fun e => absurd e h94⟩
    by_cases h93 : l.head? = some 93
    · have hf : first l = 1 := by simp [first, hc, h93]
      unfold endOf; rw [hf]; omega
    · have hf : first l = 0 := by simp only [first, hc, List.drop_zero]; rw [if_neg h93]
      have := scan_pos l (by intro e; subst e; simp at key) h93
      unfold endOf; rw [hf]; simpa using this

/-- No backslash, no '[': no ']' ahead of the answer but the class's first member. -/
theorem endOf_plain (l : List UInt8) (hl : ∀ c ∈ l, c ≠ 92 ∧ c ≠ 91) (j : Nat) (hj : j < endOf l) (h : l[j]? = some 93) : j = 0 ∨ (j = 1 ∧ l.head? = some 94) := by
  have hp := scan_plain (l.drop (first l)) (fun c hc => hl c (List.mem_of_mem_drop hc))
  unfold endOf at hj
  by_cases hlt : j < first l
  · unfold first caret at hlt
    by_cases h94 : l.head? = some 94
    · rw [if_pos h94] at hlt
      split at hlt
      · by_cases j0 : j = 0
        · exact .inl j0
        · exact .inr ⟨by omega, h94⟩
      · exact .inl (by omega)
    · rw [if_neg h94] at hlt
      split at hlt
      · exact .inl (by omega)
      · omega
  · have := hp (j - first l) (by omega)
    rw [List.getElem?_drop, show first l + (j - first l) = j by omega] at this
    exact absurd h this

/-! ### The answer over the whole text -/
variable (re : List UInt8) (start : Nat)

theorem classEnd_bounds (h : start < re.length) : start + 1 ≤ classEnd re start ∧ classEnd re start ≤ re.length + 1 := by
  have := endOf_le (re.drop (start + 1))
  unfold classEnd
  simp at this; omega

theorem classEnd_hit (h : classEnd re start < re.length) : re[classEnd re start]? = some 93 ∧ start + 2 ≤ classEnd re start ∧ (re[start + 1]? = some 94 → start + 3 ≤ classEnd re start) := by
  unfold classEnd at h ⊢
  have hlt : endOf (re.drop (start + 1)) < (re.drop (start + 1)).length := by simp; omega
  have h1 := endOf_hit _ hlt
  have h2 := endOf_pos _ hlt
  rw [List.getElem?_drop] at h1
  refine ⟨h1, by omega, fun e => ?_⟩
  have := h2.2 (by rw [List.head?_drop]; exact e)
  omega

theorem classEnd_over (hs : start < re.length) (h : classEnd re start = re.length + 1) : re[re.length - 1]? = some 92 := by
  unfold classEnd at h
  have h1 := endOf_over (re.drop (start + 1)) (by simp; omega)
  rw [List.getLast?_drop] at h1
  split at h1
  · simp at h1
  · rw [← List.getLast?_eq_getElem?]; exact h1

theorem classEnd_plain (hno : ∀ j, start + 1 ≤ j → re[j]? ≠ some 92 ∧ re[j]? ≠ some 91) (j : Nat) (h1 : start + 1 ≤ j) (h2 : j < classEnd re start) (h : re[j]? = some 93) : j = start + 1 ∨ (j = start + 2 ∧ re[start + 1]? = some 94) := by
  unfold classEnd at h2
  have hl : ∀ c ∈ re.drop (start + 1), c ≠ 92 ∧ c ≠ 91 := by
    intro c hc
    obtain ⟨i, hi⟩ := List.mem_iff_getElem?.1 hc
    rw [List.getElem?_drop] at hi
    have := hno (start + 1 + i) (by omega)
    rw [hi] at this
    simpa using this
  have := endOf_plain _ hl (j - (start + 1)) (by omega) (by rw [List.getElem?_drop, show start + 1 + (j - (start + 1)) = j by omega]; exact h)
  rw [List.head?_drop] at this
  rcases this with e | ⟨e, f⟩
  · exact .inl (by omega)
  · exact .inr ⟨by omega, f⟩

/-! ### It reads only what follows -/
theorem classEnd_shift (p : List UInt8) : classEnd (p ++ re) (p.length + start) = p.length + classEnd re start := by
  unfold classEnd
  rw [show p.length + start + 1 = p.length + (start + 1) by omega, List.drop_append, List.drop_of_length_le (by omega)]
  simp; omega

theorem classEnd_same (re2 : List UInt8) (h : re2.drop (start + 1) = re.drop (start + 1)) : classEnd re2 start = classEnd re start := by
  unfold classEnd; rw [h]

end Go.Proofs.Qxb6603118a.Cls
