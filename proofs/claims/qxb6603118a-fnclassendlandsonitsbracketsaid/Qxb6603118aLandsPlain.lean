/-
  PLAIN: where no backslash and no '[' follows, the answer is the first ']' that is not the class's first member.
-/
import Derived.Test.Qxb6603118aBridge
namespace Go.Proofs.Qxb6603118a.Cls

/-- No backslash and no '[' from a place on. -/
def noEsc (l : List UInt8) (a : Nat) : Bool := (l.drop a).all fun c => !(c == 92) && !(c == 91)

theorem noEsc_out (s : ByteArray) (k : Nat) (h : s.size ≤ k) : noEsc s.data.toList k = true := by
  unfold noEsc; rw [drop_out s _ h]; rfl
theorem noEsc_bs (s : ByteArray) (k : Nat) (h : k < s.size) (e : ((s[k].toNat : Int) == 92) = true) : noEsc s.data.toList k = false := by
  unfold noEsc; rw [drop_at s k h, List.all_cons, is92 e]; rfl
theorem noEsc_open (s : ByteArray) (k : Nat) (h : k < s.size) (e : ((s[k].toNat : Int) == 91) = true) : noEsc s.data.toList k = false := by
  unfold noEsc; rw [drop_at s k h, List.all_cons, u8_eq (n := 91) (by decide) e]; rfl
theorem noEsc_next (s : ByteArray) (k : Nat) (h : k < s.size) (e : ((s[k].toNat : Int) == 92) = false) (e2 : ((s[k].toNat : Int) == 91) = false) : noEsc s.data.toList k = noEsc s.data.toList (k + 1) := by
  unfold noEsc; rw [drop_at s k h, List.all_cons]
  have h1 : (s[k] == 92) = false := by simpa using no92 e
  have h2 : (s[k] == 91) = false := by have := u8_ne (n := 91) (by decide) e2; simpa using this
  rw [h1, h2]; rfl

theorem noEsc_all {l : List UInt8} {a : Nat} (h : noEsc l a = true) (j : Nat) (hj : a ≤ j) : l[j]? ≠ some 92 ∧ l[j]? ≠ some 91 := by
  unfold noEsc at h
  rw [List.all_eq_true] at h
  refine ⟨fun e => ?_, fun e => ?_⟩
  all_goals
    have hm : _ ∈ l.drop a := List.mem_iff_getElem?.2 ⟨j - a, by rw [List.getElem?_drop, show a + (j - a) = j by omega]; exact e⟩
    have := h _ hm
    revert this; decide

/-- The place at which the law's own search stops. -/
def stopAt (l : List UInt8) (n j : Nat) : Prop := l[j]? = some 93 ∧ j ≠ n + 1 ∧ ¬ (j = n + 2 ∧ l[n + 1]? = some 94)

theorem plain_end (l : List UInt8) (n : Nat) (hn : n < l.length) (hno : noEsc l (n + 1) = true) :
    classEnd l n ≤ l.length ∧ (classEnd l n < l.length → stopAt l n (classEnd l n)) ∧ ∀ j, n + 1 ≤ j → j < classEnd l n → ¬ stopAt l n j := by
  have hb := classEnd_bounds l n hn
  refine ⟨?_, ?_, ?_⟩
  · by_cases hq : n + 1 < l.length
    · by_cases he : classEnd l n = l.length + 1
      · have := classEnd_over l n hn he
        exact absurd this (noEsc_all hno (l.length - 1) (by omega)).1
      · omega
    · have : l.drop (n + 1) = [] := by rw [List.drop_eq_nil_iff]; omega
      unfold classEnd; rw [this]
      have : endOf [] = 0 := by decide
      rw [this]; omega
  · intro h
    have := classEnd_hit l n h
    exact ⟨this.1, by omega, fun ⟨e, f⟩ => by have := this.2.2 f; omega⟩
  · intro j h1 h2 ⟨h3, h4, h5⟩
    rcases classEnd_plain l n (fun j hj => noEsc_all hno j hj) j h1 h2 h3 with e | e
    · exact h4 e
    · exact h5 e

theorem plain_hit (l : List UInt8) (n : Nat) (hn : n < l.length) (hno : noEsc l (n + 1) = true) (k : Nat) (hk : n + 1 ≤ k) (hl : k < l.length) (h0 : ∀ j, n + 1 ≤ j → j < k → ¬ stopAt l n j) (h : stopAt l n k) : classEnd l n = k := by
  obtain ⟨h1, h2, h3⟩ := plain_end l n hn hno
  have hb := (classEnd_bounds l n hn).1
  rcases Nat.lt_trichotomy (classEnd l n) k with q | q | q
  · exact absurd (h2 (by omega)) (h0 _ hb q)
  · exact q
  · exact absurd h (h3 k hk q)
theorem plain_none (l : List UInt8) (n : Nat) (hn : n < l.length) (hno : noEsc l (n + 1) = true) (h0 : ∀ j, n + 1 ≤ j → j < l.length → ¬ stopAt l n j) : classEnd l n = l.length := by
  obtain ⟨h1, h2, _⟩ := plain_end l n hn hno
  have hb := (classEnd_bounds l n hn).1
  by_cases q : classEnd l n < l.length
  · exact absurd (h2 q) (h0 _ hb q)
  · omega

/-! ### The search's tests, as the walk leaves them -/
section
variable (s : ByteArray) (n k : Nat)
theorem stop_yes (h : k < s.size) (e : ((s[k].toNat : Int) == 93) = true) (k1 : ((k : Int) == (n : Int) + 1) = false) (k2 : ((k : Int) == (n : Int) + 2) = false) : stopAt s.data.toList n k := by
  have a1 := beq_eq_false_iff_ne.1 k1
  have a2 := beq_eq_false_iff_ne.1 k2
  exact ⟨by rw [get_at s k h, is93 e], by omega, fun q => by have := q.1; omega⟩
theorem stop_yes2 (h : k < s.size) (e : ((s[k].toNat : Int) == 93) = true) (k1 : ((k : Int) == (n : Int) + 1) = false) (h1 : n + 1 < s.size) (e4 : ((s[n + 1].toNat : Int) == 94) = false) : stopAt s.data.toList n k := by
  have a1 := beq_eq_false_iff_ne.1 k1
  exact ⟨by rw [get_at s k h, is93 e], by omega, fun q => by have := q.2; rw [get_at s _ h1] at this; exact no94 e4 (Option.some.inj this)⟩
theorem stop_no93 (h : k < s.size) (e : ((s[k].toNat : Int) == 93) = false) : ¬ stopAt s.data.toList n k := by
  intro ⟨q, _⟩
  rw [get_at s k h] at q
  exact no93 e (Option.some.inj q)
theorem stop_no1 (k1 : ((k : Int) == (n : Int) + 1) = true) : ¬ stopAt s.data.toList n k := by
  intro ⟨_, q, _⟩
  have := beq_iff_eq.1 k1
  omega
theorem stop_no2 (k2 : ((k : Int) == (n : Int) + 2) = true) (h1 : n + 1 < s.size) (e4 : ((s[n + 1].toNat : Int) == 94) = true) : ¬ stopAt s.data.toList n k := by
  intro ⟨_, _, q⟩
  have := beq_iff_eq.1 k2
  exact q ⟨by omega, by rw [get_at s _ h1, is94 e4]⟩
theorem stop_ext {l : List UInt8} {n k : Nat} (h : ∀ j, n + 1 ≤ j → j < k → ¬ stopAt l n j) (hk : ¬ stopAt l n k) : ∀ j, n + 1 ≤ j → j < k + 1 → ¬ stopAt l n j := by
  intro j h1 h2
  by_cases e : j = k
  · subst e; exact hk
  · exact h j h1 (by omega)
theorem hit_at (hn : n < s.size) (hno : noEsc s.data.toList (n + 1) = true) {r : Nat} (hr : classEnd s.data.toList n = r) (hk : n + 1 ≤ k) (hl : k < s.size) (h0 : ∀ j, n + 1 ≤ j → j < k → ¬ stopAt s.data.toList n j) (h : stopAt s.data.toList n k) : ((r : Int) != (k : Int)) = false := by
  have := plain_hit s.data.toList n (by simpa using hn) hno k hk (by simpa using hl) h0 h
  rw [← hr, this]; simp
theorem none_at (hn : n < s.size) (hno : noEsc s.data.toList (n + 1) = true) {r : Nat} (hr : classEnd s.data.toList n = r) (h0 : ∀ j, n + 1 ≤ j → j < s.size → ¬ stopAt s.data.toList n j) : ((r : Int) != (s.size : Int)) = false := by
  have := plain_none s.data.toList n (by simpa using hn) hno (by simpa using h0)
  rw [← hr, this]; simp
end
end Go.Proofs.Qxb6603118a.Cls
