/-
  THE BRIDGE: what the walk of classEnd leaves as tests, in the plain law's words.
-/
import Derived.Test.Qxb6603118aPlain
import Derived.Lib.Strings
namespace Go.Proofs.Qxb6603118a.Cls

theorem u8_eq {a : UInt8} {n : Nat} (h : n < 256) (e : ((a.toNat : Int) == (n : Int)) = true) : a = UInt8.ofNat n := by
  have : a.toNat = n := by have := beq_iff_eq.1 e; omega
  apply UInt8.toNat.inj
  rw [this, UInt8.toNat_ofNat']; omega
theorem u8_ne {a : UInt8} {n : Nat} (h : n < 256) (e : ((a.toNat : Int) == (n : Int)) = false) : a ≠ UInt8.ofNat n := by
  intro ha
  have := beq_eq_false_iff_ne.1 e
  apply this
  rw [ha, UInt8.toNat_ofNat']; omega

theorem is92 {a : UInt8} (e : ((a.toNat : Int) == 92) = true) : a = 92 := u8_eq (n := 92) (by decide) e
theorem no92 {a : UInt8} (e : ((a.toNat : Int) == 92) = false) : ¬ a = 92 := u8_ne (n := 92) (by decide) e
theorem is93 {a : UInt8} (e : ((a.toNat : Int) == 93) = true) : a = 93 := u8_eq (n := 93) (by decide) e
theorem no93 {a : UInt8} (e : ((a.toNat : Int) == 93) = false) : ¬ a = 93 := u8_ne (n := 93) (by decide) e
theorem is94 {a : UInt8} (e : ((a.toNat : Int) == 94) = true) : a = 94 := u8_eq (n := 94) (by decide) e
theorem no94 {a : UInt8} (e : ((a.toNat : Int) == 94) = false) : ¬ a = 94 := u8_ne (n := 94) (by decide) e

theorem get_at (s : ByteArray) (k : Nat) (h : k < s.size) : s.data.toList[k]? = some s[k] := by
  rw [List.getElem?_eq_getElem (by simpa using h)]; rfl
theorem get_out (s : ByteArray) (k : Nat) (h : s.size ≤ k) : s.data.toList[k]? = none := by
  rw [List.getElem?_eq_none (by simpa using h)]
theorem drop_at (s : ByteArray) (k : Nat) (h : k < s.size) : s.data.toList.drop k = s[k] :: s.data.toList.drop (k + 1) := by
  rw [List.drop_eq_getElem_cons (by simpa using h)]; rfl
theorem drop_out (s : ByteArray) (k : Nat) (h : s.size ≤ k) : s.data.toList.drop k = [] := by
  rw [List.drop_eq_nil_iff]; simpa using h
/-- A tail of the text, in the walk's own spelling. -/
abbrev tl (s : ByteArray) (k : Nat) : List UInt8 := List.take (s.size - k) (List.drop k s.data.toList)
theorem tail_list (s : ByteArray) (k : Nat) : tl s k = s.data.toList.drop k := by
  unfold tl
  rw [List.take_of_length_le (by simp)]

/-- What the loop comes to from k on. -/
def from_ (s : ByteArray) (k : Nat) : Nat := k + scan (s.data.toList.drop k) 0

/-! ### The start -/
section
variable (s : ByteArray) (n : Nat)
theorem start_at (k : Nat) (h : first (s.data.toList.drop (n + 1)) = k) : classEnd s.data.toList n = from_ s (n + 1 + k) := by
  unfold classEnd endOf from_
  rw [h, List.drop_drop]; omega
theorem caret_of (h1 : n + 1 < s.size) (e1 : ((s[n + 1].toNat : Int) == 94) = true) : caret (s.data.toList.drop (n + 1)) = 1 := by
  unfold caret; rw [List.head?_drop, get_at s _ h1, is94 e1]; rfl
theorem caret_not (h1 : n + 1 < s.size) (e1 : ((s[n + 1].toNat : Int) == 94) = false) : caret (s.data.toList.drop (n + 1)) = 0 := by
  unfold caret; rw [List.head?_drop, get_at s _ h1, if_neg]
  intro e; exact no94 e1 (Option.some.inj e)
theorem start1 (h1 : n + 1 < s.size) (e1 : ((s[n + 1].toNat : Int) == 94) = true) (h2 : n + 1 + 1 < s.size) (e2 : ((s[n + 1 + 1].toNat : Int) == 93) = true) :
    classEnd s.data.toList n = from_ s (n + 3) := by
  refine start_at s n 2 ?_
  unfold first
  rw [caret_of s n h1 e1, List.drop_drop, List.head?_drop, get_at s _ h2, is93 e2]; rfl
theorem start2 (h1 : n + 1 < s.size) (e1 : ((s[n + 1].toNat : Int) == 94) = true) (h2 : n + 1 + 1 < s.size) (e2 : ((s[n + 1 + 1].toNat : Int) == 93) = false) :
    classEnd s.data.toList n = from_ s (n + 2) := by
  refine start_at s n 1 ?_
  unfold first
  rw [caret_of s n h1 e1, List.drop_drop, List.head?_drop, get_at s _ h2, if_neg]
  intro e; exact no93 e2 (Option.some.inj e)
theorem start3 (h1 : n + 1 < s.size) (e1 : ((s[n + 1].toNat : Int) == 94) = true) (h2 : s.size ≤ n + 1 + 1) :
    classEnd s.data.toList n = from_ s (n + 2) := by
  refine start_at s n 1 ?_
  unfold first
  rw [caret_of s n h1 e1, List.drop_drop, List.head?_drop, get_out s _ h2, if_neg (by simp)]
theorem start4 (h1 : n + 1 < s.size) (e1 : ((s[n + 1].toNat : Int) == 94) = false) (e2 : ((s[n + 1].toNat : Int) == 93) = true) :
    classEnd s.data.toList n = from_ s (n + 2) := by
  refine start_at s n 1 ?_
  unfold first
  rw [caret_not s n h1 e1, List.drop_zero, List.head?_drop, get_at s _ h1, is93 e2]; rfl
theorem start5 (h1 : n + 1 < s.size) (e1 : ((s[n + 1].toNat : Int) == 94) = false) (e2 : ((s[n + 1].toNat : Int) == 93) = false) :
    classEnd s.data.toList n = from_ s (n + 1) := by
  refine start_at s n 0 ?_
  unfold first
  rw [caret_not s n h1 e1, List.drop_zero, List.head?_drop, get_at s _ h1, if_neg]
  intro e; exact no93 e2 (Option.some.inj e)
theorem start6 (h1 : s.size ≤ n + 1) : classEnd s.data.toList n = from_ s (n + 1) := by
  refine start_at s n 0 ?_
  rw [drop_out s _ h1]; rfl
end

/-! ### A round -/
section
variable (s : ByteArray) (k : Nat)
theorem round_out (h : s.size ≤ k) : from_ s k = k := by
  unfold from_; rw [drop_out s _ h]; rfl
theorem round_bs (h : k < s.size) (e : ((s[k].toNat : Int) == 92) = true) : from_ s k = from_ s (k + 2) := by
  unfold from_
  rw [drop_at s k h, scan, if_pos (is92 e), scan_skip, List.drop_drop, show k + 1 + 1 = k + 2 from rfl]; omega
theorem index_eq : Lib.index ((s.data.toList.drop (k + 1)).drop 1) [58, 93] = Lib.index (tl s (k + 2)) [58, 93] := by
  rw [tail_list, List.drop_drop]
theorem round_named (h : k < s.size) (e : ((s[k].toNat : Int) == 92) = false) (hp : Lib.hasPrefix (tl s k) [91, 58] = true)
    (hi : 0 ≤ Lib.index (tl s (k + 2)) [58, 93]) :
    from_ s k = from_ s (k + ((Lib.index (tl s (k + 2)) [58, 93]).toNat + 4)) := by
  rw [tail_list, drop_at s k h] at hp
  unfold from_
  rw [drop_at s k h, scan, if_neg (no92 e), if_pos ⟨hp, by rw [index_eq s k]; exact hi⟩, index_eq s k, scan_skip, List.drop_drop]
  rw [show k + 1 + ((Lib.index (tl s (k + 2)) [58, 93]).toNat + 3) = k + ((Lib.index (tl s (k + 2)) [58, 93]).toNat + 4) by omega]
  omega
theorem named_room (h : k + 2 ≤ s.size) (hi : 0 ≤ Lib.index (tl s (k + 2)) [58, 93]) :
    k + ((Lib.index (tl s (k + 2)) [58, 93]).toNat + 4) ≤ s.size := by
  have := index_room _ _ _ hi
  have h2 : (tl s (k + 2)).length = s.size - (k + 2) := by rw [tail_list, List.length_drop]; simp
  omega
theorem prefix_room (hp : Lib.hasPrefix (tl s k) [91, 58] = true) : k + 2 ≤ s.size := by
  rw [tail_list] at hp
  unfold Lib.hasPrefix at hp
  have := (List.isPrefixOf_iff_prefix.1 hp).length_le
  simp at this; omega
theorem prefix_head (h : k < s.size) (hp : Lib.hasPrefix (tl s k) [91, 58] = true) : s[k] = 91 := by
  rw [tail_list, drop_at s k h] at hp
  simp [Lib.hasPrefix, List.isPrefixOf] at hp
  exact hp.1.symm
theorem round_open (h : k < s.size) (e : ((s[k].toNat : Int) == 92) = false) (hp : Lib.hasPrefix (tl s k) [91, 58] = true)
    (hi : Lib.index (tl s (k + 2)) [58, 93] < 0) : from_ s k = from_ s (k + 1) := by
  have h91 := prefix_head s k h hp
  unfold from_
  rw [drop_at s k h, scan, if_neg (no92 e), if_neg (by rw [index_eq s k]; omega), if_neg (by rw [h91]; decide)]
  omega
theorem round_close (h : k < s.size) (e : ((s[k].toNat : Int) == 92) = false) (e2 : ((s[k].toNat : Int) == 93) = true) : from_ s k = k := by
  have h93 := is93 e2
  unfold from_
  rw [drop_at s k h, scan, if_neg (no92 e), if_neg (by rw [h93]; simp [Lib.hasPrefix, List.isPrefixOf]), if_pos h93]
  rfl
theorem round_other (h : k < s.size) (e : ((s[k].toNat : Int) == 92) = false) (hp : Lib.hasPrefix (tl s k) [91, 58] = false)
    (e2 : ((s[k].toNat : Int) == 93) = false) : from_ s k = from_ s (k + 1) := by
  rw [tail_list, drop_at s k h] at hp
  unfold from_
  rw [drop_at s k h, scan, if_neg (no92 e), if_neg (by rw [hp]; simp), if_neg (no93 e2)]
  omega
end
end Go.Proofs.Qxb6603118a.Cls
