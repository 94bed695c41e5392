/-
  PLAIN: what flowState.read does over a text without quotes and '#': openers, closers, 'begun'.
-/
import Derived.RowKit
namespace Go.Proofs.Qxb6603889a.Flow
open Go.RowKit

def blank (c : Int) : Bool := c == 32 || c == 9 || c == 13 || c == 10
def opn (c : Int) : Bool := c == 91 || c == 123
def cls (c : Int) : Bool := c == 93 || c == 125

/-- After k bytes: openers, closers, whether the item has begun. -/
def O (zs : List Int) : Nat → Nat
  | 0 => 0
  | k + 1 => O zs k + (opn (zs.getD k 0)).toNat
def C (zs : List Int) : Nat → Nat
  | 0 => 0
  | k + 1 => C zs k + (cls (zs.getD k 0)).toNat
def B (g : Bool) (zs : List Int) : Nat → Bool
  | 0 => g
  | k + 1 => if blank (zs.getD k 0) then B g zs k else !(zs.getD k 0 == 44)
def D (d : Int) (zs : List Int) (k : Nat) : Int := wrap64 (d + O zs k - C zs k)

theorem O_le (zs : List Int) : ∀ k, O zs k ≤ k
  | 0 => Nat.le_refl _
  | k + 1 => by have := O_le zs k; have := Bool.toNat_le (opn (zs.getD k 0)); unfold O; omega
theorem C_le (zs : List Int) : ∀ k, C zs k ≤ k
  | 0 => Nat.le_refl _
  | k + 1 => by have := C_le zs k; have := Bool.toNat_le (cls (zs.getD k 0)); unfold C; omega

/-- A step of the whole state: as a relation, so that no function is met in a walk. -/
def Step (d : Int) (g : Bool) (zs : List Int) (k : Nat) (dk : Int) (gk : Bool) : Prop := D d zs k = dk ∧ B g zs k = gk

theorem step0 (d : Int) (g : Bool) (zs : List Int) (h : wrap64 d = d) : Step d g zs 0 d g := by
  refine ⟨?_, rfl⟩
  unfold D; simp only [O, C]; simpa using h
section
variable {d : Int} {g : Bool} {zs : List Int} {k : Nat} {dk : Int} {gk : Bool} {c : Int}
theorem step_blank (h : Step d g zs k dk gk) (hc : zs.getD k 0 = c) (hb : blank c = true) (h1 : opn c = false) (h2 : cls c = false) : Step d g zs (k + 1) dk gk := by
  obtain ⟨a, b⟩ := h
  subst hc
  refine ⟨?_, ?_⟩
  · unfold D at a ⊢; simp only [O, C, h1, h2]; simpa using a
  · simp only [B, hb, if_true]; exact b
theorem step_open (h : Step d g zs k dk gk) (hc : zs.getD k 0 = c) (hb : blank c = false) (h1 : opn c = true) (h2 : cls c = false) (h3 : (c == 44) = false) : Step d g zs (k + 1) (wrap64 (dk + 1)) true := by
  obtain ⟨a, b⟩ := h
  subst hc
  refine ⟨?_, ?_⟩
  · subst a
    unfold D; simp only [O, C, h1, h2, Bool.toNat_true, Bool.toNat_false]
    unfold wrap64; omega
  · rw [B, hb, h3]; rfl
theorem step_close (h : Step d g zs k dk gk) (hc : zs.getD k 0 = c) (hb : blank c = false) (h1 : opn c = false) (h2 : cls c = true) (h3 : (c == 44) = false) : Step d g zs (k + 1) (wrap64 (dk - 1)) true := by
  obtain ⟨a, b⟩ := h
  subst hc
  refine ⟨?_, ?_⟩
  · subst a
    unfold D; simp only [O, C, h1, h2, Bool.toNat_true, Bool.toNat_false]
    unfold wrap64; omega
  · rw [B, hb, h3]; rfl
theorem step_comma (h : Step d g zs k dk gk) (hc : zs.getD k 0 = 44) : Step d g zs (k + 1) dk false := by
  obtain ⟨a, b⟩ := h
  refine ⟨?_, ?_⟩
  · unfold D at a ⊢; simp only [O, C, hc]; simpa [opn, cls] using a
  · rw [B, hc]; rfl
theorem step_other (h : Step d g zs k dk gk) (hc : zs.getD k 0 = c) (hb : blank c = false) (h1 : opn c = false) (h2 : cls c = false) (h3 : (c == 44) = false) : Step d g zs (k + 1) dk true := by
  obtain ⟨a, b⟩ := h
  subst hc
  refine ⟨?_, ?_⟩
  · unfold D at a ⊢; simp only [O, C, h1, h2]; simpa using a
  · rw [B, hb, h3]; rfl
end
/-! ### The law's own count -/
section
variable {g : Bool} {zs : List Int} {k on cn : Nat} {gk : Bool} {c : Int}
theorem count_open (h : O zs k = on ∧ C zs k = cn ∧ B g zs k = gk) (hc : zs.getD k 0 = c) (hb : blank c = false) (h1 : opn c = true) (h2 : cls c = false) (h3 : (c == 44) = false) : O zs (k + 1) = on + 1 ∧ C zs (k + 1) = cn ∧ B g zs (k + 1) = true := by
  obtain ⟨a, b, _⟩ := h
  subst hc
  exact ⟨by rw [O, h1, a]; rfl, by rw [C, h2, b]; rfl, by rw [B, hb, h3]; rfl⟩
theorem count_close (h : O zs k = on ∧ C zs k = cn ∧ B g zs k = gk) (hc : zs.getD k 0 = c) (hb : blank c = false) (h1 : opn c = false) (h2 : cls c = true) (h3 : (c == 44) = false) : O zs (k + 1) = on ∧ C zs (k + 1) = cn + 1 ∧ B g zs (k + 1) = true := by
  obtain ⟨a, b, _⟩ := h
  subst hc
  exact ⟨by rw [O, h1, a]; rfl, by rw [C, h2, b]; rfl, by rw [B, hb, h3]; rfl⟩
theorem count_blank (h : O zs k = on ∧ C zs k = cn ∧ B g zs k = gk) (hc : zs.getD k 0 = c) (hb : blank c = true) (h1 : opn c = false) (h2 : cls c = false) : O zs (k + 1) = on ∧ C zs (k + 1) = cn ∧ B g zs (k + 1) = gk := by
  obtain ⟨a, b, d⟩ := h
  subst hc
  exact ⟨by rw [O, h1, a]; rfl, by rw [C, h2, b]; rfl, by rw [B, hb, if_pos rfl, d]⟩
theorem count_other (h : O zs k = on ∧ C zs k = cn ∧ B g zs k = gk) (hc : zs.getD k 0 = c) (hb : blank c = false) (h1 : opn c = false) (h2 : cls c = false) : O zs (k + 1) = on ∧ C zs (k + 1) = cn ∧ B g zs (k + 1) = (c != 44) := by
  obtain ⟨a, b, d⟩ := h
  subst hc
  exact ⟨by rw [O, h1, a]; rfl, by rw [C, h2, b]; rfl, by rw [B, hb]; rfl⟩
end
theorem D_sum (d : Int) (zs : List Int) (n : Nat) : wrap64 (wrap64 (d + O zs n) - C zs n) = D d zs n := by
  unfold D wrap64; omega
end Go.Proofs.Qxb6603889a.Flow
