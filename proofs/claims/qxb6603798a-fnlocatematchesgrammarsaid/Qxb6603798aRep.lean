/-
  THE WALK of reportedAt (24).
-/
import Derived.Test.Qxb6603798aLeaf
namespace Go.Proofs.Qxb6603798a
open Go.RowKit
set_option linter.unusedVariables false
set_option linter.unusedSimpArgs false

def I64 (x : Int) : Prop := -9223372036854775808 ≤ x ∧ x ≤ 9223372036854775807
set_option maxRecDepth 100000 in
set_option maxHeartbeats 1000000 in
theorem rep_head (w : World) (db n cap : Nat) (zs : List Int) (off : Int) (pth : Value) (s : Nat) (en : Int) (nm R : Bool) (hn : n ≤ 1048576) (hs : s < n) (hoff : I64 off) (hdb : db < w.heap.size)
    (hd : DocAt w db n zs) (hh : nm = true ∨ Js.ch zs s = 91 ∨ Js.ch zs s = 123) (hR : (off == (s : Int) + 1) = R) :
    Calls Try.prog 24 #[.agg #[pth, .int .i64 s, .int .i64 en, .bool nm], .slice (some ⟨db, 0, none⟩) n cap, .int .i64 0, .int .i64 off] w fun e w' => e = .returned (.bool R) ∧ w' = w.alloc (.cells #[pth, .int .i64 s, .int .i64 en, .bool nm] 41) := by
  obtain ⟨ho1, ho2⟩ := hoff
  have hc := hd.at hs
  have HR : Hid ((off == (s : Int) + 1) = R) := hR
  clear hR
  cases nm
  · have hh2 : Js.ch zs s = 91 ∨ Js.ch zs s = 123 := by simpa using hh
    rcases hh2 with h | h
    · rw [h] at hc
      clear hh h
      go_enter Try.func24, Try.ntmps24
      go_wp2
      go_ret
      refine ⟨?_, rfl⟩
      rw [← HR.out]; simp
    · rw [h] at hc
      clear hh h
      go_enter Try.func24, Try.ntmps24
      go_wp2
      go_ret
      refine ⟨?_, rfl⟩
      rw [← HR.out]; simp
  · clear hh hc
    go_enter Try.func24, Try.ntmps24
    go_wp2
    go_ret
    refine ⟨?_, rfl⟩
    rw [← HR.out]; simp

set_option maxRecDepth 100000 in
set_option maxHeartbeats 1000000 in
theorem rep_tail (w : World) (db n cap : Nat) (zs : List Int) (off : Int) (pth : Value) (s : Nat) (en : Nat) (R : Bool) (hn : n ≤ 1048576) (hs : s < n) (hen : en ≤ n) (hoff : I64 off) (hdb : db < w.heap.size)
    (hd : DocAt w db n zs) (h1 : Js.ch zs s ≠ 91) (h2 : Js.ch zs s ≠ 123) (hR : (off == (en : Int) || off == (en : Int) + 1) = R) :
    Calls Try.prog 24 #[.agg #[pth, .int .i64 s, .int .i64 en, .bool false], .slice (some ⟨db, 0, none⟩) n cap, .int .i64 0, .int .i64 off] w fun e w' => e = .returned (.bool R) ∧ w' = w.alloc (.cells #[pth, .int .i64 s, .int .i64 en, .bool false] 41) := by
  obtain ⟨ho1, ho2⟩ := hoff
  have hc := hd.at hs
  obtain ⟨c, hcc⟩ : ∃ c, Js.ch zs s = c := ⟨_, rfl⟩
  rw [hcc] at hc h1 h2
  have f91 : (c == 91) = false := beq_eq_false_iff_ne.2 h1
  have f123 : (c == 123) = false := beq_eq_false_iff_ne.2 h2
  have HR : Hid ((off == (en : Int) || off == (en : Int) + 1) = R) := hR
  clear hR h1 h2 hcc
  cases e1 : (off == (en : Int))
  · have HE : Hid ((off == (en : Int)) = false) := e1
    go_enter Try.func24, Try.ntmps24
    go_wp2
    go_ret
    refine ⟨?_, rfl⟩
    rw [← HR.out, HE.out]; simp
  · have HE : Hid ((off == (en : Int)) = true) := e1
    go_enter Try.func24, Try.ntmps24
    go_wp2
    go_ret
    refine ⟨?_, rfl⟩
    rw [← HR.out, HE.out]; simp
end Go.Proofs.Qxb6603798a
