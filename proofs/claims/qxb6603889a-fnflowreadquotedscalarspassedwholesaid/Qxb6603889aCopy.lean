/-
  THE WALKS of b1Copy (function 9) and b1InSet (function 10).
-/
import Derived.Test.Qxb6603889aRows
import Derived.WalkKit
import Derived.WalkSpells
import Derived.WalkLawsBesides
import Derived.Deep.OwnRows
namespace Go.Proofs.Qxb6603889a
open Go.RowKit

theorem info5 : (Try.prog.info? 5).map (fun i => (i.zero, i.size, i.bytes)) = some (some (.int .u8 0), 1, 1) := by kernel_rfl

/-- What the copy holds after k rounds. -/
def half (zs : List Int) (n k : Nat) : Array Value := Array.ofFn (n := n) fun i => .int .u8 (if i.val < k then zs.getD i.val 0 else 0)
theorem half_size (zs : List Int) (n k : Nat) : (half zs n k).size = n := by simp [half]
theorem half_get (zs : List Int) (n k i : Nat) (h : i < n) : (half zs n k)[i]? = some (.int .u8 (if i < k then zs.getD i 0 else 0)) := by
  simp [half, h]
theorem half_zero (zs : List Int) (n : Nat) : madeCells #[.int .u8 0] n = half zs n 0 := by
  apply Array.ext_getElem?
  intro i
  by_cases h : i < n
  · rw [half_get _ _ _ _ h]; simp [madeCells, h, Nat.mod_one]
  · rw [Array.getElem?_eq_none (by rw [size_madeCells]; omega), Array.getElem?_eq_none (by rw [half_size]; omega)]
theorem half_set (zs : List Int) (n k : Nat) (h : k < n) : (half zs n k).setIfInBounds k (.int .u8 (zs.getD k 0)) = half zs n (k + 1) := by
  apply Array.ext_getElem?
  intro i
  by_cases hi : i < n
  · rw [half_get _ _ _ _ hi, Array.getElem?_setIfInBounds, half_size, half_get _ _ _ _ hi]
    by_cases e : k = i
    · subst e; simp [h]
    · rw [if_neg e]
      by_cases e2 : i < k
      · rw [if_pos e2, if_pos (by omega)]
      · rw [if_neg e2, if_neg (by omega)]
  · rw [Array.getElem?_eq_none (by simp [half_size]; omega), Array.getElem?_eq_none (by rw [half_size]; omega)]

set_option maxHeartbeats 400000 in
theorem copy_nil (w : World) :
    Calls Try.prog 9 #[.slice none 0 0] w fun e w' => e = .returned (.slice none 0 0) ∧ w' = w := by
  have q := fun (w : World) => Lib.run_eql_slice_nil (P := Try.prog) w 26 5 none 0 0 0 0 Try.underlying26
  go_enter Try.func9, Try.ntmps9
  go_wp2
  go_ret
  exact ⟨rfl, rfl⟩

set_option maxHeartbeats 400000 in
theorem copy_row (b off n cap : Nat) (zs : List Int) (w : World) (hn : n ≤ 1048576) (hb : b < w.heap.size)
    (hc : ∀ i, i < n → w.cell? ⟨b, off + i, none⟩ = some (.int .u8 (zs.getD i 0))) :
    Calls Try.prog 9 #[.slice (some ⟨b, off, none⟩) n cap] w fun e w' => e = .returned (.slice (some ⟨w.heap.size, 0, none⟩) n n) ∧ w' = w.alloc (.cells (half zs n n) 5) := by
  have q := fun (w : World) => Lib.run_eql_slice_nil (P := Try.prog) w 26 5 (some ⟨b, off, none⟩) n cap 0 0 Try.underlying26
  have mk := fun (w : World) => run_make_row' (P := Try.prog) 26 5 (.int .u8 0) 1 Try.underlying26 info5 rfl .i64 .i64 n (by omega) (by omega) w
  simp only [half_zero zs n] at mk
  go_enter Try.func9, Try.ntmps9
  go_wp2
  go_loopw [4] (fun i wr => ∃ k : Nat, k ≤ n ∧ i = .int .i64 k ∧ wr = w.alloc (.cells (half zs n k) 5)) (fun i _ => n - (intOf i).toNat)
  case atStart => exact ⟨0, Nat.zero_le _, rfl, rfl⟩
  case round =>
    obtain ⟨k, hk, rfl, rfl⟩ := hrel
    by_cases hlt : k < n
    · have hg : (half zs n k)[k]? = some (.int .u8 0) := by rw [half_get _ _ _ _ hlt, if_neg (by omega)]
      have hck := hc k hlt
      have hs := half_set zs n k hlt
      obtain ⟨c, hcc⟩ : ∃ c, zs.getD k 0 = c := ⟨_, rfl⟩
      rw [hcc] at hck hs
      clear hc hcc
      have HS : Hid ((half zs n k).setIfInBounds k (.int .u8 c) = half zs n (k + 1)) := hs
      clear hs mk
      go_wp2
      go_roundw
      case rel => exact ⟨k + 1, by omega, by go_num, by rw [← HS.out]⟩
      case measure => simp [intOf]; omega
    · obtain rfl : k = n := by omega
      go_wp2
      go_ret
      exact ⟨rfl, rfl⟩
/-- An empty slice that is not nil, whatever its address. -/
theorem copy_empty (x : Addr) (cap : Nat) (w : World) :
    Calls Try.prog 9 #[.slice (some x) 0 cap] w fun e w' => e = .returned (.slice (some ⟨w.heap.size, 0, none⟩) 0 0) ∧ w' = w.alloc (.cells #[] 5) := by
  have q := fun (w : World) => Lib.run_eql_slice_nil (P := Try.prog) w 26 5 (some x) 0 cap 0 0 Try.underlying26
  have mk : ∀ w : World, (Instr.makeSlice 26 (.int .i64 0) (.int .i64 0)).run Try.prog w = .ok (.slice (some ⟨w.heap.size, 0, none⟩) 0 0) (w.alloc (.cells #[] 5)) :=
    fun w => by
      have h := run_make_row' (P := Try.prog) 26 5 (.int .u8 0) 1 Try.underlying26 info5 rfl .i64 .i64 0 (by omega) (by omega) w
      rw [show madeCells #[Value.int .u8 0] 0 = #[] by simp [madeCells]] at h
      exact h
  go_enter Try.func9, Try.ntmps9
  go_wp2
  refine wp_loop_rounds 1 ?_
  rw [rounds_succ]
  go_wp2
  go_ret
  exact ⟨rfl, rfl⟩

/-- Is the byte one of the set's? -/
def inSet (l : List UInt8) (c : Int) : Bool := l.any fun d => (d.toNat : Int) == c
theorem ret_bool {a b : Bool} (h : a = b) : Ending.returned (.bool a) = .returned (.bool b) := by rw [h]

set_option maxHeartbeats 400000 in
theorem inSet_any (s : ByteArray) (c : Int) (w : World) (hs : s.size ≤ 1048576) :
    Calls Try.prog 10 #[.int .u8 c, .string s] w fun e w' => e = .returned (.bool (inSet s.data.toList c)) ∧ w' = w := by
  obtain ⟨R, hR⟩ : ∃ R, inSet s.data.toList c = R := ⟨_, rfl⟩
  rw [hR]
  have HR : Hid (inSet (s.data.toList.drop 0) c = R) := by rw [List.drop_zero]; exact hR
  clear hR
  go_enter Try.func10, Try.ntmps10
  go_wp2
  go_loop [5] (fun i => ∃ k : Nat, k ≤ s.size ∧ i = .int .i64 k ∧ Hid (inSet (s.data.toList.drop k) c = R)) (fun i => s.size - (intOf i).toNat)
  case atStart => exact ⟨0, Nat.zero_le _, rfl, HR⟩
  case round =>
    obtain ⟨k, hk, rfl, H⟩ := hrel
    clear HR
    by_cases hlt : k < s.size
    · have hd : s.data.toList.drop k = s[k] :: s.data.toList.drop (k + 1) := by
        rw [List.drop_eq_getElem_cons (by simpa using hlt)]; rfl
      cases e : ((s[k].toNat : Int) == c)
      · have HX : Hid (inSet (s.data.toList.drop (k + 1)) c = R) := by
          have h := H.out
          rw [hd] at h
          simp only [inSet, List.any_cons, e, Bool.false_or] at h
          exact h
        clear hd
        go_wp2
        go_round
        case rel => exact ⟨k + 1, by omega, by go_num, HX⟩
        case measure => simp [intOf]; omega
      · have HX : Hid (R = true) := by
          have h := H.out
          rw [hd] at h
          simp only [inSet, List.any_cons, e, Bool.true_or] at h
          exact h.symm
        clear hd
        go_wp2
        go_ret
        exact ⟨ret_bool HX.out.symm, rfl⟩
    · have HX : Hid (R = false) := by
        have h := H.out
        rw [List.drop_eq_nil_iff.2 (by simp; omega)] at h
        exact h.symm
      go_wp2
      go_ret
      exact ⟨ret_bool HX.out.symm, rfl⟩
end Go.Proofs.Qxb6603889a
