/-
  THE WALK of jsSameBytes (11) at one and the same piece.
-/
import Derived.Test.Qxb6603798aLeaf
import Derived.BigQuiet
namespace Go.Proofs.Qxb6603798a
open Go.RowKit
set_option linter.unusedVariables false
set_option linter.unusedSimpArgs false

set_option maxHeartbeats 1000000 in
theorem same_any (w : World) (db a L c1 c2 : Nat) (hL : L ≤ 1048576) (hd : ∀ i, i < L → ∃ c, w.cell? ⟨db, a + i, none⟩ = some (.int .u8 c)) :
    Calls Try.prog 11 #[.slice (some ⟨db, a, none⟩) L c1, .slice (some ⟨db, a, none⟩) L c2] w fun e w' => e = .returned (.bool true) ∧ ∃ m, w' = w.drewN m := by
  go_enter Try.func11, Try.ntmps11
  go_wp2
  go_loopw [5] (fun i wr => ∃ k d : Nat, i = .int .i64 k ∧ k ≤ L ∧ wr = w.drewN d) (fun i _ => L - (intOf i).toNat)
  case atStart => exact ⟨0, 0, rfl, Nat.zero_le _, rfl⟩
  case round =>
    obtain ⟨k, d, rfl, hk, rfl⟩ := hrel
    by_cases hlt : k < L
    · obtain ⟨c, hc⟩ := hd k hlt
      clear hd
      go_wp2_with fail
      go_quiet (fail)
      go_wp2
      exact ⟨⟨k + 1, _, by go_num, by omega, rfl⟩, by simp [intOf]; omega⟩
    · obtain rfl : k = L := by omega
      go_wp2
      go_ret
      exact ⟨rfl, d, rfl⟩
end Go.Proofs.Qxb6603798a
