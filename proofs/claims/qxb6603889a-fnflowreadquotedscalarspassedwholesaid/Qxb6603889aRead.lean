/-
  THE WALK of (*flowState).read (function 14) over a text without quotes and '#', outside any quote.
-/
import Derived.Test.Qxb6603889aCopy
import Derived.Test.Qxb6603889aPlain
namespace Go.Proofs.Qxb6603889a
open Go.RowKit

/-- The state in memory. -/
abbrev stObj (d q : Int) (g : Bool) : Obj := .cells #[.int .i64 d, .int .u8 q, .bool g] 35

set_option maxRecDepth 100000 in
set_option maxHeartbeats 2000000 in
theorem read_plain (W : World) (b n cap : Nat) (zs : List Int) (d q : Int) (g : Bool) (hb : b < W.heap.size) (hn : n ≤ 1048576)
    (hc : ∀ i, i < n → W.cell? ⟨b, i, none⟩ = some (.int .u8 (zs.getD i 0)))
    (hq1 : (q == 34) = false) (hq2 : (q == 39) = false) (hno : ∀ i, i < n → (zs.getD i 0 == 34) = false ∧ (zs.getD i 0 == 39) = false ∧ (zs.getD i 0 == 35) = false)
    (hd : wrap64 d = d) :
    Calls Try.prog 14 #[.pointer (some ⟨W.heap.size, 0, none⟩), .slice (some ⟨b, 0, none⟩) n cap] (W.alloc (.cells #[.int .i64 d, .int .u8 q, .bool g] 35)) fun e w' =>
      e = .returned (.tuple #[]) ∧ w' = W.alloc (.cells #[.int .i64 (Flow.D d zs n), .int .u8 q, .bool (Flow.B g zs n)] 35) := by
  have H0 : Hid (Flow.Step d g zs 0 d g) := Flow.step0 d g zs hd
  clear hd
  go_enter Try.func14, Try.ntmps14
  go_wp2
  go_loopw [4] (fun i wr => ∃ k : Nat, ∃ dk : Int, ∃ gk : Bool, k ≤ n ∧ i = .int .i64 k ∧ wr = W.alloc (.cells #[.int .i64 dk, .int .u8 q, .bool gk] 35) ∧ Hid (Flow.Step d g zs k dk gk)) (fun i _ => n - (intOf i).toNat)
  case atStart => exact ⟨0, d, g, Nat.zero_le _, rfl, rfl, H0⟩
  case round =>
    obtain ⟨k, dk, gk, hk, rfl, rfl, H⟩ := hrel
    by_cases hlt : k < n
    · have hck := hc k hlt
      have hnk := hno k hlt
      obtain ⟨c, hcc⟩ : ∃ c, zs.getD k 0 = c := ⟨_, rfl⟩
      rw [hcc] at hck hnk
      have HC : Hid (zs.getD k 0 = c) := hcc
      obtain ⟨e34, e39, e35⟩ := hnk
      clear hc hcc hno H0
      by_cases c32 : c = 32
      · subst c32
        clear e34 e39 e35
        go_wp2
        go_roundw
        case rel => exact ⟨k + 1, dk, gk, by omega, by go_num, rfl, Flow.step_blank H.out HC.out rfl rfl rfl⟩
        case measure => simp [intOf]; omega
      by_cases c9 : c = 9
      · subst c9
        clear e34 e39 e35
        go_wp2
        go_roundw
        case rel => exact ⟨k + 1, dk, gk, by omega, by go_num, rfl, Flow.step_blank H.out HC.out rfl rfl rfl⟩
        case measure => simp [intOf]; omega
      by_cases c13 : c = 13
      · subst c13
        clear e34 e39 e35
        go_wp2
        go_roundw
        case rel => exact ⟨k + 1, dk, gk, by omega, by go_num, rfl, Flow.step_blank H.out HC.out rfl rfl rfl⟩
        case measure => simp [intOf]; omega
      by_cases c10 : c = 10
      · subst c10
        clear e34 e39 e35
        go_wp2
        go_roundw
        case rel => exact ⟨k + 1, dk, gk, by omega, by go_num, rfl, Flow.step_blank H.out HC.out rfl rfl rfl⟩
        case measure => simp [intOf]; omega
      by_cases c91 : c = 91
      · subst c91
        clear e34 e39 e35
        go_wp2
        go_roundw
        case rel => exact ⟨k + 1, _, true, by omega, by go_num, rfl, Flow.step_open H.out HC.out rfl rfl rfl rfl⟩
        case measure => simp [intOf]; omega
      by_cases c123 : c = 123
      · subst c123
        clear e34 e39 e35
        go_wp2
        go_roundw
        case rel => exact ⟨k + 1, _, true, by omega, by go_num, rfl, Flow.step_open H.out HC.out rfl rfl rfl rfl⟩
        case measure => simp [intOf]; omega
      by_cases c93 : c = 93
      · subst c93
        clear e34 e39 e35
        go_wp2
        go_roundw
        case rel => exact ⟨k + 1, _, true, by omega, by go_num, rfl, Flow.step_close H.out HC.out rfl rfl rfl rfl⟩
        case measure => simp [intOf]; omega
      by_cases c125 : c = 125
      · subst c125
        clear e34 e39 e35
        go_wp2
        go_roundw
        case rel => exact ⟨k + 1, _, true, by omega, by go_num, rfl, Flow.step_close H.out HC.out rfl rfl rfl rfl⟩
        case measure => simp [intOf]; omega
      by_cases c44 : c = 44
      · subst c44
        clear e34 e39 e35
        go_wp2
        go_roundw
        case rel => exact ⟨k + 1, dk, false, by omega, by go_num, rfl, Flow.step_comma H.out HC.out⟩
        case measure => simp [intOf]; omega
      have f32 : (c == 32) = false := beq_eq_false_iff_ne.2 c32
      have f9 : (c == 9) = false := beq_eq_false_iff_ne.2 c9
      have f13 : (c == 13) = false := beq_eq_false_iff_ne.2 c13
      have f10 : (c == 10) = false := beq_eq_false_iff_ne.2 c10
      have f91 : (c == 91) = false := beq_eq_false_iff_ne.2 c91
      have f123 : (c == 123) = false := beq_eq_false_iff_ne.2 c123
      have f93 : (c == 93) = false := beq_eq_false_iff_ne.2 c93
      have f125 : (c == 125) = false := beq_eq_false_iff_ne.2 c125
      have f44 : (c == 44) = false := beq_eq_false_iff_ne.2 c44
      have HX : Hid (Flow.blank c = false ∧ Flow.opn c = false ∧ Flow.cls c = false) := by simp [Flow.blank, Flow.opn, Flow.cls, f32, f9, f13, f10, f91, f123, f93, f125, Hid]
      clear c32 c9 c13 c10 c91 c123 c93 c125 c44
      go_wp2
      go_roundw
      case rel => exact ⟨k + 1, dk, true, by omega, by go_num, rfl, Flow.step_other H.out HC.out HX.out.1 HX.out.2.1 HX.out.2.2 f44⟩
      case measure => simp [intOf]; omega
    · obtain rfl : k = n := by omega
      have HD : Hid (Flow.D d zs k = dk ∧ Flow.B g zs k = gk) := H
      clear hc hno H0 H
      go_wp2
      go_end0
      exact ⟨rfl, by rw [HD.out.1, HD.out.2]⟩
end Go.Proofs.Qxb6603889a
