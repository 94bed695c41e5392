/-
  THE WALK of ZZFlowRead (function 11), over a contract of read.
-/
import Derived.Test.Qxb6603889aRead
import Derived.Deep.QuietTactic
import Derived.BigQuiet
namespace Go.Proofs.Qxb6603889a
open Go.RowKit

set_option maxRecDepth 100000 in
theorem read_none (W : World) (a : Option Addr) (cap : Nat) (d q : Int) (g : Bool) :
    Calls Try.prog 14 #[.pointer (some ⟨W.heap.size, 0, none⟩), .slice a 0 cap] (W.alloc (.cells #[.int .i64 d, .int .u8 q, .bool g] 35)) fun e w' =>
      e = .returned (.tuple #[]) ∧ w' = W.alloc (.cells #[.int .i64 d, .int .u8 q, .bool g] 35) := by
  go_enter Try.func14, Try.ntmps14
  go_wp2
  refine wp_loop_rounds 1 ?_
  rw [rounds_succ]
  go_wp2
  go_end0
  exact ⟨rfl, rfl⟩

/-- What a contract of read says, behind a name. -/
def ReadsTo (w : World) (v : Value) (d q : Int) (g : Bool) (d' q' : Int) (g' : Bool) : Prop :=
  Calls Try.prog 14 #[.pointer (some ⟨w.heap.size, 0, none⟩), v] (w.alloc (.cells #[.int .i64 d, .int .u8 q, .bool g] 35)) fun e w' =>
    e = .returned (.tuple #[]) ∧ w' = w.alloc (.cells #[.int .i64 d', .int .u8 q', .bool g'] 35)
theorem ReadsTo.calls {w : World} {v : Value} {d q : Int} {g : Bool} {d' q' : Int} {g' : Bool} (h : ReadsTo w v d q g d' q' g') :
  Calls Try.prog 14 #[.pointer (some ⟨w.heap.size, 0, none⟩), v] (w.alloc (.cells #[.int .i64 d, .int .u8 q, .bool g] 35)) fun e w' =>
    e = .returned (.tuple #[]) ∧ w' = w.alloc (.cells #[.int .i64 d', .int .u8 q', .bool g'] 35) := h

set_option maxHeartbeats 400000 in
theorem flow_of (w : World) (v : Value) (d q d' q' : Int) (g g' : Bool) (hr : ReadsTo w v d q g d' q' g') :
    Calls Try.prog 11 #[.int .i64 d, .int .u8 q, .bool g, v] w fun e w' =>
      e = .returned (.tuple #[.int .i64 d', .int .u8 q', .bool g']) ∧ ∃ m, w' = (w.alloc (.cells #[.int .i64 d', .int .u8 q', .bool g'] 35)).drewN m := by
  go_enter Try.func11, Try.ntmps11
  go_wp2_with fail
  refine hr.calls.mono ?_
  rintro e w' ⟨rfl, rfl⟩
  go_wp2_with fail
  go_quiet (fail)
  go_wp2
  go_ret3
  exact ⟨rfl, _, rfl⟩
end Go.Proofs.Qxb6603889a
