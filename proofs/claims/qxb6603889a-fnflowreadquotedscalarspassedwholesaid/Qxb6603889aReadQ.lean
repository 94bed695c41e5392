/-
  THE WALK of (*flowState).read (function 14) over a text written as a quoted scalar, from a state outside any quote.
-/
import Derived.Test.Qxb6603889aCopy
import Derived.Test.Qxb6603889aPlain2
namespace Go.Proofs.Qxb6603889a
open Go.RowKit

set_option maxRecDepth 100000 in
set_option maxHeartbeats 2000000 in
theorem read_dq (W : World) (b N cap : Nat) (zs : List Int) (n : Nat) (d q : Int) (g : Bool) (hb : b < W.heap.size) (hN : N ≤ 1048576) (HN : Hid (N = (Quo.full Quo.fd 34 zs n).length))
    (hc : Hid (∀ i, i < N → W.cell? ⟨b, i, none⟩ = some (.int .u8 ((Quo.full Quo.fd 34 zs n).getD i 0))))
    (hq1 : (q == 34) = false) (hq2 : (q == 39) = false) :
    Calls Try.prog 14 #[.pointer (some ⟨W.heap.size, 0, none⟩), .slice (some ⟨b, 0, none⟩) N cap] (W.alloc (.cells #[.int .i64 d, .int .u8 q, .bool g] 35)) fun e w' =>
      e = .returned (.tuple #[]) ∧ w' = W.alloc (.cells #[.int .i64 d, .int .u8 0, .bool true] 35) := by
  go_enter Try.func14, Try.ntmps14
  go_wp2
  go_loopw [4] (fun i wr => ∃ p : Nat, ∃ qp : Int, ∃ gp : Bool, p ≤ N ∧ i = .int .i64 p ∧ wr = W.alloc (.cells #[.int .i64 d, .int .u8 qp, .bool gp] 35) ∧ Hid (Quo.Pos Quo.fd 34 zs n q g p qp gp)) (fun i _ => N - (intOf i).toNat)
  case atStart => exact ⟨0, q, g, Nat.zero_le _, rfl, rfl, .inl ⟨rfl, rfl, rfl⟩⟩
  case round =>
    obtain ⟨p, qp, gp, hp, rfl, rfl, H⟩ := hrel
    by_cases hlt : p < N
    · have hck := hc.out p hlt
      rcases H.out with ⟨rfl, rfl, rfl⟩ | ⟨j, hj, hpj, rfl, rfl⟩ | ⟨h1, _, _⟩
      · rw [Quo.full_head] at hck
        clear H
        go_wp2
        go_roundw
        case rel => exact ⟨1, 34, true, by omega, rfl, rfl, Quo.dq_start _ _ _ _⟩
        case measure => simp [intOf]; omega
      · clear H
        by_cases hjn : j < n
        · cases hs : (zs.getD j 0 == 34 || zs.getD j 0 == 92)
          · have hfd := Quo.fd_plain hs
            have hat := Quo.full_at Quo.fd 34 zs n j hjn 0 (by rw [hfd]; simp)
            rw [Nat.add_zero, ← hpj, hfd] at hat
            rw [hat.1] at hck
            have HX : Hid (Quo.Pos Quo.fd 34 zs n q g (p + 1) 34 true) := Quo.pos_next hjn (by rw [hfd, hpj]; rfl)
            clear hfd hat hpj
            rw [List.getD_cons_zero] at hck
            obtain ⟨h34, h92⟩ := Bool.or_eq_false_iff.1 hs
            generalize zs.getD j 0 = c at *
            clear hs
            go_wp2
            go_roundw
            case rel => exact ⟨p + 1, 34, true, by omega, by go_num, rfl, HX⟩
            case measure => simp [intOf]; omega
          · have hfd := Quo.fd_special hs
            have hat := Quo.full_at Quo.fd 34 zs n j hjn 0 (by rw [hfd]; simp)
            rw [Nat.add_zero, ← hpj, hfd] at hat
            rw [hat.1] at hck
            have hat1 := (Quo.full_at Quo.fd 34 zs n j hjn 1 (by rw [hfd]; simp)).2
            rw [← HN.out, ← hpj] at hat1
            have HX : Hid (Quo.Pos Quo.fd 34 zs n q g (p + 2) 34 true) := Quo.pos_next hjn (by rw [hfd, hpj]; rfl)
            clear hfd hat hpj hs
            rw [List.getD_cons_zero] at hck
            go_wp2
            go_roundw
            case rel => exact ⟨p + 2, 34, true, by omega, by go_num, rfl, HX⟩
            case measure => simp [intOf]; omega
        · obtain rfl : j = n := by omega
          rw [hpj, Quo.full_last, ← hpj] at hck
          have HX : Hid (Quo.Pos Quo.fd 34 zs j q g (p + 1) 0 true) := Quo.pos_end (by rw [hpj])
          clear hpj
          go_wp2
          go_roundw
          case rel => exact ⟨p + 1, 0, true, by omega, by go_num, rfl, HX⟩
          case measure => simp [intOf]; omega
      · have := HN.out; omega
    · have hd := H.out.done (by rw [← HN.out]; omega)
      obtain ⟨rfl, rfl⟩ := hd
      clear H
      go_wp2
      go_end0
      exact ⟨rfl, rfl⟩

set_option maxRecDepth 100000 in
set_option maxHeartbeats 2000000 in
theorem read_sq (W : World) (b N cap : Nat) (zs : List Int) (n : Nat) (d q : Int) (g : Bool) (hb : b < W.heap.size) (hN : N ≤ 1048576) (HN : Hid (N = (Quo.full Quo.fs 39 zs n).length))
    (hc : Hid (∀ i, i < N → W.cell? ⟨b, i, none⟩ = some (.int .u8 ((Quo.full Quo.fs 39 zs n).getD i 0))))
    (hq1 : (q == 34) = false) (hq2 : (q == 39) = false) :
    Calls Try.prog 14 #[.pointer (some ⟨W.heap.size, 0, none⟩), .slice (some ⟨b, 0, none⟩) N cap] (W.alloc (.cells #[.int .i64 d, .int .u8 q, .bool g] 35)) fun e w' =>
      e = .returned (.tuple #[]) ∧ w' = W.alloc (.cells #[.int .i64 d, .int .u8 0, .bool true] 35) := by
  go_enter Try.func14, Try.ntmps14
  go_wp2
  go_loopw [4] (fun i wr => ∃ p : Nat, ∃ qp : Int, ∃ gp : Bool, p ≤ N ∧ i = .int .i64 p ∧ wr = W.alloc (.cells #[.int .i64 d, .int .u8 qp, .bool gp] 35) ∧ Hid (Quo.Pos Quo.fs 39 zs n q g p qp gp)) (fun i _ => N - (intOf i).toNat)
  case atStart => exact ⟨0, q, g, Nat.zero_le _, rfl, rfl, .inl ⟨rfl, rfl, rfl⟩⟩
  case round =>
    obtain ⟨p, qp, gp, hp, rfl, rfl, H⟩ := hrel
    by_cases hlt : p < N
    · have hck := hc.out p hlt
      rcases H.out with ⟨rfl, rfl, rfl⟩ | ⟨j, hj, hpj, rfl, rfl⟩ | ⟨h1, _, _⟩
      · rw [Quo.full_head] at hck
        clear H
        go_wp2
        go_roundw
        case rel => exact ⟨1, 39, true, by omega, rfl, rfl, Quo.sq_start _ _ _ _⟩
        case measure => simp [intOf]; omega
      · clear H
        by_cases hjn : j < n
        · cases hs : (zs.getD j 0 == 39)
          · have hfd := Quo.fs_plain hs
            have hat := Quo.full_at Quo.fs 39 zs n j hjn 0 (by rw [hfd]; simp)
            rw [Nat.add_zero, ← hpj, hfd] at hat
            rw [hat.1] at hck
            have HX : Hid (Quo.Pos Quo.fs 39 zs n q g (p + 1) 39 true) := Quo.pos_next hjn (by rw [hfd, hpj]; rfl)
            clear hfd hat hpj
            rw [List.getD_cons_zero] at hck
            generalize zs.getD j 0 = c at *
            go_wp2
            go_roundw
            case rel => exact ⟨p + 1, 39, true, by omega, by go_num, rfl, HX⟩
            case measure => simp [intOf]; omega
          · have hfd := Quo.fs_special hs
            have hat := Quo.full_at Quo.fs 39 zs n j hjn 0 (by rw [hfd]; simp)
            rw [Nat.add_zero, ← hpj, hfd] at hat
            rw [hat.1] at hck
            have hat1 := Quo.full_at Quo.fs 39 zs n j hjn 1 (by rw [hfd]; simp)
            rw [← hpj, hfd] at hat1
            have hlt1 := hat1.2
            rw [← HN.out] at hlt1
            have hck1 := hc.out (p + 1) hlt1
            rw [hat1.1] at hck1
            have HX : Hid (Quo.Pos Quo.fs 39 zs n q g (p + 2) 39 true) := Quo.pos_next hjn (by rw [hfd, hpj]; rfl)
            clear hfd hat hpj hs hat1
            rw [List.getD_cons_zero] at hck
            rw [show ([39, 39] : List Int).getD 1 0 = 39 from rfl] at hck1
            go_wp2
            go_roundw
            case rel => exact ⟨p + 2, 39, true, by omega, by go_num, rfl, HX⟩
            case measure => simp [intOf]; omega
        · obtain rfl : j = n := by omega
          rw [hpj, Quo.full_last, ← hpj] at hck
          have hl : N ≤ p + 1 := by have := HN.out; rw [Quo.full_len, ← hpj] at this; omega
          have HX : Hid (Quo.Pos Quo.fs 39 zs j q g (p + 1) 0 true) := Quo.pos_end (by rw [hpj])
          clear hpj
          go_wp2
          go_roundw
          case rel => exact ⟨p + 1, 0, true, by omega, by go_num, rfl, HX⟩
          case measure => simp [intOf]; omega
      · have := HN.out; omega
    · have hd := H.out.done (by rw [← HN.out]; omega)
      obtain ⟨rfl, rfl⟩ := hd
      clear H
      go_wp2
      go_end0
      exact ⟨rfl, rfl⟩
end Go.Proofs.Qxb6603889a
