/-
  THE WALK of zzBytes (13): it answers a bool, and writes nothing.
-/
import Derived.Test.Qxb6603470aHeap
namespace Go.Proofs.Qxb6603470a
open Go.RowKit
set_option linter.unusedVariables false
set_option linter.unusedSimpArgs false

set_option maxRecDepth 100000 in
set_option maxHeartbeats 4000000 in
theorem bytes_any (v0 v2 v3 v4 : Value) (op : List ByteArray) (ty : ByteArray) (nm : List ByteArray) (rf : List Int) (T : List (List (List SP))) (w : World) (B : Nat → Prop)
    (h0 : StrsAt w B v0 op) (h2 : StrsAt w B v2 nm) (h3 : IntsAt w B v3 rf) (h4 : TabAt w B v4 T) :
    Calls Try.prog 13 #[v0, .string ty, v2, v3, v4] w fun e w' => w' = w ∧ IsB e := by
  obtain ⟨a0, c0, rfl, g0, hn0, G0⟩ := h0
  obtain ⟨a2, c2, rfl, g2, hn2, G2⟩ := h2
  obtain ⟨a3, c3, rfl, g3, hn3, G3⟩ := h3
  obtain ⟨a4, c4, V4, rfl, g4, hn4, G4, E4⟩ := h4
  have H0 : Hid (At w B a0 op.length op.length _) := G0
  have H2 : Hid (At w B a2 nm.length nm.length _) := G2
  have H4 : Hid (At w B a4 T.length T.length V4) := G4
  have HE : Hid (∀ d, d < T.length → LnsAt pc w B (V4 d) (T.getD d [])) := E4
  clear G0 G2 G3 G4 E4 g0 g2 g3 g4
  generalize op.length = n0 at *
  generalize nm.length = n2 at *
  generalize rf.length = n3 at *
  generalize T.length = n4 at *
  go_enter Try.func13, Try.ntmps13
  by_cases h1 : 1048576 < n0
  · go_wp2
    go_ret
    exact ⟨rfl, _, rfl⟩
  go_wp2
  go_loop [11, 12] (fun z i => ∃ (k : Nat) (Z : Int), i = .int .i64 k ∧ k ≤ n0 ∧ z = .int .i64 Z ∧ 0 ≤ Z ∧ Z ≤ 1048576) (fun _ i => n0 - (intOf i).toNat)
  case atStart => exact ⟨0, _, rfl, Nat.zero_le _, rfl, by omega, by omega⟩
  case round =>
    obtain ⟨k, Z, rfl, hk, rfl, hZ0, hZ1⟩ := hrel
    by_cases hlt : k < n0
    · obtain ⟨b, o, rfl, hb, hcell⟩ := H0.out (by omega)
      have hck : w.cell? ⟨b, o + k, none⟩ = some (.string (op.getD k ByteArray.empty)) := hcell k hlt
      clear hcell
      generalize op.getD k ByteArray.empty = s at *
      by_cases h1 : 1048576 < s.size
      · go_wp2
        go_ret
        exact ⟨rfl, _, rfl⟩
      by_cases h1 : 1048576 < Z + s.size
      · go_wp2
        go_ret
        exact ⟨rfl, _, rfl⟩
      go_wp2
      go_round
      case rel => exact ⟨k + 1, _, by go_num, by omega, rfl, by omega, by omega⟩
      case measure => simp [intOf]; omega
    obtain rfl : k = n0 := by omega
    clear hlt
    by_cases h1 : 1048576 < ty.size
    · go_wp2
      go_ret
      exact ⟨rfl, _, rfl⟩
    by_cases h1 : 1048576 < Z + ty.size
    · go_wp2
      go_ret
      exact ⟨rfl, _, rfl⟩
    by_cases h1 : 1048576 < n2
    · go_wp2
      go_ret
      exact ⟨rfl, _, rfl⟩
    by_cases h1 : 1048576 < Z + ty.size + n2
    · go_wp2
      go_ret
      exact ⟨rfl, _, rfl⟩
    go_wp2
    go_loop [11, 13] (fun z i => ∃ (k : Nat) (Z : Int), i = .int .i64 k ∧ k ≤ n2 ∧ z = .int .i64 Z ∧ 0 ≤ Z ∧ Z ≤ 1048576) (fun _ i => n2 - (intOf i).toNat)
    case atStart => exact ⟨0, _, rfl, Nat.zero_le _, rfl, by omega, by omega⟩
    case round =>
      obtain ⟨k, Z, rfl, hk, rfl, hZ0, hZ1⟩ := hrel
      by_cases hlt : k < n2
      · obtain ⟨b, o, rfl, hb, hcell⟩ := H2.out (by omega)
        have hck : w.cell? ⟨b, o + k, none⟩ = some (.string (nm.getD k ByteArray.empty)) := hcell k hlt
        clear hcell
        generalize nm.getD k ByteArray.empty = s at *
        by_cases h1 : 1048576 < s.size
        · go_wp2
          go_ret
          exact ⟨rfl, _, rfl⟩
        by_cases h1 : 1048576 < Z + s.size
        · go_wp2
          go_ret
          exact ⟨rfl, _, rfl⟩
        go_wp2
        go_round
        case rel => exact ⟨k + 1, _, by go_num, by omega, rfl, by omega, by omega⟩
        case measure => simp [intOf]; omega
      obtain rfl : k = n2 := by omega
      clear hlt
      by_cases h1 : 1048576 < n3
      · go_wp2
        go_ret
        exact ⟨rfl, _, rfl⟩
      by_cases h1 : 1048576 < Z + n3
      · go_wp2
        go_ret
        exact ⟨rfl, _, rfl⟩
      by_cases h1 : 1048576 < n4
      · go_wp2
        go_ret
        exact ⟨rfl, _, rfl⟩
      by_cases h1 : 1048576 < Z + n3 + n4
      · go_wp2
        go_ret
        exact ⟨rfl, _, rfl⟩
      go_wp2
      go_loop [11, 14, 15, 16] (fun z i _ _ => ∃ (k : Nat) (Z : Int), i = .int .i64 k ∧ k ≤ n4 ∧ z = .int .i64 Z ∧ 0 ≤ Z ∧ Z ≤ 1048576) (fun _ i _ _ => n4 - (intOf i).toNat)
      case atStart => exact ⟨0, _, rfl, Nat.zero_le _, rfl, by omega, by omega⟩
      case round =>
        obtain ⟨k, Z, rfl, hk, rfl, hZ0, hZ1⟩ := hrel
        by_cases hlt : k < n4
        rotate_left
        · go_wp2
          go_ret
          exact ⟨rfl, _, rfl⟩
        obtain ⟨b, o, rfl, hb, hcell⟩ := H4.out (by omega)
        have hck := hcell k hlt
        clear hcell
        obtain ⟨a5, c5, V5, hV5, hn5, H5, HE5⟩ := lns_shape (HE.out k hlt)
        rw [hV5] at hck
        clear hV5
        have HA5 : Hid (At w B a5 (T.getD k []).length (T.getD k []).length V5) := H5
        have HE6 : Hid (∀ j, j < (T.getD k []).length → PcsAt pc w B (V5 j) ((T.getD k []).getD j [])) := HE5
        clear H5 HE5
        generalize T.getD k [] = L at *
        generalize L.length = n5 at *
        by_cases h1 : 1048576 < n5
        · go_wp2
          go_ret
          exact ⟨rfl, _, rfl⟩
        by_cases h1 : 1048576 < Z + n5
        · go_wp2
          go_ret
          exact ⟨rfl, _, rfl⟩
        go_wp2
        go_loop [11, 15, 16] (fun z i _ => ∃ (k : Nat) (Z : Int), i = .int .i64 k ∧ k ≤ n5 ∧ z = .int .i64 Z ∧ 0 ≤ Z ∧ Z ≤ 1048576) (fun _ i _ => n5 - (intOf i).toNat)
        case atStart => exact ⟨0, _, rfl, Nat.zero_le _, rfl, by omega, by omega⟩
        case round =>
          obtain ⟨j, Z2, rfl, hj, rfl, hZ20, hZ21⟩ := hrel
          by_cases hjlt : j < n5
          rotate_left
          · go_wp2
            go_round
            case rel => exact ⟨k + 1, _, by go_num, by omega, rfl, by omega, by omega⟩
            case measure => simp [intOf]; omega
          obtain ⟨b5, o5, rfl, hb5, hcell⟩ := HA5.out (by omega)
          have hcj := hcell j hjlt
          clear hcell
          obtain ⟨a6, c6, hV6, hn6, H6⟩ := pcs_shape (HE6.out j hjlt)
          rw [hV6] at hcj
          clear hV6
          generalize L.getD j [] = L6 at *
          have HA6 : Hid (At w B a6 L6.length (L6.length * 4) (fun i => pc (L6.getD (i / 4) default) (i % 4))) := H6
          clear H6
          obtain ⟨n6, hN6⟩ : ∃ n, n = L6.length := ⟨_, rfl⟩
          have HN6 : Hid (n6 = L6.length) := hN6
          rw [← hN6] at hcj hn6
          clear hN6
          by_cases h1 : 1048576 < n6
          · go_wp2
            go_ret
            exact ⟨rfl, _, rfl⟩
          by_cases h1 : 1048576 < Z2 + n6
          · go_wp2
            go_ret
            exact ⟨rfl, _, rfl⟩
          go_wp2
          go_loop [11, 16] (fun z i => ∃ (k : Nat) (Z : Int), i = .int .i64 k ∧ k ≤ n6 ∧ z = .int .i64 Z ∧ 0 ≤ Z ∧ Z ≤ 1048576) (fun _ i => n6 - (intOf i).toNat)
          case atStart => exact ⟨0, _, rfl, Nat.zero_le _, rfl, by omega, by omega⟩
          case round =>
            obtain ⟨m, Z3, rfl, hm, rfl, hZ30, hZ31⟩ := hrel
            by_cases hmlt : m < n6
            rotate_left
            · go_wp2
              go_round
              case rel => exact ⟨j + 1, _, by go_num, by omega, rfl, by omega, by omega⟩
              case measure => simp [intOf]; omega
            obtain ⟨b6, o6, rfl, hb6, hcell⟩ := HA6.out (by have := HN6.out; omega)
            obtain ⟨d0, d1, d2, d3⟩ := at4 (a := none) (n := 0) (k := m) (by have := HN6.out; omega) hcell
            simp only [pc] at d0 d1
            clear hcell d2 d3
            generalize (L6.getD m default).o = s at *
            generalize (L6.getD m default).q = s2 at *
            by_cases h1 : 1048576 < s.size
            · go_wp2
              go_ret
              exact ⟨rfl, _, rfl⟩
            by_cases h1 : 1048576 < Z3 + s.size
            · go_wp2
              go_ret
              exact ⟨rfl, _, rfl⟩
            by_cases h1 : 1048576 < s2.size
            · go_wp2
              go_ret
              exact ⟨rfl, _, rfl⟩
            by_cases h1 : 1048576 < Z3 + s.size + s2.size
            · go_wp2
              go_ret
              exact ⟨rfl, _, rfl⟩
            go_wp2
            go_round
            case rel => exact ⟨m + 1, _, by go_num, by omega, rfl, by omega, by omega⟩
            case measure => simp [intOf]; omega
end Go.Proofs.Qxb6603470a
