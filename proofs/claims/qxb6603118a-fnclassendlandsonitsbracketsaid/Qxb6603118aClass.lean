/-
  THE WALK of classEnd (function 26): it returns what the plain law's 'Cls.classEnd' says; the world is as it was. One theorem a way to the loop.
-/
import Derived.Test.Qxb6603118aShelf
import Derived.Test.Qxb6603118aBridge
import Derived.WalkKit
import Derived.WalkSpells
import Derived.WalkLawsBesides
namespace Go.Proofs.Qxb6603118a
open Go.RowKit

theorem ret_int {k : IntKind} {a b : Int} (h : a = b) : Ending.returned (.int k a) = .returned (.int k b) := by rw [h]


set_option maxHeartbeats 1000000 in
theorem classEnd_one (s : ByteArray) (n : Nat) (m : Int) (w : World) (_hn : n < s.size) (hs : s.size ≤ 2097152) (hm : w.cell? ⟨0, 0, none⟩ = some (.int .i64 m))
    (h1 : n + 1 < s.size) (e1 : ((s[n + 1].toNat : Int) == 94) = true) (h2 : n + 1 + 1 < s.size) (e2 : ((s[n + 1 + 1].toNat : Int) == 93) = true) :
    Calls Try.prog 26 #[.string s, .int .i64 n] w fun e w' => e = .returned (.int .i64 (Cls.classEnd s.data.toList n)) ∧ w' = w := by
  obtain ⟨R, hR⟩ : ∃ R, Cls.classEnd s.data.toList n = R := ⟨_, rfl⟩
  rw [hR]
  have H0 : Hid (R = Cls.from_ s (n + 3)) := hR.symm.trans (Cls.start1 s n h1 e1 h2 e2)
  clear hR
  go_enter Try.func26, Try.ntmps26
  go_wp2_with fail
  go_loop [5] (fun i => ∃ k : Nat, i = .int .i64 k ∧ k ≤ s.size + 1 ∧ Hid (R = Cls.from_ s k)) (fun i => s.size + 2 - (intOf i).toNat)
  case atStart =>
    refine ⟨_, ?_, ?_, H0⟩
    · go_num
    · omega
  case round =>
    obtain ⟨k, rfl, hk, H⟩ := hrel
    by_cases hlt : k < s.size
    · cases e92 : ((s[k].toNat : Int) == 92)
      · cases hp : Lib.hasPrefix (List.take (s.size - k) (List.drop k s.data.toList)) [91, 58]
        · cases e93 : ((s[k].toNat : Int) == 93)
          · go_wp2_with (go_at_call 29; refine (Try.strings_HasPrefix _ _ _).mono ?_; rintro e w' ⟨rfl, rfl⟩)
            go_round
            case rel => exact ⟨k + 1, by go_num, by omega, H.out.trans (Cls.round_other s k hlt e92 hp e93)⟩
            case measure => simp [intOf]; omega
          · go_wp2_with (go_at_call 29; refine (Try.strings_HasPrefix _ _ _).mono ?_; rintro e w' ⟨rfl, rfl⟩)
            go_ret
            exact ⟨ret_int (by rw [H.out, Cls.round_close s k hlt e92 e93]), rfl⟩
        · have hr := Cls.prefix_room s k hp
          have hx := Lib.index_le (List.take (s.size - (k + 2)) (List.drop (k + 2) s.data.toList)) [58, 93]
          have hx2 : (List.take (s.size - (k + 2)) (List.drop (k + 2) s.data.toList)).length ≤ s.size := by simp
          obtain ⟨x, hxe⟩ : ∃ x, Lib.index (List.take (s.size - (k + 2)) (List.drop (k + 2) s.data.toList)) [58, 93] = x := ⟨_, rfl⟩
          by_cases hi : 0 ≤ x
          · have hroom := Cls.named_room s k hr (by unfold Cls.tl; rw [hxe]; exact hi)
            have hnamed := Cls.round_named s k hlt e92 hp (by unfold Cls.tl; rw [hxe]; exact hi)
            unfold Cls.tl at hroom hnamed
            rw [hxe] at hx hroom hnamed
            have HN : Hid (Cls.from_ s k = Cls.from_ s (k + (x.toNat + 4))) := hnamed
            clear hnamed
            go_wp2_with (first | (go_at_call 29; refine (Try.strings_HasPrefix _ _ _).mono ?_; rintro e w' ⟨rfl, rfl⟩) | (go_at_call 30; refine (Try.strings_Index _ _ m _ (by simp; omega) hm).mono ?_; rintro e w' ⟨rfl, rfl⟩))
            go_round
            case rel => exact ⟨k + (x.toNat + 4), by go_num, by omega, H.out.trans HN.out⟩
            case measure => simp [intOf]; omega
          · have HO : Hid (Cls.from_ s k = Cls.from_ s (k + 1)) := Cls.round_open s k hlt e92 hp (by unfold Cls.tl; rw [hxe]; omega)
            rw [hxe] at hx
            have hge : -1 ≤ x := by rw [← hxe]; exact Lib.index_ge _ _
            go_wp2_with (first | (go_at_call 29; refine (Try.strings_HasPrefix _ _ _).mono ?_; rintro e w' ⟨rfl, rfl⟩) | (go_at_call 30; refine (Try.strings_Index _ _ m _ (by simp; omega) hm).mono ?_; rintro e w' ⟨rfl, rfl⟩))
            go_round
            case rel => exact ⟨k + 1, by go_num, by omega, H.out.trans HO.out⟩
            case measure => simp [intOf]; omega
      · go_wp2_with fail
        go_round
        case rel => exact ⟨k + 2, by go_num, by omega, H.out.trans (Cls.round_bs s k hlt e92)⟩
        case measure => simp [intOf]; omega
    · go_wp2_with fail
      go_ret
      exact ⟨ret_int (by rw [H.out, Cls.round_out s k (by omega)]), rfl⟩

set_option maxHeartbeats 1000000 in
theorem classEnd_two (s : ByteArray) (n : Nat) (m : Int) (w : World) (_hn : n < s.size) (hs : s.size ≤ 2097152) (hm : w.cell? ⟨0, 0, none⟩ = some (.int .i64 m))
    (h1 : n + 1 < s.size) (e1 : ((s[n + 1].toNat : Int) == 94) = true) (h2 : n + 1 + 1 < s.size) (e2 : ((s[n + 1 + 1].toNat : Int) == 93) = false) :
    Calls Try.prog 26 #[.string s, .int .i64 n] w fun e w' => e = .returned (.int .i64 (Cls.classEnd s.data.toList n)) ∧ w' = w := by
  obtain ⟨R, hR⟩ : ∃ R, Cls.classEnd s.data.toList n = R := ⟨_, rfl⟩
  rw [hR]
  have H0 : Hid (R = Cls.from_ s (n + 2)) := hR.symm.trans (Cls.start2 s n h1 e1 h2 e2)
  clear hR
  go_enter Try.func26, Try.ntmps26
  go_wp2_with fail
  go_loop [5] (fun i => ∃ k : Nat, i = .int .i64 k ∧ k ≤ s.size + 1 ∧ Hid (R = Cls.from_ s k)) (fun i => s.size + 2 - (intOf i).toNat)
  case atStart =>
    refine ⟨_, ?_, ?_, H0⟩
    · go_num
    · omega
  case round =>
    obtain ⟨k, rfl, hk, H⟩ := hrel
    by_cases hlt : k < s.size
    · cases e92 : ((s[k].toNat : Int) == 92)
      · cases hp : Lib.hasPrefix (List.take (s.size - k) (List.drop k s.data.toList)) [91, 58]
        · cases e93 : ((s[k].toNat : Int) == 93)
          · go_wp2_with (go_at_call 29; refine (Try.strings_HasPrefix _ _ _).mono ?_; rintro e w' ⟨rfl, rfl⟩)
            go_round
            case rel => exact ⟨k + 1, by go_num, by omega, H.out.trans (Cls.round_other s k hlt e92 hp e93)⟩
            case measure => simp [intOf]; omega
          · go_wp2_with (go_at_call 29; refine (Try.strings_HasPrefix _ _ _).mono ?_; rintro e w' ⟨rfl, rfl⟩)
            go_ret
            exact ⟨ret_int (by rw [H.out, Cls.round_close s k hlt e92 e93]), rfl⟩
        · have hr := Cls.prefix_room s k hp
          have hx := Lib.index_le (List.take (s.size - (k + 2)) (List.drop (k + 2) s.data.toList)) [58, 93]
          have hx2 : (List.take (s.size - (k + 2)) (List.drop (k + 2) s.data.toList)).length ≤ s.size := by simp
          obtain ⟨x, hxe⟩ : ∃ x, Lib.index (List.take (s.size - (k + 2)) (List.drop (k + 2) s.data.toList)) [58, 93] = x := ⟨_, rfl⟩
          by_cases hi : 0 ≤ x
          · have hroom := Cls.named_room s k hr (by unfold Cls.tl; rw [hxe]; exact hi)
            have hnamed := Cls.round_named s k hlt e92 hp (by unfold Cls.tl; rw [hxe]; exact hi)
            unfold Cls.tl at hroom hnamed
            rw [hxe] at hx hroom hnamed
            have HN : Hid (Cls.from_ s k = Cls.from_ s (k + (x.toNat + 4))) := hnamed
            clear hnamed
            go_wp2_with (first | (go_at_call 29; refine (Try.strings_HasPrefix _ _ _).mono ?_; rintro e w' ⟨rfl, rfl⟩) | (go_at_call 30; refine (Try.strings_Index _ _ m _ (by simp; omega) hm).mono ?_; rintro e w' ⟨rfl, rfl⟩))
            go_round
            case rel => exact ⟨k + (x.toNat + 4), by go_num, by omega, H.out.trans HN.out⟩
            case measure => simp [intOf]; omega
          · have HO : Hid (Cls.from_ s k = Cls.from_ s (k + 1)) := Cls.round_open s k hlt e92 hp (by unfold Cls.tl; rw [hxe]; omega)
            rw [hxe] at hx
            have hge : -1 ≤ x := by rw [← hxe]; exact Lib.index_ge _ _
            go_wp2_with (first | (go_at_call 29; refine (Try.strings_HasPrefix _ _ _).mono ?_; rintro e w' ⟨rfl, rfl⟩) | (go_at_call 30; refine (Try.strings_Index _ _ m _ (by simp; omega) hm).mono ?_; rintro e w' ⟨rfl, rfl⟩))
            go_round
            case rel => exact ⟨k + 1, by go_num, by omega, H.out.trans HO.out⟩
            case measure => simp [intOf]; omega
      · go_wp2_with fail
        go_round
        case rel => exact ⟨k + 2, by go_num, by omega, H.out.trans (Cls.round_bs s k hlt e92)⟩
        case measure => simp [intOf]; omega
    · go_wp2_with fail
      go_ret
      exact ⟨ret_int (by rw [H.out, Cls.round_out s k (by omega)]), rfl⟩

set_option maxHeartbeats 1000000 in
theorem classEnd_three (s : ByteArray) (n : Nat) (m : Int) (w : World) (_hn : n < s.size) (hs : s.size ≤ 2097152) (hm : w.cell? ⟨0, 0, none⟩ = some (.int .i64 m))
    (h1 : n + 1 < s.size) (e1 : ((s[n + 1].toNat : Int) == 94) = true) (h2 : ¬ n + 1 + 1 < s.size) :
    Calls Try.prog 26 #[.string s, .int .i64 n] w fun e w' => e = .returned (.int .i64 (Cls.classEnd s.data.toList n)) ∧ w' = w := by
  obtain ⟨R, hR⟩ : ∃ R, Cls.classEnd s.data.toList n = R := ⟨_, rfl⟩
  rw [hR]
  have H0 : Hid (R = Cls.from_ s (n + 2)) := hR.symm.trans (Cls.start3 s n h1 e1 (by omega))
  clear hR
  go_enter Try.func26, Try.ntmps26
  go_wp2_with fail
  go_loop [5] (fun i => ∃ k : Nat, i = .int .i64 k ∧ k ≤ s.size + 1 ∧ Hid (R = Cls.from_ s k)) (fun i => s.size + 2 - (intOf i).toNat)
  case atStart =>
    refine ⟨_, ?_, ?_, H0⟩
    · go_num
    · omega
  case round =>
    obtain ⟨k, rfl, hk, H⟩ := hrel
    by_cases hlt : k < s.size
    · cases e92 : ((s[k].toNat : Int) == 92)
      · cases hp : Lib.hasPrefix (List.take (s.size - k) (List.drop k s.data.toList)) [91, 58]
        · cases e93 : ((s[k].toNat : Int) == 93)
          · go_wp2_with (go_at_call 29; refine (Try.strings_HasPrefix _ _ _).mono ?_; rintro e w' ⟨rfl, rfl⟩)
            go_round
            case rel => exact ⟨k + 1, by go_num, by omega, H.out.trans (Cls.round_other s k hlt e92 hp e93)⟩
            case measure => simp [intOf]; omega
          · go_wp2_with (go_at_call 29; refine (Try.strings_HasPrefix _ _ _).mono ?_; rintro e w' ⟨rfl, rfl⟩)
            go_ret
            exact ⟨ret_int (by rw [H.out, Cls.round_close s k hlt e92 e93]), rfl⟩
        · have hr := Cls.prefix_room s k hp
          have hx := Lib.index_le (List.take (s.size - (k + 2)) (List.drop (k + 2) s.data.toList)) [58, 93]
          have hx2 : (List.take (s.size - (k + 2)) (List.drop (k + 2) s.data.toList)).length ≤ s.size := by simp
          obtain ⟨x, hxe⟩ : ∃ x, Lib.index (List.take (s.size - (k + 2)) (List.drop (k + 2) s.data.toList)) [58, 93] = x := ⟨_, rfl⟩
          by_cases hi : 0 ≤ x
          · have hroom := Cls.named_room s k hr (by unfold Cls.tl; rw [hxe]; exact hi)
            have hnamed := Cls.round_named s k hlt e92 hp (by unfold Cls.tl; rw [hxe]; exact hi)
            unfold Cls.tl at hroom hnamed
            rw [hxe] at hx hroom hnamed
            have HN : Hid (Cls.from_ s k = Cls.from_ s (k + (x.toNat + 4))) := hnamed
            clear hnamed
            go_wp2_with (first | (go_at_call 29; refine (Try.strings_HasPrefix _ _ _).mono ?_; rintro e w' ⟨rfl, rfl⟩) | (go_at_call 30; refine (Try.strings_Index _ _ m _ (by simp; omega) hm).mono ?_; rintro e w' ⟨rfl, rfl⟩))
            go_round
            case rel => exact ⟨k + (x.toNat + 4), by go_num, by omega, H.out.trans HN.out⟩
            case measure => simp [intOf]; omega
          · have HO : Hid (Cls.from_ s k = Cls.from_ s (k + 1)) := Cls.round_open s k hlt e92 hp (by unfold Cls.tl; rw [hxe]; omega)
            rw [hxe] at hx
            have hge : -1 ≤ x := by rw [← hxe]; exact Lib.index_ge _ _
            go_wp2_with (first | (go_at_call 29; refine (Try.strings_HasPrefix _ _ _).mono ?_; rintro e w' ⟨rfl, rfl⟩) | (go_at_call 30; refine (Try.strings_Index _ _ m _ (by simp; omega) hm).mono ?_; rintro e w' ⟨rfl, rfl⟩))
            go_round
            case rel => exact ⟨k + 1, by go_num, by omega, H.out.trans HO.out⟩
            case measure => simp [intOf]; omega
      · go_wp2_with fail
        go_round
        case rel => exact ⟨k + 2, by go_num, by omega, H.out.trans (Cls.round_bs s k hlt e92)⟩
        case measure => simp [intOf]; omega
    · go_wp2_with fail
      go_ret
      exact ⟨ret_int (by rw [H.out, Cls.round_out s k (by omega)]), rfl⟩

set_option maxHeartbeats 1000000 in
theorem classEnd_four (s : ByteArray) (n : Nat) (m : Int) (w : World) (_hn : n < s.size) (hs : s.size ≤ 2097152) (hm : w.cell? ⟨0, 0, none⟩ = some (.int .i64 m))
    (h1 : n + 1 < s.size) (e1 : ((s[n + 1].toNat : Int) == 94) = false) (e2 : ((s[n + 1].toNat : Int) == 93) = true) :
    Calls Try.prog 26 #[.string s, .int .i64 n] w fun e w' => e = .returned (.int .i64 (Cls.classEnd s.data.toList n)) ∧ w' = w := by
  obtain ⟨R, hR⟩ : ∃ R, Cls.classEnd s.data.toList n = R := ⟨_, rfl⟩
  rw [hR]
  have H0 : Hid (R = Cls.from_ s (n + 2)) := hR.symm.trans (Cls.start4 s n h1 e1 e2)
  clear hR
  go_enter Try.func26, Try.ntmps26
  go_wp2_with fail
  go_loop [5] (fun i => ∃ k : Nat, i = .int .i64 k ∧ k ≤ s.size + 1 ∧ Hid (R = Cls.from_ s k)) (fun i => s.size + 2 - (intOf i).toNat)
  case atStart =>
    refine ⟨_, ?_, ?_, H0⟩
    · go_num
    · omega
  case round =>
    obtain ⟨k, rfl, hk, H⟩ := hrel
    by_cases hlt : k < s.size
    · cases e92 : ((s[k].toNat : Int) == 92)
      · cases hp : Lib.hasPrefix (List.take (s.size - k) (List.drop k s.data.toList)) [91, 58]
        · cases e93 : ((s[k].toNat : Int) == 93)
          · go_wp2_with (go_at_call 29; refine (Try.strings_HasPrefix _ _ _).mono ?_; rintro e w' ⟨rfl, rfl⟩)
            go_round
            case rel => exact ⟨k + 1, by go_num, by omega, H.out.trans (Cls.round_other s k hlt e92 hp e93)⟩
            case measure => simp [intOf]; omega
          · go_wp2_with (go_at_call 29; refine (Try.strings_HasPrefix _ _ _).mono ?_; rintro e w' ⟨rfl, rfl⟩)
            go_ret
            exact ⟨ret_int (by rw [H.out, Cls.round_close s k hlt e92 e93]), rfl⟩
        · have hr := Cls.prefix_room s k hp
          have hx := Lib.index_le (List.take (s.size - (k + 2)) (List.drop (k + 2) s.data.toList)) [58, 93]
          have hx2 : (List.take (s.size - (k + 2)) (List.drop (k + 2) s.data.toList)).length ≤ s.size := by simp
          obtain ⟨x, hxe⟩ : ∃ x, Lib.index (List.take (s.size - (k + 2)) (List.drop (k + 2) s.data.toList)) [58, 93] = x := ⟨_, rfl⟩
          by_cases hi : 0 ≤ x
          · have hroom := Cls.named_room s k hr (by unfold Cls.tl; rw [hxe]; exact hi)
            have hnamed := Cls.round_named s k hlt e92 hp (by unfold Cls.tl; rw [hxe]; exact hi)
            unfold Cls.tl at hroom hnamed
            rw [hxe] at hx hroom hnamed
            have HN : Hid (Cls.from_ s k = Cls.from_ s (k + (x.toNat + 4))) := hnamed
            clear hnamed
            go_wp2_with (first | (go_at_call 29; refine (Try.strings_HasPrefix _ _ _).mono ?_; rintro e w' ⟨rfl, rfl⟩) | (go_at_call 30; refine (Try.strings_Index _ _ m _ (by simp; omega) hm).mono ?_; rintro e w' ⟨rfl, rfl⟩))
            go_round
            case rel => exact ⟨k + (x.toNat + 4), by go_num, by omega, H.out.trans HN.out⟩
            case measure => simp [intOf]; omega
          · have HO : Hid (Cls.from_ s k = Cls.from_ s (k + 1)) := Cls.round_open s k hlt e92 hp (by unfold Cls.tl; rw [hxe]; omega)
            rw [hxe] at hx
            have hge : -1 ≤ x := by rw [← hxe]; exact Lib.index_ge _ _
            go_wp2_with (first | (go_at_call 29; refine (Try.strings_HasPrefix _ _ _).mono ?_; rintro e w' ⟨rfl, rfl⟩) | (go_at_call 30; refine (Try.strings_Index _ _ m _ (by simp; omega) hm).mono ?_; rintro e w' ⟨rfl, rfl⟩))
            go_round
            case rel => exact ⟨k + 1, by go_num, by omega, H.out.trans HO.out⟩
            case measure => simp [intOf]; omega
      · go_wp2_with fail
        go_round
        case rel => exact ⟨k + 2, by go_num, by omega, H.out.trans (Cls.round_bs s k hlt e92)⟩
        case measure => simp [intOf]; omega
    · go_wp2_with fail
      go_ret
      exact ⟨ret_int (by rw [H.out, Cls.round_out s k (by omega)]), rfl⟩

set_option maxHeartbeats 1000000 in
theorem classEnd_five (s : ByteArray) (n : Nat) (m : Int) (w : World) (_hn : n < s.size) (hs : s.size ≤ 2097152) (hm : w.cell? ⟨0, 0, none⟩ = some (.int .i64 m))
    (h1 : n + 1 < s.size) (e1 : ((s[n + 1].toNat : Int) == 94) = false) (e2 : ((s[n + 1].toNat : Int) == 93) = false) :
    Calls Try.prog 26 #[.string s, .int .i64 n] w fun e w' => e = .returned (.int .i64 (Cls.classEnd s.data.toList n)) ∧ w' = w := by
  obtain ⟨R, hR⟩ : ∃ R, Cls.classEnd s.data.toList n = R := ⟨_, rfl⟩
  rw [hR]
  have H0 : Hid (R = Cls.from_ s (n + 1)) := hR.symm.trans (Cls.start5 s n h1 e1 e2)
  clear hR
  go_enter Try.func26, Try.ntmps26
  go_wp2_with fail
  go_loop [5] (fun i => ∃ k : Nat, i = .int .i64 k ∧ k ≤ s.size + 1 ∧ Hid (R = Cls.from_ s k)) (fun i => s.size + 2 - (intOf i).toNat)
  case atStart =>
    refine ⟨_, ?_, ?_, H0⟩
    · go_num
    · omega
  case round =>
    obtain ⟨k, rfl, hk, H⟩ := hrel
    by_cases hlt : k < s.size
    · cases e92 : ((s[k].toNat : Int) == 92)
      · cases hp : Lib.hasPrefix (List.take (s.size - k) (List.drop k s.data.toList)) [91, 58]
        · cases e93 : ((s[k].toNat : Int) == 93)
          · go_wp2_with (go_at_call 29; refine (Try.strings_HasPrefix _ _ _).mono ?_; rintro e w' ⟨rfl, rfl⟩)
            go_round
            case rel => exact ⟨k + 1, by go_num, by omega, H.out.trans (Cls.round_other s k hlt e92 hp e93)⟩
            case measure => simp [intOf]; omega
          · go_wp2_with (go_at_call 29; refine (Try.strings_HasPrefix _ _ _).mono ?_; rintro e w' ⟨rfl, rfl⟩)
            go_ret
            exact ⟨ret_int (by rw [H.out, Cls.round_close s k hlt e92 e93]), rfl⟩
        · have hr := Cls.prefix_room s k hp
          have hx := Lib.index_le (List.take (s.size - (k + 2)) (List.drop (k + 2) s.data.toList)) [58, 93]
          have hx2 : (List.take (s.size - (k + 2)) (List.drop (k + 2) s.data.toList)).length ≤ s.size := by simp
          obtain ⟨x, hxe⟩ : ∃ x, Lib.index (List.take (s.size - (k + 2)) (List.drop (k + 2) s.data.toList)) [58, 93] = x := ⟨_, rfl⟩
          by_cases hi : 0 ≤ x
          · have hroom := Cls.named_room s k hr (by unfold Cls.tl; rw [hxe]; exact hi)
            have hnamed := Cls.round_named s k hlt e92 hp (by unfold Cls.tl; rw [hxe]; exact hi)
            unfold Cls.tl at hroom hnamed
            rw [hxe] at hx hroom hnamed
            have HN : Hid (Cls.from_ s k = Cls.from_ s (k + (x.toNat + 4))) := hnamed
            clear hnamed
            go_wp2_with (first | (go_at_call 29; refine (Try.strings_HasPrefix _ _ _).mono ?_; rintro e w' ⟨rfl, rfl⟩) | (go_at_call 30; refine (Try.strings_Index _ _ m _ (by simp; omega) hm).mono ?_; rintro e w' ⟨rfl, rfl⟩))
            go_round
            case rel => exact ⟨k + (x.toNat + 4), by go_num, by omega, H.out.trans HN.out⟩
            case measure => simp [intOf]; omega
          · have HO : Hid (Cls.from_ s k = Cls.from_ s (k + 1)) := Cls.round_open s k hlt e92 hp (by unfold Cls.tl; rw [hxe]; omega)
            rw [hxe] at hx
            have hge : -1 ≤ x := by rw [← hxe]; exact Lib.index_ge _ _
            go_wp2_with (first | (go_at_call 29; refine (Try.strings_HasPrefix _ _ _).mono ?_; rintro e w' ⟨rfl, rfl⟩) | (go_at_call 30; refine (Try.strings_Index _ _ m _ (by simp; omega) hm).mono ?_; rintro e w' ⟨rfl, rfl⟩))
            go_round
            case rel => exact ⟨k + 1, by go_num, by omega, H.out.trans HO.out⟩
            case measure => simp [intOf]; omega
      · go_wp2_with fail
        go_round
        case rel => exact ⟨k + 2, by go_num, by omega, H.out.trans (Cls.round_bs s k hlt e92)⟩
        case measure => simp [intOf]; omega
    · go_wp2_with fail
      go_ret
      exact ⟨ret_int (by rw [H.out, Cls.round_out s k (by omega)]), rfl⟩

set_option maxHeartbeats 1000000 in
theorem classEnd_six (s : ByteArray) (n : Nat) (m : Int) (w : World) (_hn : n < s.size) (hs : s.size ≤ 2097152) (hm : w.cell? ⟨0, 0, none⟩ = some (.int .i64 m))
    (h1 : ¬ n + 1 < s.size) :
    Calls Try.prog 26 #[.string s, .int .i64 n] w fun e w' => e = .returned (.int .i64 (Cls.classEnd s.data.toList n)) ∧ w' = w := by
  obtain ⟨R, hR⟩ : ∃ R, Cls.classEnd s.data.toList n = R := ⟨_, rfl⟩
  rw [hR]
  have H0 : Hid (R = Cls.from_ s (n + 1)) := hR.symm.trans (Cls.start6 s n (by omega))
  clear hR
  go_enter Try.func26, Try.ntmps26
  go_wp2_with fail
  go_loop [5] (fun i => ∃ k : Nat, i = .int .i64 k ∧ k ≤ s.size + 1 ∧ Hid (R = Cls.from_ s k)) (fun i => s.size + 2 - (intOf i).toNat)
  case atStart =>
    refine ⟨_, ?_, ?_, H0⟩
    · go_num
    · omega
  case round =>
    obtain ⟨k, rfl, hk, H⟩ := hrel
    by_cases hlt : k < s.size
    · cases e92 : ((s[k].toNat : Int) == 92)
      · cases hp : Lib.hasPrefix (List.take (s.size - k) (List.drop k s.data.toList)) [91, 58]
        · cases e93 : ((s[k].toNat : Int) == 93)
          · go_wp2_with (go_at_call 29; refine (Try.strings_HasPrefix _ _ _).mono ?_; rintro e w' ⟨rfl, rfl⟩)
            go_round
            case rel => exact ⟨k + 1, by go_num, by omega, H.out.trans (Cls.round_other s k hlt e92 hp e93)⟩
            case measure => simp [intOf]; omega
          · go_wp2_with (go_at_call 29; refine (Try.strings_HasPrefix _ _ _).mono ?_; rintro e w' ⟨rfl, rfl⟩)
            go_ret
            exact ⟨ret_int (by rw [H.out, Cls.round_close s k hlt e92 e93]), rfl⟩
        · have hr := Cls.prefix_room s k hp
          have hx := Lib.index_le (List.take (s.size - (k + 2)) (List.drop (k + 2) s.data.toList)) [58, 93]
          have hx2 : (List.take (s.size - (k + 2)) (List.drop (k + 2) s.data.toList)).length ≤ s.size := by simp
          obtain ⟨x, hxe⟩ : ∃ x, Lib.index (List.take (s.size - (k + 2)) (List.drop (k + 2) s.data.toList)) [58, 93] = x := ⟨_, rfl⟩
          by_cases hi : 0 ≤ x
          · have hroom := Cls.named_room s k hr (by unfold Cls.tl; rw [hxe]; exact hi)
            have hnamed := Cls.round_named s k hlt e92 hp (by unfold Cls.tl; rw [hxe]; exact hi)
            unfold Cls.tl at hroom hnamed
            rw [hxe] at hx hroom hnamed
            have HN : Hid (Cls.from_ s k = Cls.from_ s (k + (x.toNat + 4))) := hnamed
            clear hnamed
            go_wp2_with (first | (go_at_call 29; refine (Try.strings_HasPrefix _ _ _).mono ?_; rintro e w' ⟨rfl, rfl⟩) | (go_at_call 30; refine (Try.strings_Index _ _ m _ (by simp; omega) hm).mono ?_; rintro e w' ⟨rfl, rfl⟩))
            go_round
            case rel => exact ⟨k + (x.toNat + 4), by go_num, by omega, H.out.trans HN.out⟩
            case measure => simp [intOf]; omega
          · have HO : Hid (Cls.from_ s k = Cls.from_ s (k + 1)) := Cls.round_open s k hlt e92 hp (by unfold Cls.tl; rw [hxe]; omega)
            rw [hxe] at hx
            have hge : -1 ≤ x := by rw [← hxe]; exact Lib.index_ge _ _
            go_wp2_with (first | (go_at_call 29; refine (Try.strings_HasPrefix _ _ _).mono ?_; rintro e w' ⟨rfl, rfl⟩) | (go_at_call 30; refine (Try.strings_Index _ _ m _ (by simp; omega) hm).mono ?_; rintro e w' ⟨rfl, rfl⟩))
            go_round
            case rel => exact ⟨k + 1, by go_num, by omega, H.out.trans HO.out⟩
            case measure => simp [intOf]; omega
      · go_wp2_with fail
        go_round
        case rel => exact ⟨k + 2, by go_num, by omega, H.out.trans (Cls.round_bs s k hlt e92)⟩
        case measure => simp [intOf]; omega
    · go_wp2_with fail
      go_ret
      exact ⟨ret_int (by rw [H.out, Cls.round_out s k (by omega)]), rfl⟩

theorem classEnd_any (s : ByteArray) (a : Int) (m : Int) (w : World) (h0 : 0 ≤ a) (hn : a < s.size) (hs : s.size ≤ 2097152) (hm : w.cell? ⟨0, 0, none⟩ = some (.int .i64 m)) :
    Calls Try.prog 26 #[.string s, .int .i64 a] w fun e w' => e = .returned (.int .i64 (Cls.classEnd s.data.toList a.toNat)) ∧ w' = w := by
  obtain ⟨n, rfl⟩ := Int.eq_ofNat_of_zero_le h0
  rw [Int.toNat_natCast]
  have hn' : n < s.size := by omega
  by_cases h1 : n + 1 < s.size
  · cases e1 : ((s[n + 1].toNat : Int) == 94)
    · cases e2 : ((s[n + 1].toNat : Int) == 93)
      · exact classEnd_five s n m w hn' hs hm h1 e1 e2
      · exact classEnd_four s n m w hn' hs hm h1 e1 e2
    · by_cases h2 : n + 1 + 1 < s.size
      · cases e2 : ((s[n + 1 + 1].toNat : Int) == 93)
        · exact classEnd_two s n m w hn' hs hm h1 e1 h2 e2
        · exact classEnd_one s n m w hn' hs hm h1 e1 h2 e2
      · exact classEnd_three s n m w hn' hs hm h1 e1 h2
  · exact classEnd_six s n m w hn' hs hm h1

/-- ZZclassEnd (function 14) hands it on. -/
theorem zzClassEnd_any (s : ByteArray) (a : Int) (m : Int) (w : World) (h0 : 0 ≤ a) (hn : a < s.size) (hs : s.size ≤ 2097152) (hm : w.cell? ⟨0, 0, none⟩ = some (.int .i64 m)) :
    Calls Try.prog 14 #[.string s, .int .i64 a] w fun e w' => e = .returned (.int .i64 (Cls.classEnd s.data.toList a.toNat)) ∧ w' = w := by
  go_enter Try.func14, Try.ntmps14
  go_wp2_with (go_at_call 26; refine (classEnd_any _ _ m _ h0 hn hs hm).mono ?_; rintro e w' ⟨rfl, rfl⟩)
  go_ret
  exact ⟨rfl, rfl⟩

end Go.Proofs.Qxb6603118a
