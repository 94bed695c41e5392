/-
  'Rows.FnClassEndLandsOnItsBracketSaid', PROVED. The frame is the given shell's; its wrap is the one that keeps the world's shape (strings.Index reads a variable of the library's own).
-/
import Derived.Test.Qxb6603118aRows
import Derived.WalkKit
import Derived.ProofKit
import Derived.OpenShut
import Derived.ShutString
import Derived.HandedShaped
import Derived.Test.Qxb6603118aClass
import Derived.Test.Qxb6603118aLandsPlain
namespace Go.Proofs.Qxb6603118a.fnClassEndLandsOnItsBracket
open Go.ChangeShapes Go.WideShapes Go.ChangeAt Go.RowKit
open Go.ChangeMaps (open_string shut_string)
set_option linter.unusedVariables false

theorem own : ownKnob Try.prog.godebug = none := by kernel_rfl

/-! ### STEP 1: THE WALK: the Go text returns true. -/
theorem ret_bool {a b : Bool} (h : a = b) : Ending.returned (.bool a) = .returned (.bool b) := by rw [h]

set_option maxHeartbeats 400000 in
theorem noEsc_nat (s : ByteArray) (a : Nat) (w : World) (ha : a ≤ s.size) (hs : s.size ≤ 2097152) :
    Calls Try.prog 15 #[.string s, .int .i64 a] w fun e w' => e = .returned (.bool (Cls.noEsc s.data.toList a)) ∧ w' = w := by
  obtain ⟨R, hR⟩ : ∃ R, Cls.noEsc s.data.toList a = R := ⟨_, rfl⟩
  rw [hR]
  have HR : Hid (Cls.noEsc s.data.toList a = R) := hR
  clear hR
  go_enter Try.func15, Try.ntmps15
  go_wp2
  go_loop [5] (fun i => ∃ k : Nat, i = .int .i64 k ∧ k ≤ s.size ∧ Hid (Cls.noEsc s.data.toList k = R)) (fun i => s.size - (intOf i).toNat)
  case atStart => exact ⟨a, rfl, ha, HR⟩
  case round =>
    obtain ⟨k, rfl, hk, H⟩ := hrel
    by_cases hlt : k < s.size
    · cases e92 : ((s[k].toNat : Int) == 92)
      · cases e91 : ((s[k].toNat : Int) == 91)
        · go_wp2
          go_round
          case rel => exact ⟨k + 1, by go_num, by omega, (Cls.noEsc_next s k hlt e92 e91).symm.trans H.out⟩
          case measure => simp [intOf]; omega
        · go_wp2
          go_ret
          exact ⟨ret_bool ((Cls.noEsc_open s k hlt e91).symm.trans H.out), rfl⟩
      · go_wp2
        go_ret
        exact ⟨ret_bool ((Cls.noEsc_bs s k hlt e92).symm.trans H.out), rfl⟩
    · go_wp2
      go_ret
      exact ⟨ret_bool ((Cls.noEsc_out s k (by omega)).symm.trans H.out), rfl⟩

theorem noEsc_succ (s : ByteArray) (n : Nat) (w : World) (ha : n + 1 ≤ s.size) (hs : s.size ≤ 2097152) :
    Calls Try.prog 15 #[.string s, .int .i64 ((n : Int) + 1)] w fun e w' => e = .returned (.bool (Cls.noEsc s.data.toList (n + 1))) ∧ w' = w := by
  have := noEsc_nat s (n + 1) w ha hs
  rwa [show ((n + 1 : Nat) : Int) = (n : Int) + 1 by omega] at this

set_option maxHeartbeats 1000000 in
theorem walk_in (s : ByteArray) (n : Nat) (m : Int) (w : World) (r : Nat) (HR : Hid (Cls.classEnd s.data.toList n = r)) (hs : s.size ≤ 1048576) (hn : n < s.size) (hm : w.cell? ⟨0, 0, none⟩ = some (.int .i64 m))
    (hr1 : r < s.size) (hr2 : n + 2 ≤ r) (e93 : ((s[r].toNat : Int) != 93) = false) (hr3 : ((r : Int) == (n : Int) + 2) = false) :
    Calls Try.prog 4 #[.string s, .int .i64 n] w fun e w' => e = .returned (.bool true) ∧ Grown w w' := by
  go_enter Try.func4, Try.ntmps4
  go_wp2_with (go_at_call 13; go_in)
  refine (zzClassEnd_any _ _ m _ (by omega) (by omega) (by omega) hm).mono ?_
  rintro e w' ⟨rfl, rfl⟩
  rw [Int.toNat_natCast, HR.out]
  go_wp2_with fail
  refine (noEsc_succ s n _ (by omega) (by omega)).mono ?_
  rintro e w' ⟨rfl, rfl⟩
  cases hno : Cls.noEsc s.data.toList (n + 1)
  · clear hno
    go_wp2_with fail
    go_ret
    exact ⟨rfl, Grown.refl _⟩
  have HNO : Hid (Cls.noEsc s.data.toList (n + 1) = true) := hno
  clear hno
  go_wp2_with fail
  go_loop [6, 7] (fun t i => ∃ k : Nat, i = .int .i64 k ∧ t = .int .i64 s.size ∧ n + 1 ≤ k ∧ k ≤ s.size ∧ Hid (∀ j, n + 1 ≤ j → j < k → ¬ Cls.stopAt s.data.toList n j)) (fun _ i => s.size - (intOf i).toNat)
  case atStart => exact ⟨n + 1, by go_num, rfl, by omega, by omega, fun j h1 h2 => by omega⟩
  case round =>
    obtain ⟨k, rfl, rfl, hk1, hk2, H⟩ := hrel
    by_cases hlt : k < s.size
    · have hn1 : n + 1 < s.size := by omega
      cases e93 : ((s[k].toNat : Int) == 93)
      · have HX : Hid (∀ j, n + 1 ≤ j → j < k + 1 → ¬ Cls.stopAt s.data.toList n j) := Cls.stop_ext H.out (Cls.stop_no93 s n k hlt e93)
        cases k1 : ((k : Int) == (n : Int) + 1)
        · cases k2 : ((k : Int) == (n : Int) + 2)
          · go_wp2
            all_goals
              go_round
              case rel => exact ⟨k + 1, by go_num, rfl, by omega, by omega, HX⟩
              case measure => simp [intOf]; omega
          · cases e94 : ((s[n + 1].toNat : Int) == 94)
            all_goals
              go_wp2
              all_goals
                go_round
                case rel => exact ⟨k + 1, by go_num, rfl, by omega, by omega, HX⟩
                case measure => simp [intOf]; omega
        · go_wp2
          all_goals
            go_round
            case rel => exact ⟨k + 1, by go_num, rfl, by omega, by omega, HX⟩
            case measure => simp [intOf]; omega
      · cases k1 : ((k : Int) == (n : Int) + 1)
        · cases k2 : ((k : Int) == (n : Int) + 2)
          · have hne := Cls.hit_at s n k hn HNO.out HR.out hk1 hlt H.out (Cls.stop_yes s n k hlt e93 k1 k2)
            go_wp2
            all_goals (go_ret; exact ⟨rfl, Grown.refl _⟩)
          · cases e94 : ((s[n + 1].toNat : Int) == 94)
            · have hne := Cls.hit_at s n k hn HNO.out HR.out hk1 hlt H.out (Cls.stop_yes2 s n k hlt e93 k1 hn1 e94)
              go_wp2
              all_goals (go_ret; exact ⟨rfl, Grown.refl _⟩)
            · have HX : Hid (∀ j, n + 1 ≤ j → j < k + 1 → ¬ Cls.stopAt s.data.toList n j) := Cls.stop_ext H.out (Cls.stop_no2 s n k k2 hn1 e94)
              go_wp2
              all_goals
                go_round
                case rel => exact ⟨k + 1, by go_num, rfl, by omega, by omega, HX⟩
                case measure => simp [intOf]; omega
        · have HX : Hid (∀ j, n + 1 ≤ j → j < k + 1 → ¬ Cls.stopAt s.data.toList n j) := Cls.stop_ext H.out (Cls.stop_no1 s n k k1)
          go_wp2
          all_goals
            go_round
            case rel => exact ⟨k + 1, by go_num, rfl, by omega, by omega, HX⟩
            case measure => simp [intOf]; omega
    · have hks : k = s.size := by omega
      have hne := Cls.none_at s n hn HNO.out HR.out (by rw [← hks]; exact H.out)
      clear hks
      go_wp2
      all_goals (go_ret; exact ⟨rfl, Grown.refl _⟩)

set_option maxHeartbeats 1000000 in
theorem walk_two (s : ByteArray) (n : Nat) (m : Int) (w : World) (r : Nat) (HR : Hid (Cls.classEnd s.data.toList n = r)) (hs : s.size ≤ 1048576) (hn : n < s.size) (hm : w.cell? ⟨0, 0, none⟩ = some (.int .i64 m))
    (hr1 : r < s.size) (hr2 : n + 2 ≤ r) (e93 : ((s[r].toNat : Int) != 93) = false) (hr3 : ((r : Int) == (n : Int) + 2) = true) (e94 : ((s[n + 1].toNat : Int) == 94) = false) :
    Calls Try.prog 4 #[.string s, .int .i64 n] w fun e w' => e = .returned (.bool true) ∧ Grown w w' := by
  go_enter Try.func4, Try.ntmps4
  go_wp2_with (go_at_call 13; go_in)
  refine (zzClassEnd_any _ _ m _ (by omega) (by omega) (by omega) hm).mono ?_
  rintro e w' ⟨rfl, rfl⟩
  rw [Int.toNat_natCast, HR.out]
  go_wp2_with fail
  refine (noEsc_succ s n _ (by omega) (by omega)).mono ?_
  rintro e w' ⟨rfl, rfl⟩
  cases hno : Cls.noEsc s.data.toList (n + 1)
  · clear hno
    go_wp2_with fail
    go_ret
    exact ⟨rfl, Grown.refl _⟩
  have HNO : Hid (Cls.noEsc s.data.toList (n + 1) = true) := hno
  clear hno
  go_wp2_with fail
  go_loop [6, 7] (fun t i => ∃ k : Nat, i = .int .i64 k ∧ t = .int .i64 s.size ∧ n + 1 ≤ k ∧ k ≤ s.size ∧ Hid (∀ j, n + 1 ≤ j → j < k → ¬ Cls.stopAt s.data.toList n j)) (fun _ i => s.size - (intOf i).toNat)
  case atStart => exact ⟨n + 1, by go_num, rfl, by omega, by omega, fun j h1 h2 => by omega⟩
  case round =>
    obtain ⟨k, rfl, rfl, hk1, hk2, H⟩ := hrel
    by_cases hlt : k < s.size
    · have hn1 : n + 1 < s.size := by omega
      cases e93 : ((s[k].toNat : Int) == 93)
      · have HX : Hid (∀ j, n + 1 ≤ j → j < k + 1 → ¬ Cls.stopAt s.data.toList n j) := Cls.stop_ext H.out (Cls.stop_no93 s n k hlt e93)
        cases k1 : ((k : Int) == (n : Int) + 1)
        · cases k2 : ((k : Int) == (n : Int) + 2)
          · go_wp2
            all_goals
              go_round
              case rel => exact ⟨k + 1, by go_num, rfl, by omega, by omega, HX⟩
              case measure => simp [intOf]; omega
          · cases e94 : ((s[n + 1].toNat : Int) == 94)
            all_goals
              go_wp2
              all_goals
                go_round
                case rel => exact ⟨k + 1, by go_num, rfl, by omega, by omega, HX⟩
                case measure => simp [intOf]; omega
        · go_wp2
          all_goals
            go_round
            case rel => exact ⟨k + 1, by go_num, rfl, by omega, by omega, HX⟩
            case measure => simp [intOf]; omega
      · cases k1 : ((k : Int) == (n : Int) + 1)
        · cases k2 : ((k : Int) == (n : Int) + 2)
          · have hne := Cls.hit_at s n k hn HNO.out HR.out hk1 hlt H.out (Cls.stop_yes s n k hlt e93 k1 k2)
            go_wp2
            all_goals (go_ret; exact ⟨rfl, Grown.refl _⟩)
          · cases e94 : ((s[n + 1].toNat : Int) == 94)
            · have hne := Cls.hit_at s n k hn HNO.out HR.out hk1 hlt H.out (Cls.stop_yes2 s n k hlt e93 k1 hn1 e94)
              go_wp2
              all_goals (go_ret; exact ⟨rfl, Grown.refl _⟩)
            · have HX : Hid (∀ j, n + 1 ≤ j → j < k + 1 → ¬ Cls.stopAt s.data.toList n j) := Cls.stop_ext H.out (Cls.stop_no2 s n k k2 hn1 e94)
              go_wp2
              all_goals
                go_round
                case rel => exact ⟨k + 1, by go_num, rfl, by omega, by omega, HX⟩
                case measure => simp [intOf]; omega
        · have HX : Hid (∀ j, n + 1 ≤ j → j < k + 1 → ¬ Cls.stopAt s.data.toList n j) := Cls.stop_ext H.out (Cls.stop_no1 s n k k1)
          go_wp2
          all_goals
            go_round
            case rel => exact ⟨k + 1, by go_num, rfl, by omega, by omega, HX⟩
            case measure => simp [intOf]; omega
    · have hks : k = s.size := by omega
      have hne := Cls.none_at s n hn HNO.out HR.out (by rw [← hks]; exact H.out)
      clear hks
      go_wp2
      all_goals (go_ret; exact ⟨rfl, Grown.refl _⟩)

set_option maxHeartbeats 1000000 in
theorem walk_end (s : ByteArray) (n : Nat) (m : Int) (w : World) (r : Nat) (HR : Hid (Cls.classEnd s.data.toList n = r)) (hs : s.size ≤ 1048576) (hn : n < s.size) (hm : w.cell? ⟨0, 0, none⟩ = some (.int .i64 m))
    (hr1 : (r : Int) = s.size) :
    Calls Try.prog 4 #[.string s, .int .i64 n] w fun e w' => e = .returned (.bool true) ∧ Grown w w' := by
  go_enter Try.func4, Try.ntmps4
  go_wp2_with (go_at_call 13; go_in)
  refine (zzClassEnd_any _ _ m _ (by omega) (by omega) (by omega) hm).mono ?_
  rintro e w' ⟨rfl, rfl⟩
  rw [Int.toNat_natCast, HR.out]
  go_wp2_with fail
  refine (noEsc_succ s n _ (by omega) (by omega)).mono ?_
  rintro e w' ⟨rfl, rfl⟩
  cases hno : Cls.noEsc s.data.toList (n + 1)
  · clear hno
    go_wp2_with fail
    go_ret
    exact ⟨rfl, Grown.refl _⟩
  have HNO : Hid (Cls.noEsc s.data.toList (n + 1) = true) := hno
  clear hno
  go_wp2_with fail
  go_loop [6, 7] (fun t i => ∃ k : Nat, i = .int .i64 k ∧ t = .int .i64 s.size ∧ n + 1 ≤ k ∧ k ≤ s.size ∧ Hid (∀ j, n + 1 ≤ j → j < k → ¬ Cls.stopAt s.data.toList n j)) (fun _ i => s.size - (intOf i).toNat)
  case atStart => exact ⟨n + 1, by go_num, rfl, by omega, by omega, fun j h1 h2 => by omega⟩
  case round =>
    obtain ⟨k, rfl, rfl, hk1, hk2, H⟩ := hrel
    by_cases hlt : k < s.size
    · have hn1 : n + 1 < s.size := by omega
      cases e93 : ((s[k].toNat : Int) == 93)
      · have HX : Hid (∀ j, n + 1 ≤ j → j < k + 1 → ¬ Cls.stopAt s.data.toList n j) := Cls.stop_ext H.out (Cls.stop_no93 s n k hlt e93)
        cases k1 : ((k : Int) == (n : Int) + 1)
        · cases k2 : ((k : Int) == (n : Int) + 2)
          · go_wp2
            all_goals
              go_round
              case rel => exact ⟨k + 1, by go_num, rfl, by omega, by omega, HX⟩
              case measure => simp [intOf]; omega
          · cases e94 : ((s[n + 1].toNat : Int) == 94)
            all_goals
              go_wp2
              all_goals
                go_round
                case rel => exact ⟨k + 1, by go_num, rfl, by omega, by omega, HX⟩
                case measure => simp [intOf]; omega
        · go_wp2
          all_goals
            go_round
            case rel => exact ⟨k + 1, by go_num, rfl, by omega, by omega, HX⟩
            case measure => simp [intOf]; omega
      · cases k1 : ((k : Int) == (n : Int) + 1)
        · cases k2 : ((k : Int) == (n : Int) + 2)
          · have hne := Cls.hit_at s n k hn HNO.out HR.out hk1 hlt H.out (Cls.stop_yes s n k hlt e93 k1 k2)
            go_wp2
            all_goals (go_ret; exact ⟨rfl, Grown.refl _⟩)
          · cases e94 : ((s[n + 1].toNat : Int) == 94)
            · have hne := Cls.hit_at s n k hn HNO.out HR.out hk1 hlt H.out (Cls.stop_yes2 s n k hlt e93 k1 hn1 e94)
              go_wp2
              all_goals (go_ret; exact ⟨rfl, Grown.refl _⟩)
            · have HX : Hid (∀ j, n + 1 ≤ j → j < k + 1 → ¬ Cls.stopAt s.data.toList n j) := Cls.stop_ext H.out (Cls.stop_no2 s n k k2 hn1 e94)
              go_wp2
              all_goals
                go_round
                case rel => exact ⟨k + 1, by go_num, rfl, by omega, by omega, HX⟩
                case measure => simp [intOf]; omega
        · have HX : Hid (∀ j, n + 1 ≤ j → j < k + 1 → ¬ Cls.stopAt s.data.toList n j) := Cls.stop_ext H.out (Cls.stop_no1 s n k k1)
          go_wp2
          all_goals
            go_round
            case rel => exact ⟨k + 1, by go_num, rfl, by omega, by omega, HX⟩
            case measure => simp [intOf]; omega
    · have hks : k = s.size := by omega
      have hne := Cls.none_at s n hn HNO.out HR.out (by rw [← hks]; exact H.out)
      clear hks
      go_wp2
      all_goals (go_ret; exact ⟨rfl, Grown.refl _⟩)

set_option maxHeartbeats 1000000 in
theorem walk_over (s : ByteArray) (n : Nat) (m : Int) (w : World) (r : Nat) (HR : Hid (Cls.classEnd s.data.toList n = r)) (hs : s.size ≤ 1048576) (hn : n < s.size) (hm : w.cell? ⟨0, 0, none⟩ = some (.int .i64 m))
    (hr1 : ((r : Int) == (s.size : Int) + 1) = true) (hr2 : s.size + 1 ≤ r) (hr3 : r ≤ s.size + 1) (e92 : ((s[s.size - 1].toNat : Int) != 92) = false) (hno1 : Cls.noEsc s.data.toList (n + 1) = false) :
    Calls Try.prog 4 #[.string s, .int .i64 n] w fun e w' => e = .returned (.bool true) ∧ Grown w w' := by
  go_enter Try.func4, Try.ntmps4
  go_wp2_with (go_at_call 13; go_in)
  refine (zzClassEnd_any _ _ m _ (by omega) (by omega) (by omega) hm).mono ?_
  rintro e w' ⟨rfl, rfl⟩
  rw [Int.toNat_natCast, HR.out]
  go_wp2_with fail
  refine (noEsc_succ s n _ (by omega) (by omega)).mono ?_
  rintro e w' ⟨rfl, rfl⟩
  rw [hno1]
  clear hno1
  go_wp2_with fail
  go_ret
  exact ⟨rfl, Grown.refl _⟩

/-- The law, whatever the input. -/
theorem walk (a0 : ByteArray) (a1 : Int) (w0 : a0.size ≤ maxLen) (w1 : (Lit.int .i64 a1).wf = true) (w : World) (hm : ∃ m, w.cell? ⟨0, 0, none⟩ = some (.int .i64 m)) :
    Calls Try.prog 4 #[.string a0, .int .i64 a1] w fun e w' => e = .returned (.bool true) ∧ Grown w w' := by
  unfold maxLen at w0
  obtain ⟨m, hm⟩ := hm
  by_cases hin : a0.size ≤ 1048576 ∧ 0 ≤ a1 ∧ a1 < a0.size
  · obtain ⟨c0, c1, c2⟩ := hin
    obtain ⟨n, rfl⟩ := Int.eq_ofNat_of_zero_le c1
    have hn : n < a0.size := by omega
    have hl : a0.data.toList.length = a0.size := by simp
    obtain ⟨r, hr⟩ : ∃ r, Cls.classEnd a0.data.toList n = r := ⟨_, rfl⟩
    have hb := Cls.classEnd_bounds a0.data.toList n (by omega)
    rw [hr, hl] at hb
    by_cases q1 : r < a0.size
    · have hh := Cls.classEnd_hit a0.data.toList n (by omega)
      rw [hr, Cls.get_at a0 r q1] at hh
      obtain ⟨h1, h2, h3⟩ := hh
      have e93 : ((a0[r].toNat : Int) != 93) = false := by rw [Option.some.inj h1]; rfl
      cases q2 : ((r : Int) == (n : Int) + 2)
      · exact walk_in a0 n m w r hr c0 hn hm q1 h2 e93 q2
      · refine walk_two a0 n m w r hr c0 hn hm q1 h2 e93 q2 ?_
        have := beq_iff_eq.1 q2
        cases e94 : ((a0[n + 1].toNat : Int) == 94)
        · rfl
        · have := h3 (by rw [Cls.get_at a0 _ (by omega), Cls.is94 e94])
          omega
    · by_cases q2 : r = a0.size
      · exact walk_end a0 n m w r hr c0 hn hm (by omega)
      · have q3 : r = a0.size + 1 := by omega
        have h92 := Cls.classEnd_over a0.data.toList n (by omega) (by omega)
        rw [hl, Cls.get_at a0 _ (by omega)] at h92
        refine walk_over a0 n m w r hr c0 hn hm (beq_iff_eq.2 (by omega)) (by omega) (by omega) (by rw [Option.some.inj h92]; rfl) ?_
        cases hno : Cls.noEsc a0.data.toList (n + 1)
        · rfl
        · have := (Cls.plain_end a0.data.toList n (by omega) hno).1
          omega
  · clear hm w1
    by_cases g0 : a0.size ≤ 1048576
    · by_cases g2 : a1 < 0
      · go_enter Try.func4, Try.ntmps4
        go_wp2
        go_ret
        exact ⟨rfl, Grown.refl _⟩
      · have g3 : (a0.size : Int) ≤ a1 := by omega
        go_enter Try.func4, Try.ntmps4
        go_wp2
        go_ret
        exact ⟨rfl, Grown.refl _⟩
    · clear hin
      go_enter Try.func4, Try.ntmps4
      go_wp2
      all_goals (go_ret; exact ⟨rfl, Grown.refl _⟩)

/-! ### THE ROW's STEP -/
set_option maxRecDepth 100000 in
theorem lifted (os : Os) (started : os.Started) (H : Type) (enc : TypeId × Value → H) :
    ReturnsInHanded {} Try.checked os 4 .any (Rows.fnClassEndLandsOnItsBracketSpec.pre6 enc Try.prog Try.f4 Rows.fnClassEndLandsOnItsBracketRow.domain false) (Rows.fnClassEndLandsOnItsBracketSpec.post enc Try.prog Try.f4 false true false false) := by
  refine returnsInHanded_of_change_shaped (C := Try.checked) own started (by kernel_rfl) Try.func4
    (ChangeSpec.witness6 (enc := enc) (C := Try.checked) false ⟨#[], #[.string ByteArray.empty, .int .i64 0], []⟩ 8 (by kernel_rfl) (by kernel_rfl) (by kernel_rfl) (by kernel_rfl)) ?_
  intro W base args ds gs before hval0 hW hcnd _ hsh _
  have hval : ∀ (j : Nat) t v, Try.f4.params[j]? = some t → args[j]? = some v → Value.okWide Try.prog W .any base t v := hval0
  have hW' := hW
  obtain ⟨p, q, hA0, hV, rfl, hfz, hnd⟩ := hW
  have hA : DataW.TrodAll enc Try.prog W 0 (fun _ => true) true Try.f4.params.toList args.toList ds p := hA0
  rw [Try.params4] at hA hval
  obtain ⟨v0, vs0, d0, ds0, p0, q0, hargs, rfl, rfl, h0, r0⟩ := trodAll_cons hA
  obtain ⟨v1, vs1, d1, ds1, p1, q1, rfl, rfl, rfl, h1, r1⟩ := trodAll_cons r0
  obtain ⟨rfl, rfl, rfl⟩ := trodAll_nil r1
  obtain rfl : args = #[v0, v1] := by cases args; simp_all
  obtain ⟨rfl, rfl⟩ := trodVars_none hV
  obtain ⟨a0, rfl, rfl, rfl, w0⟩ := open_string Try.underlying9 (hval 0 9 v0 rfl rfl) h0
  obtain ⟨a1, rfl, rfl, rfl, w1⟩ := open_int Try.underlying3 (hval 1 3 v1 rfl rfl) h1
  clear hA0 hval0
  simp only [List.append_nil] at hW'
  refine (walk a0 a1 w0 w1 W (Try.laysM143.s1_3 W hsh)).mono fun e W' ⟨he, hg⟩ => ?_
  subst he
  exact ⟨_, rfl, post_of_same (pa := []) (pv := []) hW' (fun _ _ _ => (trodAll_cons_mk (shut_bool Try.underlying4 _) trodAll_mk0)) (fun sp _ => (trodAll_cons_mk (shut_string Try.underlying9 w0) (trodAll_cons_mk (shut_int Try.underlying3 w1) trodAll_mk0))) (fun _ _ => rfl) rfl
    (hg.frame _) hg.2.1 (ok_one (by kernel_rfl) rfl (okWide_bool_mk Try.underlying4 _))⟩

theorem over : Rows.fnClassEndLandsOnItsBracketRow.holds Try.pinned (OpenSpec.ofChange Rows.fnClassEndLandsOnItsBracketSpec) :=
  OpenClaim.holds_of_wide 4 Try.f4 rfl rfl rfl rfl rfl rfl rfl ⟨rfl, rfl, rfl, rfl, rfl⟩ rfl rfl rfl rfl rfl (by kernel_rfl) Try.func4 (by kernel_rfl)
    (of_decide_eq_true (by kernel_rfl)) (by unfold Func.isWrapper; first | (rw [if_pos (by decide +kernel)]; kernel_rfl) | (rw [if_neg (by decide +kernel)]; exact ⟨rfl, rfl⟩))
    (fun os started H enc _ => lifted os started H enc)

/-- THE STATEMENT. -/
theorem proved : Rows.FnClassEndLandsOnItsBracketSaid :=
  over
#print axioms proved
end Go.Proofs.Qxb6603118a.fnClassEndLandsOnItsBracket
