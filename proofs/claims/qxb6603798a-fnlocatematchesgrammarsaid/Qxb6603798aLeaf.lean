/-
  THE WALKS of the leaves: jsClone (6), jsSpace (12), jsDigit (20), jsHex (26), jsString (19).
-/
import Derived.Test.Qxb6603798aRows
import Derived.Test.Qxb6603798aPlain
import Derived.WalkKit
import Derived.WalkSpells
import Derived.WalkLawsBesides
import Derived.Deep.OwnRows
import Derived.Deep.DeepCutAuto
namespace Go.Proofs.Qxb6603798a
open Go.RowKit
set_option linter.unusedVariables false
set_option linter.unusedSimpArgs false

/-- The text's bytes lie in block db. -/
def DocAt (w : World) (db n : Nat) (zs : List Int) : Prop := ∀ i, i < n → w.cell? ⟨db, i, none⟩ = some (.int .u8 (Js.ch zs i))
theorem DocAt.at {w : World} {db n : Nat} {zs : List Int} (h : DocAt w db n zs) {i : Nat} (hi : i < n) : w.cell? ⟨db, i, none⟩ = some (.int .u8 (Js.ch zs i)) := h i hi

theorem ret_bool {a b : Bool} (h : a = b) : Ending.returned (.bool a) = .returned (.bool b) := by rw [h]
theorem ret_int {k : IntKind} {a b : Int} (h : a = b) : Ending.returned (.int k a) = .returned (.int k b) := by rw [h]

def dg (c : Int) : Bool := decide (48 ≤ c ∧ c ≤ 57)
theorem digit_any (c : Int) (w : World) : Calls Try.prog 20 #[.int .u8 c] w fun e w' => e = .returned (.bool (dg c)) ∧ w' = w := by
  by_cases h1 : 48 ≤ c
  · by_cases h2 : c ≤ 57
    · have : dg c = true := by simp [dg, h1, h2]
      rw [this]
      clear this
      go_enter Try.func20, Try.ntmps20
      go_wp2
      go_ret
      exact ⟨by simp, rfl⟩
    · have : dg c = false := by simp [dg, h2]
      rw [this]
      clear this
      go_enter Try.func20, Try.ntmps20
      go_wp2
      go_ret
      exact ⟨by simp, rfl⟩
  · have : dg c = false := by simp [dg, h1]
    rw [this]
    clear this
    go_enter Try.func20, Try.ntmps20
    go_wp2
    go_ret
    exact ⟨by simp, rfl⟩
/-! ### jsClone -/
theorem info5 : (Try.prog.info? 5).map (fun i => (i.zero, i.size, i.bytes)) = some (some (.int .u8 0), 1, 1) := by kernel_rfl

/-- What the copy holds after k rounds. -/
def half (zs : List Int) (n k : Nat) : Array Value := Array.ofFn (n := n) fun i => .int .u8 (if i.val < k then zs.getD i.val 0 else 0)
theorem half_size (zs : List Int) (n k : Nat) : (half zs n k).size = n := by simp [half]
theorem half_get (zs : List Int) (n k i : Nat) (h : i < n) : (half zs n k)[i]? = some (.int .u8 (if i < k then zs.getD i 0 else 0)) := by
  simp [half, h]
theorem half_zero (zs : List Int) (n : Nat) : madeCells #[.int .u8 0] n = half zs n 0 := by
  apply Array.ext_getElem?
  intro i
  by_cases h : i < n
  · rw [half_get _ _ _ _ h]; simp [madeCells, h, Nat.mod_one]
  · rw [Array.getElem?_eq_none (by rw [size_madeCells]; omega), Array.getElem?_eq_none (by rw [half_size]; omega)]
theorem half_set (zs : List Int) (n k : Nat) (h : k < n) : (half zs n k).setIfInBounds k (.int .u8 (zs.getD k 0)) = half zs n (k + 1) := by
  apply Array.ext_getElem?
  intro i
  by_cases hi : i < n
  · rw [half_get _ _ _ _ hi, Array.getElem?_setIfInBounds, half_size, half_get _ _ _ _ hi]
    by_cases e : k = i
    · subst e; simp [h]
    · rw [if_neg e]
      by_cases e2 : i < k
      · rw [if_pos e2, if_pos (by omega)]
      · rw [if_neg e2, if_neg (by omega)]
  · rw [Array.getElem?_eq_none (by simp [half_size]; omega), Array.getElem?_eq_none (by rw [half_size]; omega)]

set_option maxHeartbeats 400000 in
theorem clone_nil (w : World) :
    Calls Try.prog 6 #[.slice none 0 0] w fun e w' => e = .returned (.slice none 0 0) ∧ w' = w := by
  have q := fun (w : World) => Lib.run_eql_slice_nil (P := Try.prog) w 22 5 none 0 0 0 0 Try.underlying22
  go_enter Try.func6, Try.ntmps6
  go_wp2
  go_ret
  exact ⟨rfl, rfl⟩

set_option maxHeartbeats 400000 in
theorem clone_row (b off n cap : Nat) (zs : List Int) (w : World) (hn : n ≤ 1048576) (hb : b < w.heap.size)
    (hc : ∀ i, i < n → w.cell? ⟨b, off + i, none⟩ = some (.int .u8 (zs.getD i 0))) :
    Calls Try.prog 6 #[.slice (some ⟨b, off, none⟩) n cap] w fun e w' => e = .returned (.slice (some ⟨w.heap.size, 0, none⟩) n n) ∧ w' = w.alloc (.cells (half zs n n) 5) := by
  have q := fun (w : World) => Lib.run_eql_slice_nil (P := Try.prog) w 22 5 (some ⟨b, off, none⟩) n cap 0 0 Try.underlying22
  have mk := fun (w : World) => run_make_row' (P := Try.prog) 22 5 (.int .u8 0) 1 Try.underlying22 info5 rfl .i64 .i64 n (by omega) (by omega) w
  simp only [half_zero zs n] at mk
  go_enter Try.func6, Try.ntmps6
  go_wp2
  go_loopw [4] (fun i wr => ∃ k : Nat, k ≤ n ∧ i = .int .i64 k ∧ wr = w.alloc (.cells (half zs n k) 5)) (fun i _ => n - (intOf i).toNat)
  case atStart => exact ⟨0, Nat.zero_le _, rfl, rfl⟩
  case round =>
    obtain ⟨k, hk, rfl, rfl⟩ := hrel
    by_cases hlt : k < n
    · have hg : (half zs n k)[k]? = some (.int .u8 0) := by rw [half_get _ _ _ _ hlt, if_neg (by omega)]
      have hck := hc k hlt
      have hs := half_set zs n k hlt
      obtain ⟨c, hcc⟩ : ∃ c, zs.getD k 0 = c := ⟨_, rfl⟩
      rw [hcc] at hck hs
      clear hc hcc
      have HS : Hid ((half zs n k).setIfInBounds k (.int .u8 c) = half zs n (k + 1)) := hs
      clear hs mk
      go_wp2
      go_roundw
      case rel => exact ⟨k + 1, by omega, by go_num, by rw [← HS.out]⟩
      case measure => simp [intOf]; omega
    · obtain rfl : k = n := by omega
      go_wp2
      go_ret
      exact ⟨rfl, rfl⟩
/-- An empty slice that is not nil, whatever its address. -/
theorem clone_empty (x : Addr) (cap : Nat) (w : World) :
    Calls Try.prog 6 #[.slice (some x) 0 cap] w fun e w' => e = .returned (.slice (some ⟨w.heap.size, 0, none⟩) 0 0) ∧ w' = w.alloc (.cells #[] 5) := by
  have q := fun (w : World) => Lib.run_eql_slice_nil (P := Try.prog) w 22 5 (some x) 0 cap 0 0 Try.underlying22
  have mk : ∀ w : World, (Instr.makeSlice 22 (.int .i64 0) (.int .i64 0)).run Try.prog w = .ok (.slice (some ⟨w.heap.size, 0, none⟩) 0 0) (w.alloc (.cells #[] 5)) :=
    fun w => by
      have h := run_make_row' (P := Try.prog) 22 5 (.int .u8 0) 1 Try.underlying22 info5 rfl .i64 .i64 0 (by omega) (by omega) w
      rw [show madeCells #[Value.int .u8 0] 0 = #[] by simp [madeCells]] at h
      exact h
  go_enter Try.func6, Try.ntmps6
  go_wp2
  refine wp_loop_rounds 1 ?_
  rw [rounds_succ]
  go_wp2
  go_ret
  exact ⟨rfl, rfl⟩


/-! ### jsSpace -/
set_option maxHeartbeats 1000000 in
theorem space_nat (w : World) (db n cap : Nat) (zs : List Int) (p : Nat) (hn : n ≤ 1048576) (hp : p ≤ n) (hd : DocAt w db n zs) :
    Calls Try.prog 12 #[.slice (some ⟨db, 0, none⟩) n cap, .int .i64 p] w fun e w' => ∃ q : Nat, e = .returned (.int .i64 q) ∧ Js.Sps zs n p q ∧ w' = w := by
  go_enter Try.func12, Try.ntmps12
  go_wp2
  go_loop [1] (fun i => ∃ k : Nat, i = .int .i64 k ∧ p ≤ k ∧ k ≤ n ∧ Hid (∀ j, p ≤ j → j < k → Js.sp (Js.ch zs j) = true)) (fun i => n - (intOf i).toNat)
  case atStart => exact ⟨p, rfl, Nat.le_refl _, hp, fun j h1 h2 => by omega⟩
  case round =>
    obtain ⟨k, rfl, hk1, hk2, H⟩ := hrel
    by_cases hlt : k < n
    · have hck := hd.at hlt
      obtain ⟨c, hcc⟩ : ∃ c, Js.ch zs k = c := ⟨_, rfl⟩
      rw [hcc] at hck
      have HC : Hid (Js.ch zs k = c) := hcc
      clear hcc
      have HX : Hid (Js.sp c = true → ∀ j, p ≤ j → j < k + 1 → Js.sp (Js.ch zs j) = true) := by
        intro hs j h1 h2
        by_cases e : j = k
        · subst e; rw [HC.out]; exact hs
        · exact H.out j h1 (by omega)
      by_cases c32 : c = 32
      · subst c32
        go_wp2
        go_round
        case rel => exact ⟨k + 1, by go_num, by omega, by omega, HX.out rfl⟩
        case measure => simp [intOf]; omega
      by_cases c9 : c = 9
      · subst c9
        go_wp2
        go_round
        case rel => exact ⟨k + 1, by go_num, by omega, by omega, HX.out rfl⟩
        case measure => simp [intOf]; omega
      by_cases c10 : c = 10
      · subst c10
        go_wp2
        go_round
        case rel => exact ⟨k + 1, by go_num, by omega, by omega, HX.out rfl⟩
        case measure => simp [intOf]; omega
      by_cases c13 : c = 13
      · subst c13
        go_wp2
        go_round
        case rel => exact ⟨k + 1, by go_num, by omega, by omega, HX.out rfl⟩
        case measure => simp [intOf]; omega
      have f32 : (c == 32) = false := beq_eq_false_iff_ne.2 c32
      have f9 : (c == 9) = false := beq_eq_false_iff_ne.2 c9
      have f10 : (c == 10) = false := beq_eq_false_iff_ne.2 c10
      have f13 : (c == 13) = false := beq_eq_false_iff_ne.2 c13
      clear c32 c9 c10 c13
      have HE : Hid (Js.Sps zs n p k) := ⟨hk1, hk2, H.out, fun _ => by rw [HC.out]; simp [Js.sp, f32, f9, f10, f13]⟩
      go_wp2
      go_ret
      exact ⟨k, rfl, HE.out, rfl⟩
    · have HE : Hid (Js.Sps zs n p k) := ⟨hk1, hk2, H.out, fun h => absurd h hlt⟩
      go_wp2
      go_ret
      exact ⟨k, rfl, HE.out, rfl⟩
theorem space_any (w : World) (db n cap : Nat) (zs : List Int) (a : Int) (p : Nat) (ha : a = (p : Int)) (hn : n ≤ 1048576) (hp : p ≤ n) (hd : DocAt w db n zs) :
    Calls Try.prog 12 #[.slice (some ⟨db, 0, none⟩) n cap, .int .i64 a] w fun e w' => ∃ q : Nat, e = .returned (.int .i64 q) ∧ Js.Sps zs n p q ∧ w' = w := by
  subst ha; exact space_nat w db n cap zs p hn hp hd

/-! ### jsHex -/
def hx (c : Int) : Bool := decide (48 ≤ c ∧ c ≤ 57) || decide (97 ≤ c ∧ c ≤ 102) || decide (65 ≤ c ∧ c ≤ 70)
theorem hx_ne {c : Int} (h : hx c = true) : c ≠ 34 ∧ c ≠ 92 := by
  simp [hx] at h; omega
set_option maxHeartbeats 1000000 in
theorem hex_any (c : Int) (w : World) : Calls Try.prog 26 #[.int .u8 c] w fun e w' => e = .returned (.bool (hx c)) ∧ w' = w := by
  obtain ⟨R, hR⟩ : ∃ R, hx c = R := ⟨_, rfl⟩
  rw [hR]
  have hcs : c < 48 ∨ (48 ≤ c ∧ c ≤ 57) ∨ (57 < c ∧ c < 65) ∨ (65 ≤ c ∧ c ≤ 70) ∨ (70 < c ∧ c < 97) ∨ (97 ≤ c ∧ c ≤ 102) ∨ 102 < c := by omega
  rcases hcs with h | ⟨h, g⟩ | ⟨h, g⟩ | ⟨h, g⟩ | ⟨h, g⟩ | ⟨h, g⟩ | h
  · have HR : Hid (R = false) := by rw [← hR]; simp [hx, Hid]; omega
    clear hR
    go_enter Try.func26, Try.ntmps26
    go_wp2
    go_ret
    exact ⟨ret_bool HR.out.symm, rfl⟩
  · have HR : Hid (R = true) := by rw [← hR]; simp [hx, Hid]; omega
    clear hR
    go_enter Try.func26, Try.ntmps26
    go_wp2
    go_ret
    exact ⟨ret_bool (by simp only [HR.out, Bool.or_eq_true, Bool.or_eq_false_iff, decide_eq_true_eq, decide_eq_false_iff_not]; first | done | rfl | omega), rfl⟩
  · have HR : Hid (R = false) := by rw [← hR]; simp [hx, Hid]; omega
    clear hR
    go_enter Try.func26, Try.ntmps26
    go_wp2
    go_ret
    exact ⟨ret_bool (by simp only [HR.out, Bool.or_eq_true, Bool.or_eq_false_iff, decide_eq_true_eq, decide_eq_false_iff_not]; first | done | rfl | omega), rfl⟩
  · have HR : Hid (R = true) := by rw [← hR]; simp [hx, Hid]; omega
    clear hR
    go_enter Try.func26, Try.ntmps26
    go_wp2
    go_ret
    exact ⟨ret_bool (by simp only [HR.out, Bool.or_eq_true, Bool.or_eq_false_iff, decide_eq_true_eq, decide_eq_false_iff_not]; first | done | rfl | omega), rfl⟩
  · have HR : Hid (R = false) := by rw [← hR]; simp [hx, Hid]; omega
    clear hR
    go_enter Try.func26, Try.ntmps26
    go_wp2
    go_ret
    exact ⟨ret_bool (by simp only [HR.out, Bool.or_eq_true, Bool.or_eq_false_iff, decide_eq_true_eq, decide_eq_false_iff_not]; first | done | rfl | omega), rfl⟩
  · have HR : Hid (R = true) := by rw [← hR]; simp [hx, Hid]; omega
    clear hR
    go_enter Try.func26, Try.ntmps26
    go_wp2
    go_ret
    exact ⟨ret_bool (by simp only [HR.out, Bool.or_eq_true, Bool.or_eq_false_iff, decide_eq_true_eq, decide_eq_false_iff_not]; first | done | rfl | omega), rfl⟩
  · have HR : Hid (R = false) := by rw [← hR]; simp [hx, Hid]; omega
    clear hR
    go_enter Try.func26, Try.ntmps26
    go_wp2
    go_ret
    exact ⟨ret_bool (by simp only [HR.out, Bool.or_eq_true, Bool.or_eq_false_iff, decide_eq_true_eq, decide_eq_false_iff_not]; first | done | rfl | omega), rfl⟩

/-! ### jsString -/
/-- What jsString answers: not ok; or the end of the string. -/
def StrRes (zs : List Int) (n p : Nat) (e : Ending) : Prop :=
  (∃ en : Nat, e = .returned (.tuple #[.int .i64 en, .bool true]) ∧ Js.Str zs n (p + 1) en) ∨ (∃ x : Int, e = .returned (.tuple #[.int .i64 x, .bool false]))
theorem StrRes.no (zs : List Int) (n p : Nat) (x : Int) : StrRes zs n p (.returned (.tuple #[.int .i64 x, .bool false])) := .inr ⟨x, rfl⟩
theorem StrRes.yes {zs : List Int} {n p : Nat} (x : Int) (en : Nat) (hx : x = en) (h : Js.Str zs n (p + 1) en) : StrRes zs n p (.returned (.tuple #[.int .i64 x, .bool true])) := .inl ⟨en, by rw [hx], h⟩

set_option maxRecDepth 100000 in
set_option maxHeartbeats 2000000 in
theorem string_nat (w : World) (db n cap : Nat) (zs : List Int) (p : Nat) (hn : n ≤ 1048576) (hp : p < n) (hd : DocAt w db n zs) :
    Calls Try.prog 19 #[.slice (some ⟨db, 0, none⟩) n cap, .int .i64 p] w fun e w' => StrRes zs n p e ∧ w' = w := by
  go_enter Try.func19, Try.ntmps19
  go_wp2
  go_loop [1] (fun i => ∃ q : Nat, i = .int .i64 q ∧ p + 1 ≤ q ∧ q ≤ n ∧ Hid (∀ e, Js.Str zs n q e → Js.Str zs n (p + 1) e)) (fun i => n - (intOf i).toNat)
  case atStart => exact ⟨p + 1, by go_num, Nat.le_refl _, hp, fun e h => h⟩
  case round =>
    obtain ⟨q, rfl, hq1, hq2, H⟩ := hrel
    by_cases hlt : q < n
    · have hck := hd.at hlt
      obtain ⟨c, hcc⟩ : ∃ c, Js.ch zs q = c := ⟨_, rfl⟩
      rw [hcc] at hck
      have HC : Hid (Js.ch zs q = c) := hcc
      clear hcc
      by_cases c34 : c = 34
      · subst c34
        have HX : Hid (Js.Str zs n (p + 1) (q + 1)) := H.out _ (Js.str_quote hlt HC.out)
        go_wp2
        go_ret2
        exact ⟨StrRes.yes _ (q + 1) (by omega) HX.out, rfl⟩
      by_cases cl : c < 32
      · have f34 : (c == 34) = false := beq_eq_false_iff_ne.2 c34
        clear c34
        go_wp2
        go_ret2
        exact ⟨StrRes.no _ _ _ _, rfl⟩
      by_cases c92 : c = 92
      · subst c92
        by_cases hl1 : q + 1 < n
        · have hck1 := hd.at hl1
          obtain ⟨d, hdd⟩ : ∃ d, Js.ch zs (q + 1) = d := ⟨_, rfl⟩
          rw [hdd] at hck1
          have HD : Hid (Js.ch zs (q + 1) = d) := hdd
          clear hdd
          by_cases d117 : d = 117
          · subst d117
            by_cases hl5 : n < q + 6
            · go_wp2
              go_ret2
              exact ⟨StrRes.no _ _ _ _, rfl⟩
            · go_wp2
              go_loop [8] (fun j => ∃ k : Nat, j = .int .i64 k ∧ 1 ≤ k ∧ k ≤ 5 ∧ Hid (∀ i, 1 ≤ i → i < k → Js.ch zs (q + 1 + i) ≠ 34 ∧ Js.ch zs (q + 1 + i) ≠ 92)) (fun j => 5 - (intOf j).toNat)
              case atStart => exact ⟨1, rfl, Nat.le_refl _, by omega, fun i h1 h2 => by omega⟩
              case round =>
                obtain ⟨k, rfl, hk1, hk2, HK⟩ := hrel
                by_cases hk4 : k ≤ 4
                · have hckk := hd.at (i := q + 1 + k) (by omega)
                  obtain ⟨f, hff⟩ : ∃ f, Js.ch zs (q + 1 + k) = f := ⟨_, rfl⟩
                  rw [hff] at hckk
                  have HF : Hid (Js.ch zs (q + 1 + k) = f) := hff
                  clear hff
                  cases hh : hx f
                  · go_wp2_with (go_at_call 26; refine (hex_any _ _).mono ?_; rintro e w' ⟨rfl, rfl⟩)
                    go_ret2
                    exact ⟨StrRes.no _ _ _ _, rfl⟩
                  · have HX : Hid (∀ i, 1 ≤ i → i < k + 1 → Js.ch zs (q + 1 + i) ≠ 34 ∧ Js.ch zs (q + 1 + i) ≠ 92) := by
                      intro i h1 h2
                      by_cases e : i = k
                      · subst e; rw [HF.out]; exact hx_ne hh
                      · exact HK.out i h1 (by omega)
                    go_wp2_with (go_at_call 26; refine (hex_any _ _).mono ?_; rintro e w' ⟨rfl, rfl⟩)
                    go_round
                    case rel => exact ⟨k + 1, by go_num, by omega, by omega, HX⟩
                    case measure => simp [intOf]; omega
                · have HX : Hid (∀ e, Js.Str zs n (q + 6) e → Js.Str zs n (p + 1) e) := by
                    intro e he
                    have g := HK.out
                    refine H.out e (Js.str_bs hlt HC.out ?_)
                    refine Js.str_plain (by omega) (g 1 (by omega) (by omega)).1 (g 1 (by omega) (by omega)).2 ?_
                    refine Js.str_plain (by omega) (g 2 (by omega) (by omega)).1 (g 2 (by omega) (by omega)).2 ?_
                    refine Js.str_plain (by omega) (g 3 (by omega) (by omega)).1 (g 3 (by omega) (by omega)).2 ?_
                    refine Js.str_plain (by omega) (g 4 (by omega) (by omega)).1 (g 4 (by omega) (by omega)).2 ?_
                    exact he
                  go_wp2
                  go_round
                  case rel => exact ⟨q + 6, by go_num, by omega, by omega, HX⟩
                  case measure => simp [intOf]; omega
          · have f117 : (d == 117) = false := beq_eq_false_iff_ne.2 d117
            have HX : Hid (∀ e, Js.Str zs n (q + 2) e → Js.Str zs n (p + 1) e) := fun e he => H.out e (Js.str_bs hlt HC.out he)
            clear d117
            go_wp2
            all_goals first
              | (go_ret2; exact ⟨StrRes.no _ _ _ _, rfl⟩)
              | (refine ⟨⟨q + 2, by go_num, by omega, by omega, HX⟩, ?_⟩; simp [intOf]; omega)
        · go_wp2
          go_ret2
          exact ⟨StrRes.no _ _ _ _, rfl⟩
      · have f34 : (c == 34) = false := beq_eq_false_iff_ne.2 c34
        have f92 : (c == 92) = false := beq_eq_false_iff_ne.2 c92
        have HX : Hid (∀ e, Js.Str zs n (q + 1) e → Js.Str zs n (p + 1) e) := fun e he => H.out e (Js.str_plain hlt (by rw [HC.out]; exact c34) (by rw [HC.out]; exact c92) he)
        clear c34 c92
        go_wp2
        go_round
        case rel => exact ⟨q + 1, by go_num, by omega, by omega, HX⟩
        case measure => simp [intOf]; omega
    · go_wp2
      go_ret2
      exact ⟨StrRes.no _ _ _ _, rfl⟩
theorem string_any (w : World) (db n cap : Nat) (zs : List Int) (a : Int) (p : Nat) (ha : a = (p : Int)) (hn : n ≤ 1048576) (hp : p < n) (hd : DocAt w db n zs) :
    Calls Try.prog 19 #[.slice (some ⟨db, 0, none⟩) n cap, .int .i64 a] w fun e w' => StrRes zs n p e ∧ w' = w := by
  subst ha; exact string_nat w db n cap zs p hn hp hd
end Go.Proofs.Qxb6603798a
