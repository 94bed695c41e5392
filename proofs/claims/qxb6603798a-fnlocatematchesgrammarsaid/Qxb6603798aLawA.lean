/-
  ROUND the law's own walk: plain, and leaves.
-/
import Derived.Test.Qxb6603798aParse
import Derived.Test.Qxb6603798aZz
import Derived.Test.Qxb6603798aSame
namespace Go.Proofs.Qxb6603798a
open Go.RowKit
set_option linter.unusedVariables false
set_option linter.unusedSimpArgs false

/-! ### plain: the path is no longer than the text -/
theorem step_len {zs : List Int} {n : Nat} {s s' : List Js.Lv × Bool} {t : Js.Tok} (hg : Js.G zs n t) (h : s.1.length ≤ t.i) (hs : Js.step zs s t = some s') : s'.1.length ≤ t.e := by
  obtain ⟨g1, g2, _⟩ := hg
  obtain ⟨s1, b⟩ := s
  dsimp only at h
  unfold Js.step at hs
  by_cases k0 : t.k = 0
  · rw [if_pos k0] at hs
    cases b
    · have := Option.some.inj hs
      subst this; simp; omega
    · cases hs
  rw [if_neg k0] at hs
  by_cases k1 : t.k = 1
  · rw [if_pos k1] at hs
    cases s1 with
    | nil => cases hs
    | cons l r =>
      have := Option.some.inj hs
      subst this; simp at h ⊢; omega
  rw [if_neg k1] at hs
  by_cases k2 : t.k = 2
  · rw [if_pos k2] at hs
    cases s1 with
    | nil => cases hs
    | cons l r =>
      have := Option.some.inj hs
      subst this; simp at h ⊢; omega
  rw [if_neg k2] at hs
  by_cases k3 : t.k = 3
  · rw [if_pos k3] at hs
    have := Option.some.inj hs
    subst this; simp; omega
  rw [if_neg k3] at hs
  by_cases k4 : t.k = 4
  · rw [if_pos k4] at hs
    cases s1 with
    | nil => cases hs
    | cons l r =>
      cases b
      · cases hs
      · have := Option.some.inj hs
        subst this; simp at h ⊢; omega
  rw [if_neg k4] at hs
  cases b
  · have := Option.some.inj hs
    subst this; simp; omega
  · cases hs
theorem rep_len {zs : List Int} {n : Nat} {off : Int} : ∀ (T : List Js.Tok) (s : List Js.Lv × Bool) (p : Nat) (m : Js.Ms), Js.Ch p n T → (∀ t ∈ T, Js.G zs n t) → s.1.length ≤ p → Js.rep zs off s T = some m → m.path.length ≤ n
  | [], s, p, m, _, _, _, h => by cases h
  | t :: T, s, p, m, hch, hg, hl, h => by
    unfold Js.rep at h
    have hgt := hg t (List.mem_cons_self ..)
    obtain ⟨rfl, hch⟩ := hch
    cases hs : Js.step zs s t with
    | none => rw [hs] at h; cases h
    | some s' =>
      rw [hs] at h
      have hl' := step_len hgt hl hs
      have g1 := hgt.1
      have g2 := hgt.2.1
      cases hr : Js.repT off s s' t with
      | none => simp only [hr, Option.none_or] at h; exact rep_len (off := off) T s' t.e m hch (fun u hu => hg u (List.mem_cons_of_mem _ hu)) hl' h
      | some m' =>
        simp only [hr, Option.some_or] at h
        cases h
        unfold Js.repT at hr
        split at hr
        · split at hr
          · cases hr; dsimp only; omega
          · cases hr
        · split at hr
          · split at hr
            · cases hr; dsimp only; omega
            · cases hr
          · split at hr
            · split at hr
              · cases hr; dsimp only; omega
              · cases hr
            · cases hr
theorem rest_of {zs : List Int} {n : Nat} {off : Int} {r : Option Js.Ms} (h : Js.SegE zs n off 0 n ([], false) ([], false) r) : ∃ T, Rest zs n off r ([], false) 0 T ∧ ∀ m, r = some m → m.path.length ≤ n := by
  obtain ⟨T, a, b, c, d, e⟩ := h
  exact ⟨T, ⟨a, b, ⟨_, d⟩, e, (fun l hl => nomatch hl), Nat.le_refl _, Nat.zero_le _⟩, fun m hm => rep_len T ([], false) 0 m a (fun t ht => (b t ht).1) (Nat.le_refl _) (e.trans hm)⟩

/-! ### the leaves -/
theorem bytes_any (a : Option Addr) (n c : Nat) (off : Int) (w : World) (hn : n ≤ 1048576) :
    Calls Try.prog 9 #[.slice a n c, .int .i64 off] w fun e w' => e = .returned (.bool true) ∧ w' = w := by
  go_enter Try.func9, Try.ntmps9
  go_wp2
  go_ret
  exact ⟨rfl, rfl⟩
theorem bytes_no (a : Option Addr) (n c : Nat) (off : Int) (w : World) (hn : ¬ n ≤ 1048576) (hm : n ≤ 9223372036854775807) :
    Calls Try.prog 9 #[.slice a n c, .int .i64 off] w fun e w' => e = .returned (.bool false) ∧ w' = w := by
  go_enter Try.func9, Try.ntmps9
  go_wp2
  go_ret
  exact ⟨rfl, rfl⟩
theorem space_nil (w : World) : Calls Try.prog 12 #[.slice none 0 0, .int .i64 0] w fun e w' => e = .returned (.int .i64 0) ∧ w' = w := by
  go_enter Try.func12, Try.ntmps12
  go_wp2
  refine wp_loop_rounds 1 ?_
  rw [rounds_succ]
  go_wp2
  go_ret
  exact ⟨rfl, rfl⟩
theorem value_nil (w : World) (sb : Nat) (hc : w.cell? ⟨sb, 0, none⟩ = some (.slice none 0 0)) :
    Calls Try.prog 13 #[.pointer (some ⟨sb, 0, none⟩), .int .i64 0] w fun e w' => e = .returned (.tuple #[.int .i64 0, .bool false]) ∧ w' = w := by
  go_enter Try.func13, Try.ntmps13
  go_wp2
  go_ret2
  exact ⟨rfl, rfl⟩
theorem parse_nil (w : World) (sb : Nat) (hc : w.cell? ⟨sb, 0, none⟩ = some (.slice none 0 0)) :
    Calls Try.prog 7 #[.pointer (some ⟨sb, 0, none⟩)] w fun e w' => e = .returned (.bool false) ∧ w' = w := by
  go_enter Try.func7, Try.ntmps7
  go_wp2_with (first | (go_at_call 12; refine (space_nil _).mono ?_; rintro e w' ⟨rfl, rfl⟩) | (go_at_call 13; refine (value_nil _ sb hc).mono ?_; rintro e w' ⟨rfl, rfl⟩))
  go_ret
  exact ⟨rfl, rfl⟩

end Go.Proofs.Qxb6603798a
