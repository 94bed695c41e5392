/-
  THE WALK of jsParse (7).
-/
import Derived.Test.Qxb6603798aContO
namespace Go.Proofs.Qxb6603798a
open Go.RowKit
set_option linter.unusedVariables false
set_option linter.unusedSimpArgs false

/-- Where the blanks end. -/
def spF (zs : List Int) (n : Nat) : Nat → Nat → Nat
  | 0, p => p
  | f + 1, p => if p < n ∧ Js.sp (Js.ch zs p) = true then spF zs n f (p + 1) else p
theorem spF_sps (zs : List Int) (n : Nat) : ∀ f p, n - p ≤ f → p ≤ n → Js.Sps zs n p (spF zs n f p)
  | 0, p, h1, h2 => ⟨Nat.le_refl _, h2, fun i a b => by simp only [spF] at b; omega, fun h => by simp only [spF] at h; omega⟩
  | f + 1, p, h1, h2 => by
    unfold spF
    by_cases h : p < n ∧ Js.sp (Js.ch zs p) = true
    · rw [if_pos h]
      obtain ⟨a, b, c, d⟩ := spF_sps zs n f (p + 1) (by omega) (by omega)
      refine ⟨by omega, b, fun i h1 h2 => ?_, d⟩
      by_cases e : i = p
      · subst e; exact h.2
      · exact c i (by omega) h2
    · rw [if_neg h]
      refine ⟨Nat.le_refl _, h2, fun i a b => by omega, fun hp => ?_⟩
      cases hs : Js.sp (Js.ch zs p)
      · rfl
      · exact absurd ⟨hp, hs⟩ h
theorem sps_unique {zs : List Int} {n p q q' : Nat} (h : Js.Sps zs n p q) (h' : Js.Sps zs n p q') : q = q' := by
  obtain ⟨a1, a2, a3, a4⟩ := h
  obtain ⟨b1, b2, b3, b4⟩ := h'
  rcases Nat.lt_trichotomy q q' with hlt | he | hgt
  · have := b3 q a1 hlt
    rw [a4 (by omega)] at this; cases this
  · exact he
  · have := a3 q' b1 hgt
    rw [b4 (by omega)] at this; cases this
theorem space_fn (w : World) (db n cap : Nat) (zs : List Int) (a : Int) (p : Nat) (ha : a = (p : Int)) (hn : n ≤ 1048576) (hp : p ≤ n) (hd : DocAt w db n zs) :
    Calls Try.prog 12 #[.slice (some ⟨db, 0, none⟩) n cap, .int .i64 a] w fun e w' => e = .returned (.int .i64 (spF zs n n p)) ∧ w' = w := by
  refine (space_any w db n cap zs a p ha hn hp hd).mono ?_
  rintro e w' ⟨q, rfl, hs, rfl⟩
  rw [sps_unique hs (spF_sps zs n n p (by omega) hp)]
  exact ⟨rfl, rfl⟩

def ParseRes (sb B db n cap : Nat) (zs : List Int) (off : Int) (e : Ending) (w' : World) : Prop :=
  (e = .returned (.bool true) ∧ ∃ r, Inv w' sb B db n cap zs off ⟨[], r⟩ ∧ Js.SegE zs n off 0 n ([], false) ([], false) r) ∨ e = .returned (.bool false)

set_option maxRecDepth 100000 in
set_option maxHeartbeats 1000000 in
theorem parse_any (w : World) (sb B db n cap : Nat) (zs : List Int) (off : Int) (hn : n ≤ 1048576) (hinv : Inv w sb B db n cap zs off ⟨[], none⟩) :
    Calls Try.prog 7 #[.pointer (some ⟨sb, 0, none⟩)] w fun e w' => ParseRes sb B db n cap zs off e w' ∧ Mov B sb w w' := by
  have h0 := hinv.f0
  go_enter Try.func7, Try.ntmps7
  go_wp2_with fail
  refine (space_any w db n cap zs _ 0 rfl hn (Nat.zero_le _) hinv.doc).mono ?_
  rintro e w0 ⟨p, rfl, hsp, rfl⟩
  have HSP : Hid (Js.Sps zs n 0 p) := hsp
  clear hsp
  have hp : p ≤ n := HSP.out.2.1
  go_wp2_with fail
  refine ((value_all sb B db n cap zs off hn n p (by omega) hp).calls hinv (Nat.zero_le _) (fun m hm => nomatch hm)).mono ?_
  rintro e w1 hres
  rcases hres with ⟨q, ⟨stk, rc⟩, rfl, hi1, hm1, hq1, hq2, hst, _, r, hrc, hseg⟩ | ⟨x, rfl, hm1⟩
  rotate_left
  · go_wp2
    go_ret
    exact ⟨.inr rfl, hm1⟩
  obtain rfl : stk = [] := hst
  obtain rfl : rc = r := hrc
  have HSG : Hid (Js.Dl zs n q → Js.SegE zs n off p q ([], false) ([], false) rc) := hseg
  clear hseg h0
  have g0 := hi1.f0
  have HS2 : Hid (Js.Sps zs n q (spF zs n n q)) := spF_sps zs n n q (by omega) hq2
  have hdoc := hi1.doc
  go_wp2_with fail
  go_quiet ((go_at_call 12; exact Calls.quiet_of_same (space_fn _ db n cap zs _ q rfl hn hq2 hdoc)))
  generalize spF zs n n q = q3 at *
  cases he : ((q3 : Int) == (n : Int))
  · go_wp2
    go_ret
    exact ⟨.inr rfl, hm1.trans (Mov.drewN _ _ _ _)⟩
  · have HE : Hid (q3 = n) := by have := beq_iff_eq.1 he; show q3 = n; omega
    go_wp2
    go_ret
    refine ⟨.inl ⟨rfl, rc, hi1.drewN _, ?_⟩, hm1.trans (Mov.drewN _ _ _ _)⟩
    have h3 := HE.out
    subst h3
    have hdl : Js.Dl zs q3 q := by
      by_cases hqn : q < q3
      · exact .inr ⟨hqn, .inl (HS2.out.2.2.1 q (Nat.le_refl _) hqn)⟩
      · exact .inl (by omega)
    have hs := ((Js.SegE.blanks (off := off) HSP.out ([], false)).trans (HSG.out hdl)).trans (Js.SegE.blanks HS2.out _)
    rw [Option.none_or, Option.or_none] at hs
    exact hs
end Go.Proofs.Qxb6603798a
