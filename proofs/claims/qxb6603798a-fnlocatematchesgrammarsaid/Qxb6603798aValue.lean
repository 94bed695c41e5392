/-
  THE CONTRACTS of jsValue (13) and jsContainer (17), and THE WALK of jsValue over jsContainer's.
-/
import Derived.Test.Qxb6603798aState
import Derived.Test.Qxb6603798aNum
namespace Go.Proofs.Qxb6603798a
open Go.RowKit
set_option linter.unusedVariables false
set_option linter.unusedSimpArgs false

section
variable (sb B db n cap : Nat) (zs : List Int) (off : Int)
/-- What jsValue answers at p. -/
def ValRes (p : Nat) (S : St) (w : World) (e : Ending) (w' : World) : Prop :=
  (∃ q : Nat, ∃ S' : St, e = .returned (.tuple #[.int .i64 q, .bool true]) ∧ Inv w' sb B db n cap zs off S' ∧ Mov B sb w w' ∧ p < q ∧ q ≤ n ∧ S'.stk = S.stk ∧ (∀ m, S'.rc = some m → m.start < (q : Int)) ∧
    ∃ r, S'.rc = S.rc.or r ∧ (Js.Dl zs n q → Js.SegE zs n off p q (S.stk, false) (S.stk, false) r)) ∨
  (∃ x : Int, e = .returned (.tuple #[.int .i64 x, .bool false]) ∧ Mov B sb w w')
/-- What jsContainer answers at p: the segment between the brackets. -/
def ContRes (p : Nat) (S : St) (w : World) (e : Ending) (w' : World) : Prop :=
  (∃ u : Nat, ∃ S' : St, e = .returned (.tuple #[.int .i64 ((u : Int) + 1), .bool true]) ∧ Inv w' sb B db n cap zs off S' ∧ Mov B sb w w' ∧ p < u ∧ u < n ∧ (Js.ch zs u = 125 ∨ Js.ch zs u = 93) ∧ S'.stk = S.stk ∧
    ∃ r l b, S'.rc = S.rc.or r ∧ Js.SegE zs n off (p + 1) u (⟨Js.ch zs p == 123, p, -1, -1, 0⟩ :: S.stk, Js.ch zs p == 123) (l :: S.stk, b) r) ∨
  (∃ x : Int, e = .returned (.tuple #[.int .i64 x, .bool false]) ∧ Mov B sb w w')
def ValOK (p : Nat) : Prop := ∀ (S : St) (w : World), Inv w sb B db n cap zs off S → S.stk.length ≤ p → (∀ m, S.rc = some m → m.start < (p : Int)) →
  Calls Try.prog 13 #[.pointer (some ⟨sb, 0, none⟩), .int .i64 p] w (ValRes sb B db n cap zs off p S w)
def ContOK (p : Nat) : Prop := ∀ (S : St) (w : World), Inv w sb B db n cap zs off S → S.stk.length ≤ p → p < n → (∀ m, S.rc = some m → m.start ≤ (p : Int)) → (Js.ch zs p = 123 ∨ Js.ch zs p = 91) →
  Calls Try.prog 17 #[.pointer (some ⟨sb, 0, none⟩), .int .i64 p] w (ContRes sb B db n cap zs off p S w)
theorem ValOK.calls {sb B db n cap : Nat} {zs : List Int} {off : Int} {p : Nat} (h : ValOK sb B db n cap zs off p) {S : St} {w : World} (hi : Inv w sb B db n cap zs off S) (hl : S.stk.length ≤ p) (hr : ∀ m, S.rc = some m → m.start < (p : Int)) :
  Calls Try.prog 13 #[.pointer (some ⟨sb, 0, none⟩), .int .i64 p] w (ValRes sb B db n cap zs off p S w) := h S w hi hl hr
theorem ContOK.calls {sb B db n cap : Nat} {zs : List Int} {off : Int} {p : Nat} (h : ContOK sb B db n cap zs off p) {S : St} {w : World} (hi : Inv w sb B db n cap zs off S) (hl : S.stk.length ≤ p) (hp : p < n) (hr : ∀ m, S.rc = some m → m.start ≤ (p : Int)) (hc : Js.ch zs p = 123 ∨ Js.ch zs p = 91) :
  Calls Try.prog 17 #[.pointer (some ⟨sb, 0, none⟩), .int .i64 p] w (ContRes sb B db n cap zs off p S w) := h S w hi hl hp hr hc
end

section
variable {w : World} {sb B db n cap : Nat} {zs : List Int} {off : Int} {S : St}
/-- The fields, as the walk reads them. -/
theorem Inv.f0 (h : Inv w sb B db n cap zs off S) : w.cell? ⟨sb, 0, none⟩ = some (.slice (some ⟨db, 0, none⟩) n cap) := by
  obtain ⟨_, _, _, _, _, _, _, _, _, _, hr⟩ := h; exact hr.st.cell 0 rfl
theorem Inv.f1 (h : Inv w sb B db n cap zs off S) : w.cell? ⟨sb, 1, none⟩ = some (.int .i64 (-1)) := by
  obtain ⟨_, _, _, _, _, _, _, _, _, _, hr⟩ := h; exact hr.st.cell 1 rfl
theorem Inv.f3 (h : Inv w sb B db n cap zs off S) : w.cell? ⟨sb, 3, none⟩ = some (.bool true) := by
  obtain ⟨_, _, _, _, _, _, _, _, _, _, hr⟩ := h; exact hr.st.cell 3 rfl
theorem Inv.f4 (h : Inv w sb B db n cap zs off S) : w.cell? ⟨sb, 4, none⟩ = some (.int .i64 off) := by
  obtain ⟨_, _, _, _, _, _, _, _, _, _, hr⟩ := h; exact hr.st.cell 4 rfl
theorem Inv.f10 (h : Inv w sb B db n cap zs off S) : w.cell? ⟨sb, 10, none⟩ = some (.bool (rFound S.rc)) := by
  obtain ⟨_, _, _, _, _, _, _, _, _, _, hr⟩ := h; exact hr.st.cell 10 rfl
theorem Inv.f11 (h : Inv w sb B db n cap zs off S) : w.cell? ⟨sb, 11, none⟩ = some (.int .i64 (rS S.rc)) := by
  obtain ⟨_, _, _, _, _, _, _, _, _, _, hr⟩ := h; exact hr.st.cell 11 rfl
theorem Inv.f12 (h : Inv w sb B db n cap zs off S) : w.cell? ⟨sb, 12, none⟩ = some (.int .i64 (rE S.rc)) := by
  obtain ⟨_, _, _, _, _, _, _, _, _, _, hr⟩ := h; exact hr.st.cell 12 rfl
theorem Inv.f13 (h : Inv w sb B db n cap zs off S) : w.cell? ⟨sb, 13, none⟩ = some (.bool (rN S.rc)) := by
  obtain ⟨_, _, _, _, _, _, _, _, _, _, hr⟩ := h; exact hr.st.cell 13 rfl
theorem Inv.free (h : Inv w sb B db n cap zs off S) : ∀ j, w.frozen? ⟨sb, j, none⟩ = false := by
  obtain ⟨_, _, _, _, _, _, _, _, _, _, hr⟩ := h; exact hr.st.free
theorem Inv.doc (h : Inv w sb B db n cap zs off S) : DocAt w db n zs := by
  obtain ⟨_, _, _, _, _, _, _, _, _, _, hr⟩ := h; exact hr.doc
theorem Inv.drewN (h : Inv w sb B db n cap zs off S) (m : Nat) : Inv (w.drewN m) sb B db n cap zs off S := by
  obtain ⟨a1, a2, a3, a4, a5, a6, a7, a8, a9, a10, hr⟩ := h; exact ⟨a1, a2, a3, a4, a5, a6, a7, a8, a9, a10, hr.drewN m⟩
theorem Inv.setEnd {stk : List Js.Lv} {m : Js.Ms} (h : Inv w sb B db n cap zs off ⟨stk, some m⟩) (q : Int) : Inv (w.setCell ⟨sb, 12, none⟩ (.int .i64 q)) sb B db n cap zs off ⟨stk, some ⟨m.start, q, m.name, m.path⟩⟩ := by
  obtain ⟨a1, a2, a3, a4, a5, a6, a7, a8, a9, a10, hr⟩ := h; exact ⟨a1, a2, a3, a4, a5, a6, a7, a8, a9, a10, hr.field 12 _⟩
end

/-- What is reported in a segment starts inside it. -/
theorem seg_start {zs : List Int} {n : Nat} {off : Int} : ∀ (T : List Js.Tok) (p q : Nat) (s : List Js.Lv × Bool) (m : Js.Ms), Js.Ch p q T → (∀ t ∈ T, Js.G zs n t) → Js.rep zs off s T = some m → ∃ i : Nat, m.start = i ∧ p ≤ i ∧ i < q
  | [], p, q, s, m, _, _, h => by simp [Js.rep] at h
  | t :: T, p, q, s, m, hc, hg, h => by
    obtain ⟨rfl, hc2⟩ := hc
    have gt := hg t (by simp)
    have hle : ∀ (T : List Js.Tok) (p q : Nat), Js.Ch p q T → (∀ t ∈ T, Js.G zs n t) → p ≤ q := by
      intro T
      induction T with
      | nil => intro p q h _; cases h; exact Nat.le_refl _
      | cons u U ih =>
        intro p q h hg
        obtain ⟨rfl, h2⟩ := h
        have := ih _ _ h2 (fun t ht => hg t (by simp [ht]))
        have := (hg u (by simp)).1
        omega
    have hq := hle T _ _ hc2 (fun t ht => hg t (by simp [ht]))
    have hlt := gt.1
    simp only [Js.rep] at h
    cases hs : Js.step zs s t with
    | none => rw [hs] at h; cases h
    | some s' =>
      rw [hs] at h
      simp only at h
      cases hr : Js.repT off s s' t with
      | none =>
        rw [hr, Option.none_or] at h
        obtain ⟨i, a, b, c⟩ := seg_start T _ _ s' m hc2 (fun t ht => hg t (by simp [ht])) h
        exact ⟨i, a, by omega, c⟩
      | some m' =>
        rw [hr, Option.some_or] at h
        cases h
        refine ⟨t.i, ?_, Nat.le_refl _, by omega⟩
        unfold Js.repT at hr
        split at hr
        · split at hr
          · cases hr; rfl
          · cases hr
        · split at hr
          · split at hr
            · cases hr; rfl
            · cases hr
          · split at hr
            · split at hr
              · cases hr; rfl
              · cases hr
            · cases hr
theorem segE_start {zs : List Int} {n : Nat} {off : Int} {p q : Nat} {s s' : List Js.Lv × Bool} {r : Option Js.Ms} (h : Js.SegE zs n off p q s s' r) {m : Js.Ms} (hm : r = some m) : ∃ i : Nat, m.start = i ∧ p ≤ i ∧ i < q := by
  obtain ⟨T, a, b, _, _, e⟩ := h
  exact seg_start T p q s m a (fun t ht => (b t ht).1) (e.trans hm)

/-- A string, a number or a literal from p to en. -/
def ScOK (zs : List Int) (n : Nat) (off : Int) (p en : Nat) : Prop := p < en ∧ en ≤ n ∧
  (Js.Dl zs n en → ∀ stk, Js.SegE zs n off p en (stk, false) (stk, false) (if off = (en : Int) ∨ off = (en : Int) + 1 then some ⟨p, en, false, stk⟩ else none))
theorem ScOK.str {zs : List Int} {n : Nat} {off : Int} {p en : Nat} (hc : Js.ch zs p = 34) (h : Js.Str zs n (p + 1) en) : ScOK zs n off p en :=
  ⟨by have := h.bound; omega, h.bound.2, fun _ stk => Js.SegE.str hc h stk⟩
theorem ScOK.num {zs : List Int} {n : Nat} {off : Int} {p en : Nat} (h1 : p < en) (h2 : en ≤ n) (h : PlR zs p en) : ScOK zs n off p en :=
  ⟨h1, h2, fun hd stk => Js.SegE.scalar h1 h2 h hd stk⟩
def ScRes (zs : List Int) (n : Nat) (off : Int) (p : Nat) (a b : Value) : Prop :=
  (∃ en : Nat, a = .int .i64 en ∧ b = .bool true ∧ ScOK zs n off p en) ∨ (∃ x : Int, a = .int .i64 x ∧ b = .bool false)

set_option maxRecDepth 100000 in
set_option maxHeartbeats 2000000 in
theorem value_scalar (w : World) (sb B db n cap : Nat) (zs : List Int) (off : Int) (S : St) (p : Nat) (hn : n ≤ 1048576) (hp : p < n) (hinv : Inv w sb B db n cap zs off S) (hl : S.stk.length ≤ p) (hr : ∀ m, S.rc = some m → m.start < (p : Int))
    (c : Int) (HC : Hid (Js.ch zs p = c)) (f123 : (c == 123) = false) (f91 : (c == 91) = false) :
    Calls Try.prog 13 #[.pointer (some ⟨sb, 0, none⟩), .int .i64 p] w (ValRes sb B db n cap zs off p S w) := by
  have h0 := hinv.f0
  have hck := hinv.doc.at hp
  rw [HC.out] at hck
  have hdoc := hinv.doc
  have HR : Hid (∀ m, S.rc = some m → m.start < (p : Int)) := hr
  clear hr
  go_enter Try.func13, Try.ntmps13
  go_upto_if 99 with fail
  go_cut [10, 11] (fun a b w' => ScRes zs n off p a b ∧ ∃ m, w' = w.drewN m)
  case first =>
    by_cases c34 : c = 34
    · subst c34
      go_wp2_with fail
      refine (string_any w db n cap zs _ p rfl hn hp hdoc).mono ?_
      rintro e w1 ⟨hres, rfl⟩
      rcases hres with ⟨en, rfl, hs⟩ | ⟨x, rfl⟩
      · have HS : Hid (ScOK zs n off p en) := ScOK.str HC.out hs
        clear hs
        go_wp2
        go_meet
        case rel => exact ⟨.inl ⟨en, rfl, rfl, HS⟩, 0, rfl⟩
      · go_wp2
        go_meet
        case rel => exact ⟨.inr ⟨x, rfl, rfl⟩, 0, rfl⟩
    have f34 : (c == 34) = false := beq_eq_false_iff_ne.2 c34
    clear c34
    have hnum : (c = 45 ∨ dg c = true) ∨ ((c == 45) = false ∧ dg c = false) := by
      by_cases h : c = 45
      · exact .inl (.inl h)
      · cases h2 : dg c
        · exact .inr ⟨beq_eq_false_iff_ne.2 h, rfl⟩
        · exact .inl (.inr rfl)
    rcases hnum with h45 | ⟨f45, fdg⟩
    · cases e45 : (c == 45)
      · have fdg : dg c = true := by
          rcases h45 with rfl | h
          · simp at e45
          · exact h
        clear h45
        go_wp2_with (go_at_call 20; refine (digit_any _ _).mono ?_; rintro e w' ⟨rfl, rfl⟩)
        refine (number_any _ db n cap zs _ p rfl hn hp hdoc).mono ?_
        rintro e w1 ⟨hres, rfl⟩
        rcases hres with ⟨en, rfl, h1, h2, hs⟩ | ⟨x, rfl⟩
        · have HS : Hid (ScOK zs n off p en) := ScOK.num h1 h2 hs
          clear hs
          go_wp2
          go_meet
          case rel => exact ⟨.inl ⟨en, rfl, rfl, HS⟩, 0, rfl⟩
        · go_wp2
          go_meet
          case rel => exact ⟨.inr ⟨x, rfl, rfl⟩, 0, rfl⟩
      · clear h45
        go_wp2_with (go_at_call 20; refine (digit_any _ _).mono ?_; rintro e w' ⟨rfl, rfl⟩)
        refine (number_any _ db n cap zs _ p rfl hn hp hdoc).mono ?_
        rintro e w1 ⟨hres, rfl⟩
        rcases hres with ⟨en, rfl, h1, h2, hs⟩ | ⟨x, rfl⟩
        · have HS : Hid (ScOK zs n off p en) := ScOK.num h1 h2 hs
          clear hs
          go_wp2
          go_meet
          case rel => exact ⟨.inl ⟨en, rfl, rfl, HS⟩, 0, rfl⟩
        · go_wp2
          go_meet
          case rel => exact ⟨.inr ⟨x, rfl, rfl⟩, 0, rfl⟩
    · go_wp2_with (go_at_call 20; refine (digit_any _ _).mono ?_; rintro e w' ⟨rfl, rfl⟩)
      refine (literal_any _ db n cap zs _ p rfl hn hp hdoc).mono ?_
      rintro e w1 ⟨hres, m, rfl⟩
      rcases hres with ⟨en, rfl, h1, h2, hs⟩ | ⟨x, rfl⟩
      · have HS : Hid (ScOK zs n off p en) := ScOK.num h1 h2 hs
        clear hs
        go_wp2
        go_meet
        case rel => exact ⟨.inl ⟨en, rfl, rfl, HS⟩, m, rfl⟩
      · go_wp2
        go_meet
        case rel => exact ⟨.inr ⟨x, rfl, rfl⟩, m, rfl⟩
  case rest =>
    obtain ⟨hres, m, rfl⟩ := hcut
    clear hck h0 hdoc
    rcases hres with ⟨en, rfl, rfl, hsc⟩ | ⟨x, rfl, rfl⟩
    · have HS : Hid (ScOK zs n off p en) := hsc
      clear hsc
      have hen1 := HS.out.1
      have hen2 := HS.out.2.1
      obtain ⟨stk, rc⟩ := S
      have h1 := hinv.f1
      have h3 := hinv.f3
      have h4 := hinv.f4
      have h10 := hinv.f10
      have hi2 := hinv.drewN m
      cases rc with
      | some m0 =>
        have h10' : w.cell? ⟨sb, 10, none⟩ = some (.bool true) := h10
        clear h10
        go_wp2_with (go_at_call 18; refine (note_any (w.drewN m) sb _ _ (by omega) h1).mono ?_; rintro e w' ⟨rfl, rfl⟩)
        go_ret2
        exact .inl ⟨en, ⟨stk, some m0⟩, rfl, hi2, Mov.drewN _ _ _ _, hen1, hen2, rfl, fun m' hm' => by have := HR.out m' hm'; omega, _, rfl, fun hd => HS.out.2.2 hd stk⟩
      | none =>
        have h10' : w.cell? ⟨sb, 10, none⟩ = some (.bool false) := h10
        clear h10
        have hyes : ∀ w2 : World, (off = (en : Int) ∨ off = (en : Int) + 1) → Inv w2 sb B db n cap zs off ⟨stk, some ⟨p, en, false, stk⟩⟩ → Mov B sb (w.drewN m) w2 →
            ValRes sb B db n cap zs off p ⟨stk, none⟩ w (.returned (.tuple #[.int .i64 en, .bool true])) w2 := fun w2 ho hi hm =>
          .inl ⟨en, _, rfl, hi, (Mov.drewN _ _ _ _).trans hm, hen1, hen2, rfl, fun m' hm' => by cases hm'; show (p : Int) < en; omega, some ⟨p, en, false, stk⟩, rfl, fun hd => by have := HS.out.2.2 hd stk; rw [if_pos ho] at this; exact this⟩
        have HY : Hid _ := hyes
        clear hyes
        cases e1 : (off == (en : Int))
        · cases e2 : (off == (en : Int) + 1)
          · go_wp2_with (go_at_call 18; refine (note_any (w.drewN m) sb _ _ (by omega) h1).mono ?_; rintro e w' ⟨rfl, rfl⟩)
            go_ret2
            have n1 := beq_eq_false_iff_ne.1 e1
            have n2 := beq_eq_false_iff_ne.1 e2
            exact .inl ⟨en, ⟨stk, none⟩, rfl, hi2, Mov.drewN _ _ _ _, hen1, hen2, rfl, fun m' hm' => (nomatch hm'), none, rfl, fun hd => by have := HS.out.2.2 hd stk; rw [if_neg (by omega)] at this; exact this⟩
          · have ho : off = (en : Int) + 1 := beq_iff_eq.1 e2
            go_wp2_with fail
            refine (record_any _ sb B db n cap zs off stk p en false (by have : stk.length ≤ p := hl; omega) hi2).mono ?_
            rintro e w2 ⟨rfl, hi3, hm3⟩
            have h1' := hi3.f1
            go_wp2_with (go_at_call 18; refine (note_any _ sb _ _ (by omega) h1').mono ?_; rintro e w' ⟨rfl, rfl⟩)
            go_ret2
            exact HY.out _ (.inr ho) hi3 hm3
        · have ho : off = (en : Int) := beq_iff_eq.1 e1
          go_wp2_with fail
          refine (record_any _ sb B db n cap zs off stk p en false (by have : stk.length ≤ p := hl; omega) hi2).mono ?_
          rintro e w2 ⟨rfl, hi3, hm3⟩
          have h1' := hi3.f1
          go_wp2_with (go_at_call 18; refine (note_any _ sb _ _ (by omega) h1').mono ?_; rintro e w' ⟨rfl, rfl⟩)
          go_ret2
          exact HY.out _ (.inl ho) hi3 hm3
    · go_wp2
      go_ret2
      exact .inr ⟨x, rfl, Mov.drewN _ _ _ _⟩

set_option maxRecDepth 100000 in
set_option maxHeartbeats 2000000 in
theorem value_cont (w : World) (sb B db n cap : Nat) (zs : List Int) (off : Int) (S : St) (p : Nat) (hn : n ≤ 1048576) (hp : p < n) (hinv : Inv w sb B db n cap zs off S) (hl : S.stk.length ≤ p) (hr : ∀ m, S.rc = some m → m.start < (p : Int))
    (hcont : ContOK sb B db n cap zs off p) (c : Int) (HC : Hid (Js.ch zs p = c)) (hc : c = 123 ∨ c = 91) :
    Calls Try.prog 13 #[.pointer (some ⟨sb, 0, none⟩), .int .i64 p] w (ValRes sb B db n cap zs off p S w) := by
  have h0 := hinv.f0
  have hck := hinv.doc.at hp
  rw [HC.out] at hck
  have HR : Hid (∀ m, S.rc = some m → m.start < (p : Int)) := hr
  clear hr
  have HO : Hid (Js.ch zs p = 123 ∨ Js.ch zs p = 91) := by rw [HC.out]; exact hc
  obtain ⟨stk, rc⟩ := S
  have hl' : stk.length ≤ p := hl
  have h3 := hinv.f3
  have h4 := hinv.f4
  have h10 := hinv.f10
  cases rc with
  | some m0 =>
    have h10' : w.cell? ⟨sb, 10, none⟩ = some (.bool true) := h10
    clear h10
    have hm0 : m0.start < (p : Int) := HR.out m0 rfl
    rcases hc with rfl | rfl
    all_goals
      go_enter Try.func13, Try.ntmps13
      go_wp2_with fail
      refine (hcont.calls hinv hl hp (fun m hm => by have := HR.out m hm; omega) HO.out).mono ?_
      rintro e w1 hres
      rcases hres with ⟨u, ⟨stk', rc'⟩, rfl, hi1, hm1, hu1, hu2, hu3, hst, r, l, b, hrc, hseg⟩ | ⟨x, rfl, hm1⟩
      · obtain rfl : stk' = stk := hst
        obtain rfl : rc' = some m0 := hrc
        have HU : Hid (Js.ch zs u = 125 ∨ Js.ch zs u = 93) := hu3
        have HSG : Hid _ := hseg
        clear hu3 hseg
        have g1 := hi1.f1
        have g10 : w1.cell? ⟨sb, 10, none⟩ = some (.bool true) := hi1.f10
        have g11 : w1.cell? ⟨sb, 11, none⟩ = some (.int .i64 m0.start) := hi1.f11
        have hne : (m0.start == (p : Int)) = false := beq_eq_false_iff_ne.2 (by omega)
        clear h0 hck h3 h4 h10'
        go_wp2_with (go_at_call 18; refine (note_any _ sb _ _ (by omega) g1).mono ?_; rintro e w' ⟨rfl, rfl⟩)
        go_ret2
        refine .inl ⟨u + 1, ⟨stk', some m0⟩, by simp, hi1, hm1, by omega, by omega, rfl, fun m' hm' => ?_, _, rfl, fun _ => Js.SegE.cont hp HO.out HSG.out hu2 HU.out⟩
        have := HR.out m' hm'
        omega
      · go_wp2
        go_ret2
        exact .inr ⟨x, rfl, hm1⟩
  | none =>
    have h10' : w.cell? ⟨sb, 10, none⟩ = some (.bool false) := h10
    clear h10
    cases e1 : (off == (p : Int) + 1)
    · have hoff : ¬ off = (p : Int) + 1 := beq_eq_false_iff_ne.1 e1
      rcases hc with rfl | rfl
      all_goals
        go_enter Try.func13, Try.ntmps13
        go_wp2_with fail
        refine (hcont.calls hinv hl hp (fun m hm => nomatch hm) HO.out).mono ?_
        rintro e w1 hres
        rcases hres with ⟨u, ⟨stk', rc'⟩, rfl, hi1, hm1, hu1, hu2, hu3, hst, r, l, b, hrc, hseg⟩ | ⟨x, rfl, hm1⟩
        · obtain rfl : stk' = stk := hst
          obtain rfl : rc' = r := hrc
          have HU : Hid (Js.ch zs u = 125 ∨ Js.ch zs u = 93) := hu3
          have HSG : Hid _ := hseg
          have hend : ∀ w2 : World, w2 = w1 → ValRes sb B db n cap zs off p ⟨stk', none⟩ w (.returned (.tuple #[.int .i64 ((u : Int) + 1), .bool true])) w2 := fun w2 hw2 => by
            subst hw2
            have hs := Js.SegE.cont hp HO.out HSG.out hu2 HU.out
            rw [if_neg hoff, Option.none_or] at hs
            refine .inl ⟨u + 1, ⟨stk', rc'⟩, by simp, hi1, hm1, by omega, by omega, rfl, fun m' hm' => ?_, rc', rfl, fun _ => hs⟩
            obtain ⟨i, h1, h2, h3⟩ := segE_start HSG.out hm'
            rw [h1]; omega
          have HE : Hid _ := hend
          clear hend
          have g1 := hi1.f1
          have g10 := hi1.f10
          have g11 := hi1.f11
          clear h0 hck h3 h4 h10'
          cases rc' with
          | none =>
            have g10' : w1.cell? ⟨sb, 10, none⟩ = some (.bool false) := g10
            clear hu3 hseg g10 g11
            go_wp2_with (go_at_call 18; refine (note_any _ sb _ _ (by omega) g1).mono ?_; rintro e w' ⟨rfl, rfl⟩)
            go_ret2
            exact HE.out _ rfl
          | some m' =>
            have g10' : w1.cell? ⟨sb, 10, none⟩ = some (.bool true) := g10
            have g11' : w1.cell? ⟨sb, 11, none⟩ = some (.int .i64 m'.start) := g11
            have hne : (m'.start == (p : Int)) = false := by
              obtain ⟨i, h1, h2, h3⟩ := segE_start hseg rfl
              exact beq_eq_false_iff_ne.2 (by rw [h1]; omega)
            clear hu3 hseg g10 g11
            go_wp2_with (go_at_call 18; refine (note_any _ sb _ _ (by omega) g1).mono ?_; rintro e w' ⟨rfl, rfl⟩)
            go_ret2
            exact HE.out _ rfl
        · go_wp2
          go_ret2
          exact .inr ⟨x, rfl, hm1⟩
    · have hoff : off = (p : Int) + 1 := beq_iff_eq.1 e1
      have HOFF : Hid (off = (p : Int) + 1) := hoff
      clear hoff
      rcases hc with rfl | rfl
      all_goals
        go_enter Try.func13, Try.ntmps13
        go_wp2_with fail
        refine (record_any w sb B db n cap zs off stk p (-1) false (by omega) hinv).mono ?_
        rintro e w0 ⟨rfl, hi0, hm0⟩
        go_wp2_with fail
        refine (hcont.calls hi0 hl hp (fun m hm => by cases hm; exact Int.le_refl _) HO.out).mono ?_
        rintro e w1 hres
        rcases hres with ⟨u, ⟨stk', rc'⟩, rfl, hi1, hm1, hu1, hu2, hu3, hst, r, l, b, hrc, hseg⟩ | ⟨x, rfl, hm1⟩
        · obtain rfl : stk' = stk := hst
          obtain rfl : rc' = some ⟨p, -1, false, stk'⟩ := hrc
          have HU : Hid (Js.ch zs u = 125 ∨ Js.ch zs u = 93) := hu3
          have HSG : Hid _ := hseg
          clear hu3 hseg
          have hi2 := hi1.setEnd ((u : Int) + 1)
          have g1 := hi2.f1
          have g10 : w1.cell? ⟨sb, 10, none⟩ = some (.bool true) := hi1.f10
          have g11 : w1.cell? ⟨sb, 11, none⟩ = some (.int .i64 p) := hi1.f11
          have g12 : w1.cell? ⟨sb, 12, none⟩ = some (.int .i64 (-1)) := hi1.f12
          have g13 : w1.cell? ⟨sb, 13, none⟩ = some (.bool false) := hi1.f13
          have gf := hi1.free 12
          clear h0 hck h3 h4 h10'
          go_wp2_with (go_at_call 18; refine (note_any (w1.setCell ⟨sb, 12, none⟩ (.int .i64 ((u : Int) + 1))) sb _ _ (by omega) g1).mono ?_; rintro e w' ⟨rfl, rfl⟩)
          go_ret2
          have hs := Js.SegE.cont hp HO.out HSG.out hu2 HU.out
          rw [if_pos HOFF.out, Option.some_or] at hs
          refine .inl ⟨u + 1, _, by simp, hi2, (hm0.trans hm1).trans (Mov.field _ _ _), by omega, by omega, rfl, fun m' hm' => ?_, _, ?_, fun _ => hs⟩
          · cases hm'; show (p : Int) < _; omega
          · show some (Js.Ms.mk (p : Int) ((u : Int) + 1) false stk') = some _
            simp
        · go_wp2
          go_ret2
          exact .inr ⟨x, rfl, hm0.trans hm1⟩

/-- jsValue at p, out of jsContainer at p. -/
theorem value_step (sb B db n cap : Nat) (zs : List Int) (off : Int) (p : Nat) (hn : n ≤ 1048576) (hpn : p ≤ n) (hcont : p < n → ContOK sb B db n cap zs off p) : ValOK sb B db n cap zs off p := by
  intro S w hinv hl hr
  by_cases hp : p < n
  · by_cases h1 : Js.ch zs p = 123
    · exact value_cont w sb B db n cap zs off S p hn hp hinv hl hr (hcont hp) _ rfl (.inl h1)
    by_cases h2 : Js.ch zs p = 91
    · exact value_cont w sb B db n cap zs off S p hn hp hinv hl hr (hcont hp) _ rfl (.inr h2)
    exact value_scalar w sb B db n cap zs off S p hn hp hinv hl hr _ rfl (beq_eq_false_iff_ne.2 h1) (beq_eq_false_iff_ne.2 h2)
  · have h0 := hinv.f0
    clear hr hcont
    go_enter Try.func13, Try.ntmps13
    go_wp2
    go_ret2
    exact .inr ⟨_, rfl, Mov.refl _ _ _⟩
end Go.Proofs.Qxb6603798a
