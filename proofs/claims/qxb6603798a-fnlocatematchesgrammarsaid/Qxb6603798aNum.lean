/-
  THE WALKS of jsNumber (21), jsHas (27), jsLiteral (22).
-/
import Derived.Test.Qxb6603798aLeaf
import Derived.Deep.QuietTactic
import Derived.BigQuiet
namespace Go.Proofs.Qxb6603798a
open Go.RowKit
set_option linter.unusedVariables false
set_option linter.unusedSimpArgs false

/-- Bytes of a number or a literal from p to q. -/
def PlR (zs : List Int) (p q : Nat) : Prop := ∀ j, p ≤ j → j < q → Js.Pl (Js.ch zs j)
theorem PlR.refl (zs : List Int) (p : Nat) : PlR zs p p := fun j h1 h2 => by omega
theorem PlR.snoc {zs : List Int} {p q : Nat} (h : PlR zs p q) {c : Int} (hc : Js.ch zs q = c) (hp : Js.Pl c) : PlR zs p (q + 1) := by
  intro j h1 h2
  by_cases e : j = q
  · subst e; rw [hc]; exact hp
  · exact h j h1 (by omega)
theorem pl_dg {c : Int} (h : dg c = true) : Js.Pl c := by
  simp [dg] at h; unfold Js.Pl; omega

def NumRes (zs : List Int) (n p : Nat) (e : Ending) : Prop :=
  (∃ en : Nat, e = .returned (.tuple #[.int .i64 en, .bool true]) ∧ p < en ∧ en ≤ n ∧ PlR zs p en) ∨ (∃ x : Int, e = .returned (.tuple #[.int .i64 x, .bool false]))
theorem NumRes.no (zs : List Int) (n p : Nat) (x : Int) : NumRes zs n p (.returned (.tuple #[.int .i64 x, .bool false])) := .inr ⟨x, rfl⟩
theorem NumRes.yes {zs : List Int} {n p : Nat} (x : Int) (en : Nat) (hx : x = en) (h1 : p < en) (h2 : en ≤ n) (h : PlR zs p en) : NumRes zs n p (.returned (.tuple #[.int .i64 x, .bool true])) := .inl ⟨en, by rw [hx], h1, h2, h⟩

set_option maxRecDepth 100000 in
set_option maxHeartbeats 2000000 in
theorem number_nat (w : World) (db n cap : Nat) (zs : List Int) (p : Nat) (hn : n ≤ 1048576) (hp : p < n) (hd : DocAt w db n zs) :
    Calls Try.prog 21 #[.slice (some ⟨db, 0, none⟩) n cap, .int .i64 p] w fun e w' => NumRes zs n p e ∧ w' = w := by
  have hck := hd.at hp
  obtain ⟨c, hcc⟩ : ∃ c, Js.ch zs p = c := ⟨_, rfl⟩
  rw [hcc] at hck
  have HC : Hid (Js.ch zs p = c) := hcc
  clear hcc
  go_enter Try.func21, Try.ntmps21
  go_upto_if 18 with fail
  go_cut [1] (fun v w' => (∃ q : Nat, v = .int .i64 q ∧ p ≤ q ∧ q ≤ n ∧ Hid (PlR zs p q)) ∧ w' = w)
  case first =>
    cases e45 : (c == 45)
    · go_wp2
      go_meet
      case rel => exact ⟨⟨p, rfl, Nat.le_refl _, by omega, PlR.refl _ _⟩, rfl⟩
    · have HX : Hid (PlR zs p (p + 1)) := (PlR.refl zs p).snoc HC.out (by have := beq_iff_eq.1 e45; subst this; unfold Js.Pl; omega)
      go_wp2
      go_meet
      case rel => exact ⟨⟨p + 1, by go_num, by omega, by omega, HX⟩, rfl⟩
  case rest =>
    obtain ⟨⟨q, rfl, hq1, hq2, HQ⟩, rfl⟩ := hcut
    by_cases hlt : q < n
    · have hcq := hd.at hlt
      obtain ⟨b, hbb⟩ : ∃ b, Js.ch zs q = b := ⟨_, rfl⟩
      rw [hbb] at hcq
      have HB : Hid (Js.ch zs q = b) := hbb
      clear hbb hck
      have hdec : decide (n ≤ q) = false := by simp; omega
      go_upto_if 30 with fail
      go_cut [1] (fun v w' => (∃ u : Nat, v = .int .i64 u ∧ p < u ∧ u ≤ n ∧ Hid (PlR zs p u)) ∧ w' = wc)
      case first =>
        by_cases b48 : b = 48
        · subst b48
          have HX : Hid (PlR zs p (q + 1)) := HQ.out.snoc HB.out (by unfold Js.Pl; omega)
          go_wp2
          go_meet
          case rel => exact ⟨⟨q + 1, by go_num, by omega, by omega, HX⟩, rfl⟩
        have f48 : (b == 48) = false := beq_eq_false_iff_ne.2 b48
        rw [f48]
        by_cases b49 : 49 ≤ b
        · by_cases b57 : b ≤ 57
          · go_wp2
            go_loop [1] (fun i => ∃ k : Nat, i = .int .i64 k ∧ q ≤ k ∧ k ≤ n ∧ Hid (PlR zs p k)) (fun i => n - (intOf i).toNat)
            case atStart => exact ⟨q, rfl, Nat.le_refl _, hq2, HQ⟩
            case round =>
              obtain ⟨k, rfl, hk1, hk2, HK⟩ := hrel
              by_cases hkn : k < n
              · have hckk := hd.at hkn
                obtain ⟨f, hff⟩ : ∃ f, Js.ch zs k = f := ⟨_, rfl⟩
                rw [hff] at hckk
                have HF : Hid (Js.ch zs k = f) := hff
                clear hff
                cases hdg : dg f
                · have hkq : q < k := by
                    by_cases e : k = q
                    · subst e
                      have e2 : f = b := by rw [← HF.out, HB.out]
                      subst e2
                      simp [dg] at hdg; omega
                    · omega
                  go_wp2_with (go_at_call 20; refine (digit_any _ _).mono ?_; rintro e w' ⟨rfl, rfl⟩)
                  go_meet
                  case rel => exact ⟨⟨k, rfl, by omega, hk2, HK⟩, rfl⟩
                · have HX : Hid (PlR zs p (k + 1)) := HK.out.snoc HF.out (pl_dg hdg)
                  go_wp2_with (go_at_call 20; refine (digit_any _ _).mono ?_; rintro e w' ⟨rfl, rfl⟩)
                  go_round
                  case rel => exact ⟨k + 1, by go_num, by omega, by omega, HX⟩
                  case measure => simp [intOf]; omega
              · go_wp2
                go_meet
                case rel => exact ⟨⟨k, rfl, by omega, hk2, HK⟩, rfl⟩
          · go_wp2
            go_ret2
            exact ⟨NumRes.no _ _ _ _, rfl⟩
        · go_wp2
          go_ret2
          exact ⟨NumRes.no _ _ _ _, rfl⟩
      case rest =>
        obtain ⟨⟨u, rfl, hu1, hu2, HU⟩, rfl⟩ := hcut
        clear HQ HB hcq hq1 hlt hq2
        by_cases hun : u < n
        · have hcu := hd.at hun
          obtain ⟨b, hbb⟩ : ∃ b, Js.ch zs u = b := ⟨_, rfl⟩
          rw [hbb] at hcu
          have HB : Hid (Js.ch zs u = b) := hbb
          clear hbb
          go_upto_if 69 with fail
          go_cut [1] (fun v w' => (∃ t : Nat, v = .int .i64 t ∧ p < t ∧ t ≤ n ∧ Hid (PlR zs p t)) ∧ w' = wc)
          case first =>
            cases e46 : (b == 46)
            · go_wp2
              go_meet
              case rel => exact ⟨⟨u, rfl, hu1, hu2, HU⟩, rfl⟩
            · have H1 : Hid (PlR zs p (u + 1)) := HU.out.snoc HB.out (by have := beq_iff_eq.1 e46; subst this; unfold Js.Pl; omega)
              go_wp2
              go_loop [1] (fun i => ∃ k : Nat, i = .int .i64 k ∧ u + 1 ≤ k ∧ k ≤ n ∧ Hid (PlR zs p k)) (fun i => n - (intOf i).toNat)
              case atStart => exact ⟨u + 1, by go_num, Nat.le_refl _, hun, H1⟩
              case round =>
                obtain ⟨k, rfl, hk1, hk2, HK⟩ := hrel
                by_cases hkn : k < n
                · have hckk := hd.at hkn
                  obtain ⟨f, hff⟩ : ∃ f, Js.ch zs k = f := ⟨_, rfl⟩
                  rw [hff] at hckk
                  have HF : Hid (Js.ch zs k = f) := hff
                  clear hff
                  cases hdg : dg f
                  · cases hku : ((k : Int) == (u : Int) + 1)
                    · go_wp2_with (go_at_call 20; refine (digit_any _ _).mono ?_; rintro e w' ⟨rfl, rfl⟩)
                      go_meet
                      case rel => exact ⟨⟨k, rfl, by omega, hk2, HK⟩, rfl⟩
                    · go_wp2_with (go_at_call 20; refine (digit_any _ _).mono ?_; rintro e w' ⟨rfl, rfl⟩)
                      go_ret2
                      exact ⟨NumRes.no _ _ _ _, rfl⟩
                  · have HX : Hid (PlR zs p (k + 1)) := HK.out.snoc HF.out (pl_dg hdg)
                    go_wp2_with (go_at_call 20; refine (digit_any _ _).mono ?_; rintro e w' ⟨rfl, rfl⟩)
                    go_round
                    case rel => exact ⟨k + 1, by go_num, by omega, by omega, HX⟩
                    case measure => simp [intOf]; omega
                · cases hku : ((k : Int) == (u : Int) + 1)
                  · go_wp2
                    go_meet
                    case rel => exact ⟨⟨k, rfl, by omega, hk2, HK⟩, rfl⟩
                  · go_wp2
                    go_ret2
                    exact ⟨NumRes.no _ _ _ _, rfl⟩
          case rest =>
            obtain ⟨⟨t, rfl, ht1, ht2, HT⟩, rfl⟩ := hcut
            clear HU HB hcu hun hu1 hu2
            by_cases htn : t < n
            · have hct := hd.at htn
              obtain ⟨b, hbb⟩ : ∃ b, Js.ch zs t = b := ⟨_, rfl⟩
              rw [hbb] at hct
              have HB : Hid (Js.ch zs t = b) := hbb
              clear hbb
              by_cases he : b = 101 ∨ b = 69
              · have H1 : Hid (PlR zs p (t + 1)) := HT.out.snoc HB.out (by unfold Js.Pl; omega)
                by_cases ht1n : t + 1 < n
                · have hct1 := hd.at ht1n
                  obtain ⟨g, hgg⟩ : ∃ g, Js.ch zs (t + 1) = g := ⟨_, rfl⟩
                  rw [hgg] at hct1
                  have HG : Hid (Js.ch zs (t + 1) = g) := hgg
                  clear hgg
                  rcases he with rfl | rfl
                  all_goals
                    go_upto_region 20 with fail
                    go_cut [127] (fun x w' => x = .bool (g == 43 || g == 45) ∧ w' = wc)
                    case first =>
                      cases g43 : (g == 43)
                      · go_wp2
                        all_goals (go_meet; case rel => exact ⟨by simp [g43], rfl⟩)
                      · go_wp2
                        all_goals (go_meet; case rel => exact ⟨by simp [g43], rfl⟩)
                    case rest =>
                    obtain ⟨rfl, rfl⟩ := hcut
                    go_upto_if 127 with fail
                    go_cut [1] (fun x w' => (∃ v : Nat, x = .int .i64 v ∧ t + 1 ≤ v ∧ v ≤ n ∧ Hid (PlR zs p v)) ∧ w' = wc)
                    case first =>
                      cases hg : (g == 43 || g == 45)
                      · go_wp2
                        go_meet
                        case rel => exact ⟨⟨t + 1, by go_num, by omega, by omega, H1⟩, rfl⟩
                      · have HX : Hid (PlR zs p (t + 2)) := H1.out.snoc HG.out (by simp at hg; unfold Js.Pl; omega)
                        go_wp2
                        go_meet
                        case rel => exact ⟨⟨t + 2, by go_num, by omega, by omega, HX⟩, rfl⟩
                    case rest =>
                      obtain ⟨⟨v, rfl, hv1, hv2, HV⟩, rfl⟩ := hcut
                      clear H1 HG HB hct hct1 HT
                      go_wp2
                      go_loop [1] (fun i => ∃ k : Nat, i = .int .i64 k ∧ v ≤ k ∧ k ≤ n ∧ Hid (PlR zs p k)) (fun i => n - (intOf i).toNat)
                      case atStart => exact ⟨v, rfl, Nat.le_refl _, hv2, HV⟩
                      case round =>
                        obtain ⟨k, rfl, hk1, hk2, HK⟩ := hrel
                        clear HV
                        by_cases hkn : k < n
                        · have hckk := hd.at hkn
                          obtain ⟨f, hff⟩ : ∃ f, Js.ch zs k = f := ⟨_, rfl⟩
                          rw [hff] at hckk
                          have HF : Hid (Js.ch zs k = f) := hff
                          clear hff
                          cases hdg : dg f
                          · cases hku : ((k : Int) == (v : Int))
                            · go_wp2_with (go_at_call 20; refine (digit_any _ _).mono ?_; rintro e w' ⟨rfl, rfl⟩)
                              go_ret2
                              exact ⟨NumRes.yes _ k rfl (by omega) hk2 HK.out, rfl⟩
                            · go_wp2_with (go_at_call 20; refine (digit_any _ _).mono ?_; rintro e w' ⟨rfl, rfl⟩)
                              go_ret2
                              exact ⟨NumRes.no _ _ _ _, rfl⟩
                          · have HX : Hid (PlR zs p (k + 1)) := HK.out.snoc HF.out (pl_dg hdg)
                            go_wp2_with (go_at_call 20; refine (digit_any _ _).mono ?_; rintro e w' ⟨rfl, rfl⟩)
                            go_round
                            case rel => exact ⟨k + 1, by go_num, by omega, by omega, HX⟩
                            case measure => simp [intOf]; omega
                        · cases hku : ((k : Int) == (v : Int))
                          · go_wp2
                            go_ret2
                            exact ⟨NumRes.yes _ k rfl (by omega) hk2 HK.out, rfl⟩
                          · go_wp2
                            go_ret2
                            exact ⟨NumRes.no _ _ _ _, rfl⟩
                · rcases he with rfl | rfl
                  all_goals
                    go_wp2
                    refine wp_loop_rounds 1 ?_
                    rw [rounds_succ]
                    go_wp2
                    go_ret2
                    exact ⟨NumRes.no _ _ _ _, rfl⟩
              · have f101 : (b == 101) = false := beq_eq_false_iff_ne.2 (by omega)
                have f69 : (b == 69) = false := beq_eq_false_iff_ne.2 (by omega)
                clear he
                go_wp2
                go_ret2
                exact ⟨NumRes.yes _ t rfl ht1 ht2 HT.out, rfl⟩
            · go_wp2
              go_ret2
              exact ⟨NumRes.yes _ t rfl ht1 ht2 HT.out, rfl⟩
        · go_wp2
          go_ret2
          exact ⟨NumRes.yes _ u rfl hu1 hu2 HU.out, rfl⟩
    · go_wp2
      go_ret2
      exact ⟨NumRes.no _ _ _ _, rfl⟩
theorem number_any (w : World) (db n cap : Nat) (zs : List Int) (a : Int) (p : Nat) (ha : a = (p : Int)) (hn : n ≤ 1048576) (hp : p < n) (hd : DocAt w db n zs) :
    Calls Try.prog 21 #[.slice (some ⟨db, 0, none⟩) n cap, .int .i64 a] w fun e w' => NumRes zs n p e ∧ w' = w := by
  subst ha; exact number_nat w db n cap zs p hn hp hd

/-! ### jsHas, jsLiteral -/
/-- The word stands at p. -/
def HasAt (zs : List Int) (n p : Nat) (s : ByteArray) : Prop := p + s.size ≤ n ∧ ∀ k (h : k < s.size), Js.ch zs (p + k) = (s[k].toNat : Int)
def HasRes (zs : List Int) (n p : Nat) (s : ByteArray) (e : Ending) : Prop :=
  (e = .returned (.bool true) ∧ HasAt zs n p s) ∨ e = .returned (.bool false)

set_option maxRecDepth 100000 in
set_option maxHeartbeats 1000000 in
theorem has_nat (w : World) (db n cap : Nat) (zs : List Int) (p : Nat) (s : ByteArray) (hs : s.size ≤ 1000) (hn : n ≤ 1048576) (hp : p < n) (hd : DocAt w db n zs) :
    Calls Try.prog 27 #[.slice (some ⟨db, 0, none⟩) n cap, .int .i64 p, .string s] w fun e w' => HasRes zs n p s e ∧ ∃ m, w' = w.drewN m := by
  by_cases hl : n < p + s.size
  · go_enter Try.func27, Try.ntmps27
    go_wp2
    go_ret
    exact ⟨.inr rfl, 0, rfl⟩
  · go_enter Try.func27, Try.ntmps27
    go_wp2
    go_loopw [7] (fun i wr => ∃ k : Nat, i = .int .i64 k ∧ k ≤ s.size ∧ (∃ m, wr = w.drewN m) ∧ Hid (∀ j (h : j < s.size), j < k → Js.ch zs (p + j) = (s[j].toNat : Int))) (fun i _ => s.size - (intOf i).toNat)
    case atStart => exact ⟨0, rfl, Nat.zero_le _, ⟨0, rfl⟩, fun j _ h => by omega⟩
    case round =>
      obtain ⟨k, rfl, hk, ⟨m, rfl⟩, H⟩ := hrel
      by_cases hlt : k < s.size
      · have hck := hd.at (i := p + k) (by omega)
        have hck2 : (w.drewN m).cell? ⟨db, p + k, none⟩ = some (.int .u8 (Js.ch zs (p + k))) := hck
        obtain ⟨f, hff⟩ : ∃ f, Js.ch zs (p + k) = f := ⟨_, rfl⟩
        rw [hff] at hck hck2
        have HF : Hid (Js.ch zs (p + k) = f) := hff
        clear hff
        have hi1 : (p : Int) + (k : Int) < (n : Int) := by omega
        have hi2 : (k : Int) < (s.size : Int) := by omega
        cases e : (f != (s[k].toNat : Int))
        · go_wp2_with fail
          go_quiet (fail)
          go_wp2
          go_roundw
          case rel => exact ⟨k + 1, by go_num, by omega, ⟨_, rfl⟩, fun j h1 h2 => by
              by_cases ej : j = k
              · subst ej; rw [HF.out]; simpa using e
              · exact H.out j h1 (by omega)⟩
          case measure => simp [intOf]; omega
        · go_wp2_with fail
          go_quiet (fail)
          go_wp2
          go_ret
          exact ⟨.inr rfl, _, World.drewN_drewN _ _ _⟩
      · go_wp2
        go_ret
        exact ⟨.inl ⟨rfl, by omega, fun j h => H.out j h (by omega)⟩, m, rfl⟩

theorem has_pl {zs : List Int} {n p : Nat} {s : ByteArray} (hall : ∀ k (h : k < s.size), Js.Pl (s[k].toNat : Int)) (h : HasAt zs n p s) : PlR zs p (p + s.size) := by
  intro j h1 h2
  have := h.2 (j - p) (by omega)
  rw [show p + (j - p) = j by omega] at this
  rw [this]; exact hall _ _
theorem pl116 : Js.Pl 116 := by unfold Js.Pl; omega
theorem pl114 : Js.Pl 114 := by unfold Js.Pl; omega
theorem pl117 : Js.Pl 117 := by unfold Js.Pl; omega
theorem pl101 : Js.Pl 101 := by unfold Js.Pl; omega
theorem pl102 : Js.Pl 102 := by unfold Js.Pl; omega
theorem pl97 : Js.Pl 97 := by unfold Js.Pl; omega
theorem pl108 : Js.Pl 108 := by unfold Js.Pl; omega
theorem pl115 : Js.Pl 115 := by unfold Js.Pl; omega
theorem pl110 : Js.Pl 110 := by unfold Js.Pl; omega
theorem pl_true : ∀ k (h : k < (ByteArray.mk #[116, 114, 117, 101]).size), Js.Pl ((ByteArray.mk #[116, 114, 117, 101])[k].toNat : Int) := by
  intro k h
  have h4 : k < 4 := h
  have : k = 0 ∨ k = 1 ∨ k = 2 ∨ k = 3 := by omega
  rcases this with rfl | rfl | rfl | rfl
  · exact pl116
  · exact pl114
  · exact pl117
  · exact pl101
theorem pl_false : ∀ k (h : k < (ByteArray.mk #[102, 97, 108, 115, 101]).size), Js.Pl ((ByteArray.mk #[102, 97, 108, 115, 101])[k].toNat : Int) := by
  intro k h
  have h4 : k < 5 := h
  have : k = 0 ∨ k = 1 ∨ k = 2 ∨ k = 3 ∨ k = 4 := by omega
  rcases this with rfl | rfl | rfl | rfl | rfl
  · exact pl102
  · exact pl97
  · exact pl108
  · exact pl115
  · exact pl101
theorem pl_null : ∀ k (h : k < (ByteArray.mk #[110, 117, 108, 108]).size), Js.Pl ((ByteArray.mk #[110, 117, 108, 108])[k].toNat : Int) := by
  intro k h
  have h4 : k < 4 := h
  have : k = 0 ∨ k = 1 ∨ k = 2 ∨ k = 3 := by omega
  rcases this with rfl | rfl | rfl | rfl
  · exact pl110
  · exact pl117
  · exact pl108
  · exact pl108

theorem docAt_drewN {w : World} {db n : Nat} {zs : List Int} (h : DocAt w db n zs) (m : Nat) : DocAt (w.drewN m) db n zs := fun i hi => h i hi

set_option maxHeartbeats 1000000 in
theorem literal_nat (w : World) (db n cap : Nat) (zs : List Int) (p : Nat) (hn : n ≤ 1048576) (hp : p < n) (hd : DocAt w db n zs) :
    Calls Try.prog 22 #[.slice (some ⟨db, 0, none⟩) n cap, .int .i64 p] w fun e w' => NumRes zs n p e ∧ ∃ m, w' = w.drewN m := by
  go_enter Try.func22, Try.ntmps22
  go_wp2_with fail
  refine (has_nat w db n cap zs p ⟨#[116, 114, 117, 101]⟩ (by decide) hn hp hd).mono ?_
  rintro e w1 ⟨hr, m1, rfl⟩
  rcases hr with ⟨rfl, hat⟩ | rfl
  · have HP : Hid (PlR zs p (p + 4)) := has_pl pl_true hat
    have hsz : p + 4 ≤ n := hat.1
    clear hat
    go_wp2
    go_ret2
    exact ⟨NumRes.yes _ (p + 4) (by omega) (by omega) hsz HP.out, m1, rfl⟩
  go_wp2_with fail
  refine (has_nat _ db n cap zs p ⟨#[102, 97, 108, 115, 101]⟩ (by decide) hn hp (docAt_drewN hd m1)).mono ?_
  rintro e w2 ⟨hr, m2, rfl⟩
  rcases hr with ⟨rfl, hat⟩ | rfl
  · have HP : Hid (PlR zs p (p + 5)) := has_pl pl_false hat
    have hsz : p + 5 ≤ n := hat.1
    clear hat
    go_wp2
    go_ret2
    exact ⟨NumRes.yes _ (p + 5) (by omega) (by omega) hsz HP.out, m1 + m2, rfl⟩
  go_wp2_with fail
  refine (has_nat _ db n cap zs p ⟨#[110, 117, 108, 108]⟩ (by decide) hn hp (docAt_drewN hd (m1 + m2))).mono ?_
  rintro e w3 ⟨hr, m3, rfl⟩
  rcases hr with ⟨rfl, hat⟩ | rfl
  · have HP : Hid (PlR zs p (p + 4)) := has_pl pl_null hat
    have hsz : p + 4 ≤ n := hat.1
    clear hat
    go_wp2
    go_ret2
    exact ⟨NumRes.yes _ (p + 4) (by omega) (by omega) hsz HP.out, m1 + m2 + m3, rfl⟩
  · go_wp2
    go_ret2
    exact ⟨NumRes.no _ _ _ _, m1 + m2 + m3, rfl⟩
theorem literal_any (w : World) (db n cap : Nat) (zs : List Int) (a : Int) (p : Nat) (ha : a = (p : Int)) (hn : n ≤ 1048576) (hp : p < n) (hd : DocAt w db n zs) :
    Calls Try.prog 22 #[.slice (some ⟨db, 0, none⟩) n cap, .int .i64 a] w fun e w' => NumRes zs n p e ∧ ∃ m, w' = w.drewN m := by
  subst ha; exact literal_nat w db n cap zs p hn hp hd
end Go.Proofs.Qxb6603798a
