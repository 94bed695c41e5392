/-
  THE WALK of valueEnd (14).
-/
import Derived.Test.Qxb6603798aLeaf
import Derived.Test.Qxb6603798aShelf
namespace Go.Proofs.Qxb6603798a
open Go.RowKit
set_option linter.unusedVariables false
set_option linter.unusedSimpArgs false

/-- Each is a byte. -/
def By (zs : List Int) (n : Nat) : Prop := ∀ i, i < n → 0 ≤ Js.ch zs i ∧ Js.ch zs i < 256
def dlc (c : Int) : Bool := c == 44 || c == 93 || c == 125 || c == 32 || c == 9 || c == 10 || c == 13
theorem ix7 (m : Nat) (h : m < 256) : decide (Lib.indexByte [44, 93, 125, 32, 9, 10, 13] m.toUInt8 < 0) = !dlc m := by
  revert m; decide +kernel
theorem ix4 (m : Nat) (h : m < 256) : decide (Lib.indexByte [32, 9, 10, 13] m.toUInt8 < 0) = !Js.sp m := by
  revert m; decide +kernel
theorem ix7' {c : Int} (h : 0 ≤ c ∧ c < 256) (b : Bool) (hb : dlc c = b) : ∃ k : Int, Lib.indexByte [44, 93, 125, 32, 9, 10, 13] c.toNat.toUInt8 = k ∧ (b = true → 0 ≤ k) ∧ (b = false → k < 0) := by
  have := ix7 c.toNat (by omega)
  rw [show ((c.toNat : Nat) : Int) = c by omega, hb] at this
  refine ⟨_, rfl, fun e => ?_, fun e => ?_⟩ <;> subst e <;> simp at this <;> omega
theorem ix4' {c : Int} (h : 0 ≤ c ∧ c < 256) (b : Bool) (hb : Js.sp c = b) : ∃ k : Int, Lib.indexByte [32, 9, 10, 13] c.toNat.toUInt8 = k ∧ (b = true → 0 ≤ k) ∧ (b = false → k < 0) := by
  have := ix4 c.toNat (by omega)
  rw [show ((c.toNat : Nat) : Int) = c by omega, hb] at this
  refine ⟨_, rfl, fun e => ?_, fun e => ?_⟩ <;> subst e <;> simp at this <;> omega

set_option maxHeartbeats 1000000 in
theorem ve_str (w : World) (db n cap : Nat) (zs : List Int) (p en : Nat) (hn : n ≤ 1048576) (hp : p < n) (hd : DocAt w db n zs) (hc : Js.ch zs p = 34) (hs : Js.Str zs n (p + 1) en) :
    Calls Try.prog 14 #[.slice (some ⟨db, 0, none⟩) n cap, .int .i64 p] w fun e w' => e = .returned (.int .i64 en) ∧ w' = w := by
  have hcp := hd.at hp
  rw [hc] at hcp
  have HS : Hid (Js.Str zs n (p + 1) en) := hs
  clear hs hc
  go_enter Try.func14, Try.ntmps14
  go_wp2
  go_loop [1] (fun i => ∃ q : Nat, i = .int .i64 q ∧ q ≤ n ∧ Hid (Js.Str zs n q en)) (fun i => n - (intOf i).toNat)
  case atStart => exact ⟨p + 1, by go_num, hp, HS⟩
  case round =>
    obtain ⟨q, rfl, hq, H⟩ := hrel
    obtain ⟨hlt, hcs⟩ := Js.str_cases H.out
    have hck := hd.at hlt
    rcases hcs with ⟨h34, he⟩ | ⟨h92, h2⟩ | ⟨h34, h92, h1⟩
    · rw [h34] at hck
      clear h34
      go_wp2
      go_ret
      exact ⟨ret_int (by omega), rfl⟩
    · rw [h92] at hck
      have H2 : Hid (Js.Str zs n (q + 2) en) := h2
      have hb := h2.bound
      clear h92 h2
      go_wp2
      go_round
      case rel => exact ⟨q + 2, by go_num, by omega, H2⟩
      case measure => simp [intOf]; omega
    · obtain ⟨c, hcc⟩ : ∃ c, Js.ch zs q = c := ⟨_, rfl⟩
      rw [hcc] at hck h34 h92
      have f34 : (c == 34) = false := beq_eq_false_iff_ne.2 h34
      have f92 : (c == 92) = false := beq_eq_false_iff_ne.2 h92
      have H2 : Hid (Js.Str zs n (q + 1) en) := h1
      clear h34 h92 h1 hcc
      go_wp2
      go_round
      case rel => exact ⟨q + 1, by go_num, by omega, H2⟩
      case measure => simp [intOf]; omega

set_option maxHeartbeats 1000000 in
theorem ve_sca (w : World) (db n cap : Nat) (zs : List Int) (p en : Nat) (hn : n ≤ 1048576) (hp : p < en) (he : en ≤ n) (hd : DocAt w db n zs) (hby : By zs n)
    (hpl : ∀ j, p ≤ j → j < en → Js.Pl (Js.ch zs j)) (hdl : Js.Dl zs n en) :
    Calls Try.prog 14 #[.slice (some ⟨db, 0, none⟩) n cap, .int .i64 p] w fun e w' => e = .returned (.int .i64 en) ∧ w' = w := by
  have hcp := hd.at (i := p) (by omega)
  have hpp := hpl p (Nat.le_refl _) hp
  obtain ⟨c, hcc⟩ : ∃ c, Js.ch zs p = c := ⟨_, rfl⟩
  rw [hcc] at hcp hpp
  have f34 : (c == 34) = false := beq_eq_false_iff_ne.2 hpp.1
  have f91 : (c == 91) = false := beq_eq_false_iff_ne.2 hpp.2.1
  have f123 : (c == 123) = false := beq_eq_false_iff_ne.2 hpp.2.2.2.1
  have HPL : Hid (∀ j, p ≤ j → j < en → Js.Pl (Js.ch zs j)) := hpl
  have HDL : Hid (Js.Dl zs n en) := hdl
  have HBY : Hid (By zs n) := hby
  clear hpp hcc hpl hdl hby
  go_enter Try.func14, Try.ntmps14
  go_wp2
  go_loop [1] (fun i => ∃ q : Nat, i = .int .i64 q ∧ p ≤ q ∧ q ≤ en) (fun i => n - (intOf i).toNat)
  case atStart => exact ⟨p, rfl, Nat.le_refl _, by omega⟩
  case round =>
    obtain ⟨q, rfl, hq1, hq2⟩ := hrel
    by_cases hlt : q < en
    · have hck := hd.at (i := q) (by omega)
      obtain ⟨d, hdd⟩ : ∃ d, Js.ch zs q = d := ⟨_, rfl⟩
      have hpl := HPL.out q hq1 hlt
      have hb := HBY.out q (by omega)
      rw [hdd] at hck hpl hb
      have hdl : dlc d = false := by
        obtain ⟨a, b, c, d, e, f, g, h, i, j, k⟩ := hpl
        simp [dlc, *]
      obtain ⟨k, hk, _, hk2⟩ := ix7' hb false hdl
      have hkl := hk2 rfl
      clear hpl hb hdl hk2 hdd
      go_wp2_with (go_at_call 23; refine (Try.strings_IndexByte _ _ _).mono ?_; rintro e w' ⟨rfl, rfl⟩; rw [show (⟨#[44, 93, 125, 32, 9, 10, 13]⟩ : ByteArray).data.toList = [44, 93, 125, 32, 9, 10, 13] from rfl, hk])
      go_round
      case rel => exact ⟨q + 1, by go_num, by omega, by omega⟩
      case measure => simp [intOf]; omega
    · obtain rfl : q = en := by omega
      by_cases hqn : q < n
      · have hck := hd.at hqn
        obtain ⟨d, hdd⟩ : ∃ d, Js.ch zs q = d := ⟨_, rfl⟩
        have hb := HBY.out q (by omega)
        have hdl := HDL.out
        rw [hdd] at hck hb
        have hdl : dlc d = true := by
          rcases hdl with e | ⟨_, e⟩
          · omega
          · rw [hdd] at e
            rcases e with e | e | e | e
            · simp only [Js.sp, Bool.or_eq_true, beq_iff_eq] at e
              simp only [dlc, Bool.or_eq_true, beq_iff_eq]; omega
            · simp [dlc, e]
            · simp [dlc, e]
            · simp [dlc, e]
        obtain ⟨k, hk, hk2, _⟩ := ix7' hb true hdl
        have hkl := hk2 rfl
        clear hb hdl hk2 hdd
        go_wp2_with (go_at_call 23; refine (Try.strings_IndexByte _ _ _).mono ?_; rintro e w' ⟨rfl, rfl⟩; rw [show (⟨#[44, 93, 125, 32, 9, 10, 13]⟩ : ByteArray).data.toList = [44, 93, 125, 32, 9, 10, 13] from rfl, hk])
        go_ret
        exact ⟨rfl, rfl⟩
      · go_wp2
        go_ret
        exact ⟨rfl, rfl⟩
/-! ### arrays and objects -/
def Nx (zs : List Int) (n x j d : Nat) : Prop := ∃ T, Js.Ch j x T ∧ (∀ t ∈ T, Js.G zs n t) ∧ Js.dep d T ∧ (1 ≤ d ∨ Js.ch zs j = 123 ∨ Js.ch zs j = 91)
theorem Nx.cases {zs : List Int} {n x j d : Nat} (h : Nx zs n x j d) : j < n ∧
    (((Js.ch zs j = 123 ∨ Js.ch zs j = 91) ∧ Nx zs n x (j + 1) (d + 1)) ∨
     ((Js.ch zs j = 125 ∨ Js.ch zs j = 93) ∧ 1 ≤ d ∧ ((d = 1 ∧ x = j + 1) ∨ (2 ≤ d ∧ Nx zs n x (j + 1) (d - 1)))) ∨
     (Js.ch zs j = 34 ∧ ∃ e, Js.Str zs n (j + 1) e ∧ Nx zs n x e d) ∨
     (Js.ch zs j ≠ 34 ∧ Js.ch zs j ≠ 123 ∧ Js.ch zs j ≠ 91 ∧ Js.ch zs j ≠ 125 ∧ Js.ch zs j ≠ 93 ∧ Nx zs n x (j + 1) d)) := by
  obtain ⟨T, hch, hg, hdep, ho⟩ := h
  cases T with
  | nil => exact absurd hdep (by simp [Js.dep])
  | cons t T =>
    obtain ⟨rfl, hch⟩ := hch
    have hgt := hg t (List.mem_cons_self ..)
    have hgT : ∀ u ∈ T, Js.G zs n u := fun u hu => hg u (List.mem_cons_of_mem _ hu)
    obtain ⟨g1, g2, gk⟩ := hgt
    refine ⟨by omega, ?_⟩
    rcases gk with ⟨k, c, e⟩ | ⟨k, c, e⟩ | ⟨k, c, e⟩ | ⟨k, c, e⟩ | ⟨k, c, s⟩ | ⟨k, c, dl⟩
    · left
      refine ⟨c, T, ?_, hgT, ?_, .inl (by omega)⟩
      · rw [← e]; exact hch
      · simpa [Js.dep, k] using hdep
    · right; left
      have hd1 : 1 ≤ d := by
        rcases ho with h | h
        · exact h
        · omega
      refine ⟨c, hd1, ?_⟩
      have hdep2 : if d = 1 then T = [] else Js.dep (d - 1) T := by simpa [Js.dep, k] using hdep
      by_cases h1 : d = 1
      · rw [if_pos h1] at hdep2
        subst hdep2
        exact .inl ⟨h1, by have : t.e = x := hch; omega⟩
      · rw [if_neg h1] at hdep2
        exact .inr ⟨by omega, T, by rw [← e]; exact hch, hgT, hdep2, .inl (by omega)⟩
    · right; right; right
      have hd1 : 1 ≤ d := by
        rcases ho with h | h
        · exact h
        · omega
      exact ⟨by omega, by omega, by omega, by omega, by omega, T, by rw [← e]; exact hch, hgT, by simpa [Js.dep, k] using hdep, .inl hd1⟩
    · right; right; right
      have hc : Js.ch zs t.i = 58 ∨ Js.ch zs t.i = 32 ∨ Js.ch zs t.i = 9 ∨ Js.ch zs t.i = 10 ∨ Js.ch zs t.i = 13 := by
        rcases c with c | c
        · exact .inl c
        · simp only [Js.sp, Bool.or_eq_true, beq_iff_eq] at c; omega
      have hd1 : 1 ≤ d := by
        rcases ho with h | h
        · exact h
        · omega
      exact ⟨by omega, by omega, by omega, by omega, by omega, T, by rw [← e]; exact hch, hgT, by simpa [Js.dep, k] using hdep, .inl hd1⟩
    · right; right; left
      have hd1 : 1 ≤ d := by
        rcases ho with h | h
        · exact h
        · omega
      refine ⟨c, t.e, s, T, hch, hgT, ?_, .inl hd1⟩
      rcases k with k | k <;> simpa [Js.dep, k] using hdep
    · right; right; right
      have hp := c t.i (Nat.le_refl _) g1
      have hd1 : 1 ≤ d := by
        rcases ho with h | h
        · exact h
        · exact absurd h (by have := hp.2.1; have := hp.2.2.2.1; omega)
      refine ⟨hp.1, hp.2.2.2.1, hp.2.1, hp.2.2.2.2.1, hp.2.2.1, ?_⟩
      by_cases e1 : t.e = t.i + 1
      · exact ⟨T, by rw [← e1]; exact hch, hgT, by simpa [Js.dep, k] using hdep, .inl hd1⟩
      · refine ⟨⟨6, t.i + 1, t.e, 0⟩ :: T, ⟨rfl, hch⟩, ?_, ?_, .inl hd1⟩
        · intro u hu
          rcases List.mem_cons.1 hu with rfl | hu
          · exact ⟨by simp; omega, g2, .inr (.inr (.inr (.inr (.inr ⟨rfl, fun j a b => c j (by simp at a; omega) b, dl⟩))))⟩
          · exact hgT u hu
        · simpa [Js.dep, k] using hdep

set_option maxRecDepth 100000 in
set_option maxHeartbeats 1000000 in
theorem ve_con (w : World) (db n cap : Nat) (zs : List Int) (p x : Nat) (hn : n ≤ 1048576) (hp : p < n) (hd : DocAt w db n zs) (hc : Js.ch zs p = 123 ∨ Js.ch zs p = 91)
    (hx : Js.Cont zs n p x) :
    Calls Try.prog 14 #[.slice (some ⟨db, 0, none⟩) n cap, .int .i64 p] w fun e w' => e = .returned (.int .i64 x) ∧ w' = w := by
  have hcp := hd.at hp
  have HN : Hid (Nx zs n x p 0) := by
    obtain ⟨T, a, b, c⟩ := hx
    exact ⟨T, a, b, c, .inr hc⟩
  obtain ⟨c, hcc⟩ : ∃ c, Js.ch zs p = c := ⟨_, rfl⟩
  rw [hcc] at hcp hc
  have f34 : (c == 34) = false := beq_eq_false_iff_ne.2 (by omega)
  have fo : (c == 123 || c == 91) = true := by rcases hc with rfl | rfl <;> rfl
  clear hcc hx
  have rel : ∀ (c2 : Int), (c2 = 123 ∨ c2 = 91) → c2 = c → True := fun _ _ _ => trivial
  clear rel
  rcases hc with rfl | rfl
  all_goals
    clear f34 fo
    go_enter Try.func14, Try.ntmps14
    go_wp2
    go_loop [1, 5] (fun i m => ∃ j d : Nat, i = .int .i64 j ∧ m = .int .i64 d ∧ d ≤ j ∧ j ≤ n ∧ Hid (Nx zs n x j d)) (fun i _ => n - (intOf i).toNat)
    case atStart => exact ⟨p, 0, rfl, rfl, Nat.zero_le _, by omega, HN⟩
    case round =>
      obtain ⟨j, d, rfl, rfl, hdj, hjn, H⟩ := hrel
      obtain ⟨hlt, hcs⟩ := H.out.cases
      have hck := hd.at hlt
      obtain ⟨b, hbb⟩ : ∃ b, Js.ch zs j = b := ⟨_, rfl⟩
      have HB : Hid (Js.ch zs j = b) := hbb
      rw [hbb] at hck hcs
      clear hbb H
      rcases hcs with ⟨hb, h2⟩ | ⟨hb, hd1, h2⟩ | ⟨hb, e, hs, h2⟩ | ⟨h34, h123, h91, h125, h93, h2⟩
      · have H2 : Hid (Nx zs n x (j + 1) (d + 1)) := h2
        clear h2
        rcases hb with rfl | rfl
        · go_wp2
          go_round
          case rel => exact ⟨j + 1, d + 1, by go_num, by go_num, by omega, by omega, H2⟩
          case measure => simp [intOf]; omega
        · go_wp2
          go_round
          case rel => exact ⟨j + 1, d + 1, by go_num, by go_num, by omega, by omega, H2⟩
          case measure => simp [intOf]; omega
      · rcases h2 with ⟨rfl, hxj⟩ | ⟨hd2, h2⟩
        · rcases hb with rfl | rfl
          · go_wp2
            go_ret
            exact ⟨ret_int (by omega), rfl⟩
          · go_wp2
            go_ret
            exact ⟨ret_int (by omega), rfl⟩
        · have H2 : Hid (Nx zs n x (j + 1) (d - 1)) := h2
          obtain ⟨d', rfl⟩ : ∃ d', d = d' + 2 := ⟨d - 2, by omega⟩
          clear h2
          rcases hb with rfl | rfl
          · go_wp2
            go_round
            case rel => exact ⟨j + 1, d' + 2 - 1, by go_num, by go_num, by omega, by omega, H2⟩
            case measure => simp [intOf]; omega
          · go_wp2
            go_round
            case rel => exact ⟨j + 1, d' + 2 - 1, by go_num, by go_num, by omega, by omega, H2⟩
            case measure => simp [intOf]; omega
      · subst hb
        have hcall := ve_str w db n cap zs j e hn hlt hd HB.out hs
        have hbd := hs.bound
        have H2 : Hid (Nx zs n x e d) := h2
        clear hs h2
        go_wp2_with (go_at_call 14; refine hcall.mono ?_; rintro e w' ⟨rfl, rfl⟩)
        go_round
        case rel => exact ⟨e, d, rfl, rfl, by omega, by omega, H2⟩
        case measure => simp [intOf]; omega
      · have f34 : (b == 34) = false := beq_eq_false_iff_ne.2 h34
        have f123 : (b == 123) = false := beq_eq_false_iff_ne.2 h123
        have f91 : (b == 91) = false := beq_eq_false_iff_ne.2 h91
        have f125 : (b == 125) = false := beq_eq_false_iff_ne.2 h125
        have f93 : (b == 93) = false := beq_eq_false_iff_ne.2 h93
        have H2 : Hid (Nx zs n x (j + 1) d) := h2
        clear h2 h34 h123 h91 h125 h93
        go_wp2
        go_round
        case rel => exact ⟨j + 1, d, by go_num, rfl, by omega, by omega, H2⟩
        case measure => simp [intOf]; omega
end Go.Proofs.Qxb6603798a
