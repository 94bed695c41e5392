/-
  THE WALKS of firstEq (36), typeName (38), refAt (35), lookup (37), strings.Cut at "=" (57, 62), optionKey (50).
-/
import Derived.Test.Qxb6603470aSize
import Derived.Test.Qxb6603470aShelf
import Derived.BigQuiet
namespace Go.Proofs.Qxb6603470a
open Go.RowKit
set_option linter.unusedVariables false
set_option linter.unusedSimpArgs false

/-! ### plain -/
/-- Where the first '=' stands, or -1. -/
def eqAt (s : ByteArray) : Int := Lib.indexByte s.data.toList 61
theorem index_ge (c : UInt8) : ∀ l : List UInt8, -1 ≤ Lib.indexByte l c
  | [] => Int.le_refl _
  | b :: l => by
    have := index_ge c l
    unfold Lib.indexByte
    split
    · decide
    · split
      · decide
      · omega
theorem index_lt (c : UInt8) : ∀ l : List UInt8, Lib.indexByte l c < l.length
  | [] => by show (-1 : Int) < 0; decide
  | b :: l => by
    have := index_lt c l
    unfold Lib.indexByte
    simp only [List.length_cons]
    split
    · omega
    · split
      · omega
      · omega
theorem index_of_hit (c : UInt8) : ∀ (l : List UInt8) (k : Nat), l[k]? = some c → (∀ j, j < k → l[j]? ≠ some c) → Lib.indexByte l c = k
  | [], k, h, _ => by simp at h
  | b :: l, 0, h, _ => by
    simp at h
    unfold Lib.indexByte
    rw [if_pos (by simp [h])]; rfl
  | b :: l, k + 1, h, hj => by
    have h0 := hj 0 (by omega)
    simp at h0 h
    have ih := index_of_hit c l k h (fun j hj' => by have := hj (j + 1) (by omega); simpa using this)
    unfold Lib.indexByte
    rw [if_neg (by simpa using h0), if_neg (by rw [ih, beq_iff_eq]; omega), ih]
    omega
theorem index_of_miss (c : UInt8) : ∀ (l : List UInt8), (∀ j, j < l.length → l[j]? ≠ some c) → Lib.indexByte l c = -1
  | [], _ => rfl
  | b :: l, hj => by
    have h0 := hj 0 (by simp)
    simp at h0
    have ih := index_of_miss c l (fun j hj' => by have := hj (j + 1) (by simp; omega); simpa using this)
    unfold Lib.indexByte
    rw [if_neg (by simpa using h0), if_pos (by rw [ih]; rfl)]

theorem firstEq_any (s : ByteArray) (w : World) (hs : s.size ≤ 1048576) :
    Calls Try.prog 36 #[.string s] w fun e w' => e = .returned (.int .i64 (eqAt s)) ∧ w' = w := by
  go_enter Try.func36, Try.ntmps36
  go_wp2
  go_loop [3] (fun i => ∃ (k : Nat), i = .int .i64 k ∧ k ≤ s.size ∧ Hid (∀ j, j < k → s.data.toList[j]? ≠ some 61)) (fun i => s.size - (intOf i).toNat)
  case atStart => exact ⟨0, rfl, Nat.zero_le _, fun j hj => by omega⟩
  case round =>
    obtain ⟨k, rfl, hk, HK⟩ := hrel
    by_cases hlt : k < s.size
    · by_cases hb : s[k] = 61
      · have hb2 : ((s[k].toNat : Int) == 61) = true := by rw [hb]; rfl
        go_wp2
        go_ret
        refine ⟨?_, rfl⟩
        have : eqAt s = k := index_of_hit 61 _ k (by
          rw [Array.getElem?_toList, Array.getElem?_eq_getElem (by exact hlt)]; exact congrArg some hb) HK.out
        rw [this]; rfl
      · have hb2 : ((s[k].toNat : Int) == 61) = false := by
          rw [beq_eq_false_iff_ne]
          intro h
          exact hb (UInt8.toNat_inj.1 (by have : (61 : UInt8).toNat = 61 := rfl; omega))
        go_wp2
        go_round
        case rel =>
          refine ⟨k + 1, by go_num, by omega, fun j hj => ?_⟩
          by_cases e : j = k
          · subst e
            rw [Array.getElem?_toList, Array.getElem?_eq_getElem (by exact hlt)]
            exact fun h => hb (Option.some.inj h)
          · exact HK.out j (by omega)
        case measure => simp [intOf]; omega
    · go_wp2
      go_ret
      refine ⟨?_, rfl⟩
      have : eqAt s = -1 := index_of_miss 61 _ (fun j hj => HK.out j (by
        have : s.data.toList.length = s.size := rfl
        omega))
      rw [this]; rfl

/-- The type that an option names. -/
def tyOf (s : ByteArray) : ByteArray := ⟨(Lib.trimPrefix s.data.toList [42, 46]).toArray⟩

/-- The defaults that name i names, or -1. -/
def refD (rf : List Int) (N i : Nat) : Int := if i < rf.length ∧ 0 ≤ rf.getD i 0 ∧ rf.getD i 0 < N then rf.getD i 0 else -1
def look (nm : List ByteArray) (rf : List Int) (N : Nat) (name : ByteArray) : Nat → Int
  | 0 => -1
  | k + 1 => if nm.getD k ByteArray.empty = name then refD rf N k else look nm rf N name k
theorem refD_range (rf : List Int) (N i : Nat) : refD rf N i = -1 ∨ (0 ≤ refD rf N i ∧ refD rf N i < N) := by
  unfold refD
  split
  · rename_i h; exact .inr h.2
  · exact .inl rfl
theorem look_range (nm : List ByteArray) (rf : List Int) (N : Nat) (name : ByteArray) : ∀ k, look nm rf N name k = -1 ∨ (0 ≤ look nm rf N name k ∧ look nm rf N name k < N)
  | 0 => .inl rfl
  | k + 1 => by
    unfold look
    split
    · exact refD_range rf N k
    · exact look_range nm rf N name k

theorem refAt_any (v : Value) (rf : List Int) (i N : Nat) (w : World) (B : Nat → Prop) (hv : IntsAt w B v rf) (hN : N ≤ 1048576) (hi : i ≤ 1048576) :
    Calls Try.prog 35 #[v, .int .i64 i, .int .i64 N] w fun e w' => e = .returned (.int .i64 (refD rf N i)) ∧ w' = w := by
  obtain ⟨a, c, rfl, hc, hn, hat⟩ := hv
  by_cases h1 : i < rf.length
  · obtain ⟨b, o, rfl, hb, hcell⟩ := hat (by omega)
    have hck : w.cell? ⟨b, o + i, none⟩ = some (.int .i64 (rf.getD i 0)) := hcell i h1
    clear hcell hat
    have HD : Hid (refD rf N i = if i < rf.length ∧ 0 ≤ rf.getD i 0 ∧ rf.getD i 0 < N then rf.getD i 0 else -1) := rfl
    generalize rf.getD i 0 = r at *
    generalize rf.length = n at *
    generalize refD rf N i = R at *
    by_cases h2 : r < 0
    · go_enter Try.func35, Try.ntmps35
      go_wp2
      go_ret
      exact ⟨by rw [HD.out, if_neg (by omega)]; rfl, rfl⟩
    · by_cases h3 : (N : Int) ≤ r
      · go_enter Try.func35, Try.ntmps35
        go_wp2
        go_ret
        exact ⟨by rw [HD.out, if_neg (by omega)]; rfl, rfl⟩
      · go_enter Try.func35, Try.ntmps35
        go_wp2
        go_ret
        exact ⟨by rw [HD.out, if_pos (by omega)]; rfl, rfl⟩
  · have HD : Hid (refD rf N i = -1) := by unfold refD; rw [if_neg (by omega)]; rfl
    clear hat
    generalize rf.length = n at *
    generalize refD rf N i = R at *
    go_enter Try.func35, Try.ntmps35
    go_wp2
    go_ret
    exact ⟨by rw [HD.out]; rfl, rfl⟩

theorem beq_list_true {a b : ByteArray} (h : a = b) : (a.toList == b.toList) = true := by subst h; simp
theorem beq_list_false {a b : ByteArray} (h : ¬ a = b) : (a.toList == b.toList) = false := by
  rw [beq_eq_false_iff_ne]
  intro e
  rw [ByteArray.toList_eq, ByteArray.toList_eq] at e
  obtain ⟨x⟩ := a
  obtain ⟨y⟩ := b
  exact h (by rw [show x = y from Array.toList_inj.1 e])

theorem lookup_any (v0 v1 : Value) (nm : List ByteArray) (rf : List Int) (name : ByteArray) (N : Nat) (w : World) (B : Nat → Prop) (h0 : StrsAt w B v0 nm) (h1 : IntsAt w B v1 rf) (hN : N ≤ 1048576) (hl : nm.length ≤ 1048576) :
    Calls Try.prog 37 #[v0, v1, .string name, .int .i64 N] w fun e w' => e = .returned (.int .i64 (look nm rf N name nm.length)) ∧ w' = w := by
  obtain ⟨a, c, rfl, hc, hn, hat⟩ := h0
  obtain ⟨a1, c1, rfl, hh1⟩ := h1
  have H1 : Hid (IntsAt w B (.slice a1 rf.length c1) rf) := ⟨_, _, rfl, hh1⟩
  clear hh1
  have HAT : Hid (At w B a nm.length nm.length (fun i => .string (nm.getD i ByteArray.empty))) := hat
  clear hat
  obtain ⟨n, hn'⟩ : ∃ n, n = nm.length := ⟨_, rfl⟩
  have HN : Hid (n = nm.length) := hn'
  rw [← hn'] at hc hn hl ⊢
  clear hn'
  generalize rf.length = n1 at *
  go_enter Try.func37, Try.ntmps37
  go_wp2
  go_loop [9, 10] (fun d i => ∃ (k : Nat), i = .int .i64 k ∧ k ≤ n ∧ d = .int .i64 (look nm rf N name k)) (fun _ i => n - (intOf i).toNat)
  case atStart => exact ⟨0, rfl, Nat.zero_le _, rfl⟩
  case round =>
    obtain ⟨k, rfl, hk, rfl⟩ := hrel
    by_cases hlt : k < n
    · obtain ⟨b, o, rfl, hb, hcell⟩ := HAT.out (by have := HN.out; omega)
      have hck : w.cell? ⟨b, o + k, none⟩ = some (.string (nm.getD k ByteArray.empty)) := hcell k (by have := HN.out; omega)
      clear hcell
      have HL : Hid (look nm rf N name (k + 1) = if nm.getD k ByteArray.empty = name then refD rf N k else look nm rf N name k) := rfl
      generalize hs : nm.getD k ByteArray.empty = s at *
      clear hs
      by_cases he : s = name
      · have he2 := beq_list_true he
        have HE : Hid (s = name) := he
        clear he
        go_wp2_with fail
        refine (refAt_any _ rf k N _ B H1.out hN (by omega)).mono ?_
        rintro e w' ⟨rfl, rfl⟩
        go_wp2_with fail
        go_round
        case rel => exact ⟨k + 1, by go_num, by omega, by rw [HL.out, if_pos HE.out]⟩
        case measure => simp [intOf]; omega
      · have he2 := beq_list_false he
        have HE : Hid (¬ s = name) := he
        clear he
        go_wp2_with fail
        go_round
        case rel => exact ⟨k + 1, by go_num, by omega, by rw [HL.out, if_neg HE.out]⟩
        case measure => simp [intOf]; omega
    · obtain rfl : k = n := by omega
      go_wp2_with fail
      go_ret
      exact ⟨rfl, rfl⟩

theorem byte_true {b : UInt8} {n : Nat} (h : b.toNat = n) : ((b.toNat : Int) == (n : Int)) = true := by rw [h]; simp
theorem byte_false {b : UInt8} {n : Nat} (h : ¬ b.toNat = n) : ((b.toNat : Int) == (n : Int)) = false := by
  rw [beq_eq_false_iff_ne]; omega

theorem ty_hit {s : ByteArray} (h : 2 ≤ s.size) (h0 : s[0].toNat = 42) (h1 : s[1].toNat = 46) : tyOf s = s.extract 2 s.size := by
  obtain ⟨⟨l⟩⟩ := s
  match l, h, h0, h1 with
  | a :: b :: r, h, h0, h1 =>
    have ea : a = 42 := UInt8.toNat_inj.1 h0
    have eb : b = 46 := UInt8.toNat_inj.1 h1
    subst ea eb
    unfold tyOf Lib.trimPrefix Lib.hasPrefix
    rw [if_pos (by simp)]
    apply ByteArray.ext
    simp [ByteArray.size]
theorem ty_miss {s : ByteArray} (h : ¬ ∃ r, s.data.toList = 42 :: 46 :: r) : tyOf s = s := by
  obtain ⟨⟨l⟩⟩ := s
  unfold tyOf Lib.trimPrefix Lib.hasPrefix
  rw [if_neg]
  intro hp
  apply h
  match l, hp with
  | [], hp => simp at hp
  | [a], hp => simp at hp
  | a :: b :: r, hp =>
    simp at hp
    exact ⟨r, by simp [hp.1, hp.2]⟩

theorem typeName_any (s : ByteArray) (w : World) (hs : s.size ≤ 1048576) :
    Calls Try.prog 38 #[.string s] w fun e w' => e = .returned (.string (tyOf s)) ∧ w' = w := by
  by_cases h2 : 2 ≤ s.size
  · by_cases h0 : s[0].toNat = 42
    · by_cases h1 : s[1].toNat = 46
      · have HT : Hid (tyOf s = s.extract 2 s.size) := ty_hit h2 h0 h1
        have e0 : ((s[0].toNat : Int) == 42) = true := byte_true h0
        have e1 : ((s[1].toNat : Int) == 46) = true := byte_true h1
        clear h0 h1
        go_enter Try.func38, Try.ntmps38
        go_wp2
        go_ret
        exact ⟨by rw [HT.out]; rfl, rfl⟩
      · have HT : Hid (tyOf s = s) := ty_miss (by
          rintro ⟨r, hr⟩
          apply h1
          obtain ⟨⟨l⟩⟩ := s
          subst hr; rfl)
        have e0 : ((s[0].toNat : Int) == 42) = true := byte_true h0
        have e1 : ((s[1].toNat : Int) == 46) = false := byte_false h1
        clear h0 h1
        go_enter Try.func38, Try.ntmps38
        go_wp2
        go_ret
        exact ⟨by rw [HT.out]; rfl, rfl⟩
    · have HT : Hid (tyOf s = s) := ty_miss (by
        rintro ⟨r, hr⟩
        apply h0
        obtain ⟨⟨l⟩⟩ := s
        subst hr; rfl)
      have e0 : ((s[0].toNat : Int) == 42) = false := byte_false h0
      clear h0
      go_enter Try.func38, Try.ntmps38
      go_wp2
      go_ret
      exact ⟨by rw [HT.out]; rfl, rfl⟩
  · have HT : Hid (tyOf s = s) := ty_miss (by
      rintro ⟨r, hr⟩
      have : s.size = s.data.toList.length := rfl
      rw [hr] at this
      simp at this; omega)
    go_enter Try.func38, Try.ntmps38
    go_wp2
    go_ret
    exact ⟨by rw [HT.out]; rfl, rfl⟩

theorem eqAt_range (s : ByteArray) : -1 ≤ eqAt s ∧ eqAt s < s.size := ⟨index_ge _ _, index_lt _ _⟩

def CutRes (s : ByteArray) (w : World) (e : Ending) (w' : World) : Prop :=
  ∃ k after n, e = .returned (.tuple #[.string k, .string after, .bool (decide (0 ≤ eqAt s))]) ∧ w' = w.drewN n ∧ k.size ≤ s.size ∧ (0 ≤ eqAt s → (k.size : Int) = eqAt s)

theorem cutl_any (s : ByteArray) (w : World) (hs : s.size ≤ 1048576) : Calls Try.prog 62 #[.string s, .string ⟨#[61]⟩] w fun e w' => CutRes s w e w' := by
  have HC : Hid (∀ w, Calls Try.prog 63 #[.string s, .string ⟨#[61]⟩] w fun e w' => e = .returned (.int .i64 (eqAt s)) ∧ w' = w) := fun w => Try.stringslite_Index_one s 61 w
  obtain ⟨hr0, hr1⟩ := eqAt_range s
  have HR : Hid (∀ k after n (w' : World) e, e = .returned (.tuple #[.string k, .string after, .bool (decide (0 ≤ eqAt s))]) → w' = w.drewN n → k.size ≤ s.size → (0 ≤ eqAt s → (k.size : Int) = eqAt s) → CutRes s w e w') := fun k after n w' e h1 h2 h3 h4 => ⟨k, after, n, h1, h2, h3, h4⟩
  generalize eqAt s = i at *
  go_enter Try.func62, Try.ntmps62
  go_wp2_with fail
  refine (HC.out _).mono ?_
  rintro e w' ⟨rfl, rfl⟩
  by_cases h : 0 ≤ i
  · obtain ⟨k, rfl⟩ : ∃ k : Nat, i = k := ⟨i.toNat, by omega⟩
    go_wp2_with fail
    go_quiet (fail)
    go_wp2
    refine bodyPost_ret (results_tmp3 rfl _ _ _) rfl ?_
    refine HR.out (s.extract 0 k) (s.extract (k + 1) s.size) _ _ _ ?_ rfl ?_ ?_
    · simp [h]
    · simp; omega
    · intro _; simp; omega
  · go_wp2_with fail
    refine bodyPost_ret (results_tmp3 rfl _ _ _) rfl ?_
    refine HR.out s ⟨#[]⟩ 0 _ _ ?_ rfl (Nat.le_refl _) (fun h' => by omega)
    simp; omega

theorem cut_any (s : ByteArray) (w : World) (hs : s.size ≤ 1048576) : Calls Try.prog 57 #[.string s, .string ⟨#[61]⟩] w fun e w' => CutRes s w e w' := by
  go_enter Try.func57, Try.ntmps57
  go_wp2_with fail
  refine (cutl_any s _ hs).mono ?_
  rintro e w' ⟨k, after, n, rfl, rfl, h1, h2⟩
  have H1 : Hid (k.size ≤ s.size ∧ (0 ≤ eqAt s → (k.size : Int) = eqAt s)) := ⟨h1, h2⟩
  clear h1 h2
  generalize hb : decide (0 ≤ eqAt s) = b at *
  have HB : Hid (decide (0 ≤ eqAt s) = b) := hb
  clear hb
  go_wp2_with fail
  refine bodyPost_ret (results_tmp3 rfl _ _ _) rfl ?_
  exact ⟨k, after, n, by rw [HB.out]; rfl, rfl, H1.out.1, H1.out.2⟩

def KeyRes (s : ByteArray) (w : World) (e : Ending) (w' : World) : Prop :=
  ∃ k n, e = .returned (.tuple #[.string k, .bool (decide (0 < eqAt s))]) ∧ w' = w.drewN n ∧ k.size ≤ s.size

theorem key_any (s : ByteArray) (w : World) (hs : s.size ≤ 1048576) : Calls Try.prog 50 #[.string s] w fun e w' => KeyRes s w e w' := by
  go_enter Try.func50, Try.ntmps50
  go_wp2_with fail
  refine (cut_any s _ hs).mono ?_
  rintro e w' ⟨k, after, n, rfl, rfl, h1, h2⟩
  have HS : Hid (k.size ≤ s.size) := h1
  clear h1
  have HR : Hid (∀ (b : Bool) (e : Ending), decide (0 < eqAt s) = b → e = .returned (.tuple #[.string k, .bool b]) → KeyRes s w e (w.drewN n)) := fun b e hb he => ⟨k, n, by rw [hb]; exact he, rfl, HS.out⟩
  generalize eqAt s = i at *
  by_cases h : 0 ≤ i
  · by_cases h0 : i = 0
    · have hk0 : k = ⟨#[]⟩ := by
        have := h2 h
        obtain ⟨x⟩ := k
        have h3 : x.size = 0 := by have : (x.size : Int) = i := this; omega
        rw [Array.size_eq_zero_iff.1 h3]
      subst hk0
      have hb : decide (0 ≤ i) = true := by simp [h]
      have hbb : decide (0 < i) = false := by simp; omega
      clear h2
      go_wp2_with fail
      go_ret2
      exact HR.out false _ hbb rfl
    · have hk0 : (k.toList == []) = false := by
        rw [ByteArray.toList_eq]
        cases hx : k.data.toList with
        | nil =>
          have h4 : k.size = 0 := by show k.data.toList.length = 0; rw [hx]; rfl
          have := h2 h
          omega
        | cons a l => rfl
      have hb : decide (0 ≤ i) = true := by simp [h]
      have hbb : decide (0 < i) = true := by simp; omega
      clear h2
      go_wp2_with fail
      go_ret2
      exact HR.out true _ hbb rfl
  · have hb : decide (0 ≤ i) = false := by simp; omega
    have hbb : decide (0 < i) = false := by simp; omega
    clear h2
    go_wp2_with fail
    go_ret2
    exact HR.out false _ hbb rfl
end Go.Proofs.Qxb6603470a
