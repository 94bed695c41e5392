/-
  THE WALK of expand (39), ZZExpand (23).
-/
import Derived.Test.Qxb6603470aFull
import Derived.Deep.Cut
namespace Go.Proofs.Qxb6603470a
open Go.RowKit
set_option linter.unusedVariables false
set_option linter.unusedSimpArgs false

theorem ownsRow_same {w w' : World} {base : Nat} {e : TypeId} {size : Nat} {v : Value} {n : Nat} {xs : List Value} (h : w.ownsRow base e size v n xs) (hb : ∀ k, v.ownBlock = some k → w'.heap[k]? = w.heap[k]?) : w'.ownsRow base e size v n xs := by
  obtain ⟨h1, h2⟩ := h
  refine ⟨h1, ?_⟩
  rcases h2 with h2 | ⟨g, cap, cur, rfl, hg, hh, q⟩
  · exact .inl h2
  · exact .inr ⟨g, cap, cur, rfl, hg, (hb g rfl).trans hh, q⟩
theorem one89 (a b : ByteArray) (c : Option Addr) (d : Int) : ∀ u ∈ [Value.string a, .string b, .pointer c, .int .i64 d], u.oneCell' = true := by
  intro u hu
  simp at hu
  rcases hu with rfl | rfl | rfl | rfl <;> rfl

/-- What expand puts for an option. -/
def ExpP (nm : List ByteArray) (rf : List Int) (T : List (List (List SP))) (opt : ByteArray) (G : List SP) : Prop :=
  (0 < eqAt opt ∧ ∃ q, G = [⟨opt, q, -1, 0⟩]) ∨
  (¬ 0 < eqAt opt ∧ ((look nm rf T.length (tyOf opt) nm.length < 0 ∧ G = []) ∨
    ∃ d : Nat, look nm rf T.length (tyOf opt) nm.length = d ∧ d < T.length ∧ (((T.getD d []).length = 0 ∧ G = []) ∨
      (∃ p, T.getD d [] = [[p]] ∧ hasR T.length p = true ∧ G = [p]) ∨ ((T.getD d []).length ≠ 0 ∧ G = [⟨⟨#[]⟩, ⟨#[]⟩, d, (T.getD d []).length⟩]))))
inductive ExpTo (nm : List ByteArray) (rf : List Int) (T : List (List (List SP))) : List ByteArray → List SP → Prop
  | nil : ExpTo nm rf T [] []
  | snoc {l : List ByteArray} {F G : List SP} {opt : ByteArray} : ExpTo nm rf T l F → ExpP nm rf T opt G → ExpTo nm rf T (l ++ [opt]) (F ++ G)

/-- The pieces so far. -/
def XSoFar (nm : List ByteArray) (rf : List Int) (T : List (List (List SP))) (N : Nat) (P : Nat → Nat) (l : List ByteArray) (m : Nat) (cells : List Value) : Prop := ∃ F, ExpTo nm rf T l F ∧ SoFar (bc N P) F m cells
theorem XSoFar.skip {nm : List ByteArray} {rf : List Int} {T : List (List (List SP))} {N : Nat} {P : Nat → Nat} {l : List ByteArray} {m : Nat} {cells : List Value} (h : XSoFar nm rf T N P l m cells) {opt : ByteArray} (he : ExpP nm rf T opt []) :
    XSoFar nm rf T N P (l ++ [opt]) m cells := by
  obtain ⟨F, h1, h2⟩ := h
  exact ⟨F ++ [], h1.snoc he, by rw [List.append_nil]; exact h2⟩
theorem XSoFar.put {nm : List ByteArray} {rf : List Int} {T : List (List (List SP))} {N : Nat} {P : Nat → Nat} {l : List ByteArray} {m : Nat} {cells : List Value} (h : XSoFar nm rf T N P l m cells) {opt : ByteArray} {p : SP} (he : ExpP nm rf T opt [p]) :
    XSoFar nm rf T N P (l ++ [opt]) (m + 1) (cells ++ [bc N P p 0, bc N P p 1, bc N P p 2, bc N P p 3]) := by
  obtain ⟨F, h1, h2⟩ := h
  exact ⟨F ++ [p], h1.snoc he, h2.snoc p⟩
def ExpRes (nm : List ByteArray) (rf : List Int) (T : List (List (List SP))) (N : Nat) (P : Nat → Nat) (op : List ByteArray) (w : World) (e : Ending) (w' : World) : Prop :=
  Below w.heap.size w w' ∧ ∃ v F, e = .returned v ∧ ExpTo nm rf T op F ∧ PcsAt (bc N P) w' (fun b => w.heap.size ≤ b ∧ b < w'.heap.size) v F

theorem tyOf_size {s : ByteArray} (h : s.size ≤ 1048576) : (tyOf s).size ≤ 1048576 := by
  have h2 : s.data.toList.length ≤ 1048576 := h
  show (Lib.trimPrefix s.data.toList [42, 46]).toArray.size ≤ 1048576
  unfold Lib.trimPrefix
  split
  · rw [List.size_toArray, List.length_drop]; omega
  · simpa using h2
theorem trim_any (s : ByteArray) (w : World) : Calls Try.prog 52 #[.string s, .string ⟨#[42, 46]⟩] w fun e w' => e = .returned (.string (tyOf s)) ∧ w' = w := Try.strings_TrimPrefix s ⟨#[42, 46]⟩ w
theorem dot_any (s : ByteArray) (w : World) : Calls Try.prog 51 #[.string s, .string ⟨#[46]⟩] w fun e w' => (∃ b, e = .returned (.bool b)) ∧ w' = w := by
  refine (Try.strings_Contains_one s 46 w).mono ?_
  rintro e w' ⟨rfl, rfl⟩
  exact ⟨⟨_, rfl⟩, rfl⟩

set_option maxRecDepth 100000 in
set_option maxHeartbeats 4000000 in
theorem expand_any (v0 : Value) (ty : ByteArray) (mb : Nat) (op nm : List ByteArray) (rf : List Int) (T : List (List (List SP))) (P : Nat → Nat) (w : World) (h0 : StrsAt w (· < w.heap.size) v0 op) (hty : ty.size ≤ 1048576)
    (hmap : TypesAt w mb nm rf T.length P) (hmb : mb < w.heap.size) (htb : TblAt w (· < w.heap.size) T.length P T) (f0 : StrsFit op) (f3 : TabFit T) :
    Calls Try.prog 39 #[v0, .string ty, .map (some mb)] w fun e w' => ExpRes nm rf T T.length P op w e w' := by
  obtain ⟨a, c, rfl, hc, hn, hat⟩ := h0
  have HAT : Hid (At w (· < w.heap.size) a op.length op.length (fun i => .string (op.getD i ByteArray.empty))) := hat
  have HM : Hid (TypesAt w mb nm rf T.length P) := hmap
  have HTB : Hid (TblAt w (· < w.heap.size) T.length P T) := htb
  have HF : Hid (StrsFit op ∧ TabFit T) := ⟨f0, f3⟩
  have hl := f0.1
  have hl3 := f3.1
  clear hat hmap htb f0 f3
  obtain ⟨n, hn'⟩ : ∃ n, n = op.length := ⟨_, rfl⟩
  have HN : Hid (n = op.length) := hn'
  rw [← hn'] at hc hn hl ⊢
  clear hn'
  obtain ⟨i89, hi5, hz0, hz1, hz2⟩ := info_parts info89
  go_enter Try.func39, Try.ntmps39
  go_wp2_with fail
  go_loopw [7, 9, 10, 11, 12, 13, 16] (fun v _ _ _ _ _ i wr => ∃ (k m : Nat) (cells : List Value), i = .int .i64 k ∧ k ≤ n ∧ m ≤ k ∧ Below w.heap.size w wr ∧ wr.ownsRow w.heap.size 89 4 v m cells ∧ Hid (XSoFar nm rf T T.length P (op.take k) m cells)) (fun _ _ _ _ _ _ i _ => n - (intOf i).toNat)
  case atStart => exact ⟨0, 0, [], rfl, Nat.zero_le _, Nat.le_refl _, Below.refl _ _, World.ownsRow_nil _ _ _ _, [], .nil, rfl, rfl⟩
  case round =>
    obtain ⟨k, m, cells, rfl, hk, hm, hbl, hown, HS⟩ := hrel
    by_cases hlt : k < n
    rotate_left
    · obtain rfl : k = n := by omega
      go_wp2_with fail
      go_ret
      obtain ⟨F, x1, e1, e2⟩ := HS.out
      refine ⟨hbl, _, F, rfl, ?_, own_pcs (e := 89) ?_ (by omega)⟩
      · rw [List.take_of_length_le (by have := HN.out; omega)] at x1; exact x1
      · rw [e1, ← e2]
        exact hown
    obtain ⟨b, o, rfl, hb, hcell⟩ := HAT.out (by have := HN.out; omega)
    have hck : wr.cell? ⟨b, o + k, none⟩ = some (.string (op.getD k ByteArray.empty)) := (hbl.cell (p := ⟨b, o + k, none⟩) hb).trans (hcell k (by have := HN.out; omega))
    clear hcell
    have hss : (op.getD k ByteArray.empty).size ≤ 1048576 := HF.out.1.2 k (by have := HN.out; omega)
    have HTK : Hid (op.take (k + 1) = op.take k ++ [op.getD k ByteArray.empty]) := take_snoc (by have := HN.out; omega)
    generalize op.getD k ByteArray.empty = s at *
    go_wp2_with fail
    refine (key_any s _ hss).mono ?_
    rintro e w1 ⟨key, x, rfl, hw, hkey⟩
    have hbl1 : Below w.heap.size w w1 := by rw [hw]; exact below_drewN hbl x
    have hown1 : w1.ownsRow w.heap.size 89 4 u7 m cells := by rw [hw]; exact hown
    clear hw hbl hown hck
    have hsz := hbl1.size
    by_cases hq : 0 < eqAt s
    · have hqd : decide (0 < eqAt s) = true := by simp [hq]
      rw [hqd]
      clear hqd
      have HX : Hid (∀ q, XSoFar nm rf T T.length P (op.take (k + 1)) (m + 1) (cells ++ [.string s, .string q, .pointer none, .int .i64 0])) := fun q => by
        rw [HTK.out]; exact HS.out.put (p := ⟨s, q, -1, 0⟩) (.inl ⟨hq, q, rfl⟩)
      clear hq HS
      go_wp2_with fail
      have hpb : BlockAt (w1.alloc (.cells #[.string s, .string s, .pointer none, .int .i64 0] 89)) w1.heap.size 89 [.string s, .string s, .pointer none, .int .i64 0] := heap_alloc_new w1 _
      have hbl3 := hbl1.alloc hsz (.cells #[.string s, .string s, .pointer none, .int .i64 0] 89)
      have hown3 := hown1.alloc (.cells #[.string s, .string s, .pointer none, .int .i64 0] 89)
      have hob : ∀ g, u7.ownBlock = some g → w.heap.size ≤ g ∧ g < w1.heap.size := hown1.lt
      have hpl : w.heap.size ≤ w1.heap.size := hsz
      generalize w1.alloc (.cells #[.string s, .string s, .pointer none, .int .i64 0] 89) = w3 at *
      generalize w1.heap.size = pb at *
      clear hbl1 hown1 hsz
      refine (dot_any key _).mono ?_
      rintro e w4 ⟨⟨bb, rfl⟩, hw4⟩
      rw [hw4]
      clear hw4
      have hsz3 := hbl3.size
      cases bb
      · have c0 := hpb.cell 0 rfl
        have c1 := hpb.cell 1 rfl
        have c2 := hpb.cell 2 rfl
        have c3 := hpb.cell 3 rfl
        have f1 := hpb.free 1
        go_upto_region 10 with fail
        have hpq := hpb.set 1 (.string (key ++ ⟨#[46]⟩ ++ ty ++ s.extract key.size s.size))
        have hbl4 := hbl3.setCell (p := ⟨pb, 1, none⟩) (by exact hpl) (.string (key ++ ⟨#[46]⟩ ++ ty ++ s.extract key.size s.size))
        have hown4 : (w3.setCell ⟨pb, 1, none⟩ (.string (key ++ ⟨#[46]⟩ ++ ty ++ s.extract key.size s.size))).ownsRow w.heap.size 89 4 u7 m cells :=
          ownsRow_same hown3 (fun g hg => Below.heap_setCell _ _ _ _ (by have := (hob g hg).2; show g ≠ pb; omega))
        generalize key ++ ⟨#[46]⟩ ++ ty ++ s.extract key.size s.size = Q at *
        generalize w3.setCell ⟨pb, 1, none⟩ (.string Q) = w4 at *
        clear c0 c1 c2 c3 f1 hbl3 hown3 hpb hsz3
        have hsz4 := hbl4.size
        have c0 := hpq.cell 0 rfl
        have c1 := hpq.cell 1 rfl
        have c2 := hpq.cell 2 rfl
        have c3 := hpq.cell 3 rfl
        go_wp2_with (at_builtin; refine wpList_append_own_at _ rfl (.tmp 42) (.tmp 44) 47 rfl w.heap.size 89 i89 (.agg #[.string ⟨#[]⟩, .string ⟨#[]⟩, .pointer none, .int .i64 0]) 4 48 Try.underlying47 hi5 hz0 hz1 hz2 rfl (by decide) _ _ _ rfl (hown4.alloc _) _ 1 1 [.string s, .string Q, .pointer none, .int .i64 0] rfl rfl (cell_four_new _ _ _ _ _ _) (one89 _ _ _ _) (by unfold maxLen; omega) (by omega) (by simp; omega) ?_; intro v' w5 hown5 hgrow hnil hloc; clear hnil hloc)
        have hbl5 := (hbl4.alloc hsz4 _).grown hgrow (by simp; omega) (fun j hj => (hob j hj).1)
        have HX2 := HX.out Q
        clear HX hgrow hown4 hbl4 hpq c0 c1 c2 c3
        have HX : Hid _ := HX2
        clear HX2
        go_wp2_with fail
        go_roundw
        case rel => exact ⟨k + 1, m + 1, _, by go_num, by omega, by omega, hbl5, hown5, HX⟩
        case measure => simp [intOf]; omega
      · have c0 := hpb.cell 0 rfl
        have c1 := hpb.cell 1 rfl
        have c2 := hpb.cell 2 rfl
        have c3 := hpb.cell 3 rfl
        go_wp2_with (at_builtin; refine wpList_append_own_at _ rfl (.tmp 42) (.tmp 44) 47 rfl w.heap.size 89 i89 (.agg #[.string ⟨#[]⟩, .string ⟨#[]⟩, .pointer none, .int .i64 0]) 4 48 Try.underlying47 hi5 hz0 hz1 hz2 rfl (by decide) _ _ _ rfl (hown3.alloc _) _ 1 1 [.string s, .string s, .pointer none, .int .i64 0] rfl rfl (cell_four_new _ _ _ _ _ _) (one89 _ _ _ _) (by unfold maxLen; omega) (by omega) (by simp; omega) ?_; intro v' w5 hown5 hgrow hnil hloc; clear hnil hloc)
        have hbl5 := (hbl3.alloc hsz3 _).grown hgrow (by simp; omega) (fun j hj => (hob j hj).1)
        have HX2 := HX.out s
        clear HX hgrow hown3 hbl3 hpb c0 c1 c2 c3
        have HX : Hid _ := HX2
        clear HX2
        go_wp2_with fail
        go_roundw
        case rel => exact ⟨k + 1, m + 1, _, by go_num, by omega, by omega, hbl5, hown5, HX⟩
        case measure => simp [intOf]; omega
    · have hqd : decide (0 < eqAt s) = false := by simp; omega
      rw [hqd]
      clear hqd
      have hqn : ¬ 0 < eqAt s := hq
      have HQ : Hid (¬ 0 < eqAt s) := hqn
      clear hq hqn
      go_wp2_with fail
      refine (trim_any s _).mono ?_
      rintro e w4 ⟨rfl, hw4⟩
      rw [hw4]
      clear hw4
      have hts : (tyOf s).size ≤ 1048576 := tyOf_size hss
      have hlk := (HM.out.next (hbl1.block mb hmb)).lookup (tyOf s) hts
      have HRG : Hid (look nm rf T.length (tyOf s) nm.length = -1 ∨ _) := look_range nm rf T.length (tyOf s) nm.length
      by_cases hneg : look nm rf T.length (tyOf s) nm.length < 0
      · rw [if_pos hneg] at hlk
        have HX : Hid (XSoFar nm rf T T.length P (op.take (k + 1)) m cells) := by
          rw [HTK.out]; exact HS.out.skip (.inr ⟨Int.not_lt.2 (by have := HQ.out; omega), .inl ⟨hneg, rfl⟩⟩)
        clear hneg HRG
        go_wp2_with fail
        go_roundw
        case rel => exact ⟨k + 1, m, _, by go_num, by omega, by omega, hbl1, hown1, HX⟩
        case measure => simp [intOf]; omega
      rw [if_neg hneg] at hlk
      obtain ⟨d, hd, hdN⟩ : ∃ d : Nat, look nm rf T.length (tyOf s) nm.length = d ∧ d < T.length := by
        rcases HRG.out with h | ⟨h1, h2⟩
        · omega
        · exact ⟨(look nm rf T.length (tyOf s) nm.length).toNat, by omega, by omega⟩
      have HD : Hid (look nm rf T.length (tyOf s) nm.length = d) := hd
      rw [hd] at hlk
      simp only [Int.toNat_natCast] at hlk
      clear hneg HRG hd
      obtain ⟨hPd, vd, hcd, hld⟩ := HTB.out d hdN
      have hld1 := hld.next (Same.of_below hbl1 (fun b h => h)) (B' := (· < w1.heap.size)) (fun b h => Nat.lt_of_lt_of_le h hbl1.size)
      have hcd1 := (hbl1.cell (p := ⟨P d, 0, none⟩) hPd).trans hcd
      clear hld hcd hPd
      obtain ⟨aD, cD, VD, rfl, hnD, hatD, helD⟩ := lns_shape hld1
      clear hld1
      have HATD : Hid (At w1 (· < w1.heap.size) aD (T.getD d []).length (T.getD d []).length VD) := hatD
      have HELD : Hid (∀ j, j < (T.getD d []).length → PcsAt (bc T.length P) w1 (· < w1.heap.size) (VD j) ((T.getD d []).getD j [])) := helD
      clear hatD helD
      have hfD : (T.getD d []).length ≤ 1048576 := (HF.out.2.2 d hdN).1
      have HXS : Hid (∀ G, (((T.getD d []).length = 0 ∧ G = []) ∨ (∃ p, T.getD d [] = [[p]] ∧ hasR T.length p = true ∧ G = [p]) ∨ ((T.getD d []).length ≠ 0 ∧ G = [⟨⟨#[]⟩, ⟨#[]⟩, d, (T.getD d []).length⟩])) → ExpP nm rf T s G) :=
        fun G h => .inr ⟨Int.not_lt.2 (by have := HQ.out; omega), .inr ⟨d, HD.out, hdN, h⟩⟩
      have HPT : Hid (ptrOf T.length P ⟨⟨#[]⟩, ⟨#[]⟩, d, (T.getD d []).length⟩ = some ⟨P d, 0, none⟩) := by
        unfold ptrOf
        rw [if_pos (by rw [hasR, decide_eq_true_iff]; dsimp only; omega)]
        rfl
      generalize hLd : T.getD d [] = Ld at *
      have HLd : Hid (T.getD d [] = Ld) := hLd
      clear hLd
      obtain ⟨nD, hnD'⟩ : ∃ n, n = Ld.length := ⟨_, rfl⟩
      have HND : Hid (nD = Ld.length) := hnD'
      rw [← hnD'] at hcd1 hnD hfD
      clear hnD'
      by_cases hz : nD = 0
      · subst hz
        have HX : Hid (XSoFar nm rf T T.length P (op.take (k + 1)) m cells) := by
          rw [HTK.out]; exact HS.out.skip (HXS.out [] (.inl ⟨HND.out.symm, rfl⟩))
        go_wp2_with fail
        go_roundw
        case rel => exact ⟨k + 1, m, _, by go_num, by omega, by omega, hbl1, hown1, HX⟩
        case measure => simp [intOf]; omega
      have hzb : ((nD : Int) == 0) = false := by simp; omega
      have HX : Hid (XSoFar nm rf T T.length P (op.take (k + 1)) (m + 1) (cells ++ [.string ⟨#[]⟩, .string ⟨#[]⟩, .pointer (some ⟨P d, 0, none⟩), .int .i64 nD])) := by
        rw [HTK.out]
        have := HS.out.put (HXS.out _ (.inr (.inr ⟨by have := HND.out; omega, rfl⟩)))
        simp only [bc, HPT.out] at this
        rw [HND.out]
        exact this
      by_cases h1 : nD = 1
      rotate_left
      · have h1b : ((nD : Int) == 1) = false := by simp; omega
        go_wp2_with (at_builtin; refine wpList_append_own_at _ rfl (.tmp 50) (.tmp 58) 47 rfl w.heap.size 89 i89 (.agg #[.string ⟨#[]⟩, .string ⟨#[]⟩, .pointer none, .int .i64 0]) 4 48 Try.underlying47 hi5 hz0 hz1 hz2 rfl (by decide) _ _ _ rfl (hown1.alloc _) _ 1 1 [.string ⟨#[]⟩, .string ⟨#[]⟩, .pointer (some ⟨P d, 0, none⟩), .int .i64 nD] rfl rfl (cell_four_new _ _ _ _ _ _) (one89 _ _ _ _) (by unfold maxLen; omega) (by omega) (by simp; omega) ?_; intro v' w5 hown5 hgrow hnil hloc; clear hnil hloc)
        have hbl5 := (hbl1.alloc hsz _).grown hgrow (by simp; omega) (fun j hj => (hown1.lt j hj).1)
        clear hgrow hown1 hbl1
        go_wp2_with fail
        go_roundw
        case rel => exact ⟨k + 1, m + 1, _, by go_num, by omega, by omega, hbl5, hown5, HX⟩
        case measure => simp [intOf]; omega
      subst h1
      obtain ⟨bD, oD, rfl, hbD, hcD⟩ := HATD.out (by have := HND.out; omega)
      have hc0 := hcD 0 (by have := HND.out; omega)
      rw [Nat.add_zero] at hc0
      clear hcD
      obtain ⟨aL, cL, hVL, hnL, hatL⟩ := pcs_shape (HELD.out 0 (by have := HND.out; omega))
      rw [hVL] at hc0
      clear hVL
      generalize hL0 : Ld.getD 0 [] = L0 at *
      have HL0 : Hid (Ld.getD 0 [] = L0) := hL0
      have HATL : Hid (At w1 (· < w1.heap.size) aL L0.length (L0.length * 4) (fun i => bc T.length P (L0.getD (i / 4) default) (i % 4))) := hatL
      clear hL0 hatL
      obtain ⟨nL, hnL'⟩ : ∃ n, n = L0.length := ⟨_, rfl⟩
      have HNL : Hid (nL = L0.length) := hnL'
      rw [← hnL'] at hc0 hnL
      clear hnL'
      by_cases h2 : nL = 1
      rotate_left
      · have h2b : ((nL : Int) == 1) = false := by simp; omega
        go_wp2_with (at_builtin; refine wpList_append_own_at _ rfl (.tmp 50) (.tmp 58) 47 rfl w.heap.size 89 i89 (.agg #[.string ⟨#[]⟩, .string ⟨#[]⟩, .pointer none, .int .i64 0]) 4 48 Try.underlying47 hi5 hz0 hz1 hz2 rfl (by decide) _ _ _ rfl (hown1.alloc _) _ 1 1 [.string ⟨#[]⟩, .string ⟨#[]⟩, .pointer (some ⟨P d, 0, none⟩), .int .i64 1] rfl rfl (cell_four_new _ _ _ _ _ _) (one89 _ _ _ _) (by unfold maxLen; omega) (by omega) (by simp; omega) ?_; intro v' w5 hown5 hgrow hnil hloc; clear hnil hloc)
        have hbl5 := (hbl1.alloc hsz _).grown hgrow (by simp; omega) (fun j hj => (hown1.lt j hj).1)
        clear hgrow hown1 hbl1
        go_wp2_with fail
        go_roundw
        case rel => exact ⟨k + 1, m + 1, _, by go_num, by omega, by omega, hbl5, hown5, HX⟩
        case measure => simp [intOf]; omega
      subst h2
      obtain ⟨bL, oL, rfl, hbL, hcL⟩ := HATL.out (by have := HNL.out; omega)
      obtain ⟨d0, d1, d2, d3⟩ := at4 (a := none) (n := 0) (k := 0) (by have := HNL.out; omega) hcL
      clear hcL
      rw [Nat.zero_mul, Nat.add_zero] at d0 d1 d2 d3
      generalize hp : L0.getD 0 default = p at *
      have HP : Hid (L0.getD 0 default = p) := hp
      clear hp
      simp only [bc] at d0 d1 d2 d3
      have HPP : Hid (ptrOf T.length P p = if hasR T.length p then some ⟨P p.r.toNat, 0, none⟩ else none) := rfl
      cases hpt : ptrOf T.length P p with
      | none =>
        rw [hpt] at d2
        clear hpt
        go_wp2_with (at_builtin; refine wpList_append_own_at _ rfl (.tmp 50) (.tmp 58) 47 rfl w.heap.size 89 i89 (.agg #[.string ⟨#[]⟩, .string ⟨#[]⟩, .pointer none, .int .i64 0]) 4 48 Try.underlying47 hi5 hz0 hz1 hz2 rfl (by decide) _ _ _ rfl (hown1.alloc _) _ 1 1 [.string ⟨#[]⟩, .string ⟨#[]⟩, .pointer (some ⟨P d, 0, none⟩), .int .i64 1] rfl rfl (cell_four_new _ _ _ _ _ _) (one89 _ _ _ _) (by unfold maxLen; omega) (by omega) (by simp; omega) ?_; intro v' w5 hown5 hgrow hnil hloc; clear hnil hloc)
        have hbl5 := (hbl1.alloc hsz _).grown hgrow (by simp; omega) (fun j hj => (hown1.lt j hj).1)
        clear hgrow hown1 hbl1
        go_wp2_with fail
        go_roundw
        case rel => exact ⟨k + 1, m + 1, _, by go_num, by omega, by omega, hbl5, hown5, HX⟩
        case measure => simp [intOf]; omega
      | some pa =>
        rw [hpt] at d2
        have HHR : Hid (hasR T.length p = true) := by
          have h3 := HPP.out
          rw [hpt] at h3
          cases hh : hasR T.length p
          · rw [hh] at h3; cases h3
          · rfl
        have HX2 : Hid (XSoFar nm rf T T.length P (op.take (k + 1)) (m + 1) (cells ++ [.string p.o, .string p.q, .pointer (some pa), .int .i64 p.n])) := by
          rw [HTK.out]
          have hLd1 : Ld = [[p]] := by
            obtain ⟨x, hx⟩ := List.length_eq_one_iff.1 HND.out.symm
            have h4 := HL0.out
            rw [hx] at h4
            obtain rfl : x = L0 := h4
            obtain ⟨y, hy⟩ := List.length_eq_one_iff.1 HNL.out.symm
            have h5 := HP.out
            rw [hy] at h5
            obtain rfl : y = p := h5
            rw [hx, hy]
          have := HS.out.put (HXS.out [p] (.inr (.inl ⟨p, hLd1, HHR.out, rfl⟩)))
          simp only [bc, hpt] at this
          exact this
        clear hpt HX HPP
        generalize p.o = po at *
        generalize p.q = pq at *
        generalize p.n = pn at *
        go_wp2_with (at_builtin; refine wpList_append_own_at _ rfl (.tmp 100) (.tmp 109) 47 rfl w.heap.size 89 i89 (.agg #[.string ⟨#[]⟩, .string ⟨#[]⟩, .pointer none, .int .i64 0]) 4 48 Try.underlying47 hi5 hz0 hz1 hz2 rfl (by decide) _ _ _ rfl (hown1.alloc _) _ 1 1 [.string po, .string pq, .pointer (some pa), .int .i64 pn] rfl rfl (cell_four_new _ _ _ _ _ _) (one89 _ _ _ _) (by unfold maxLen; omega) (by omega) (by simp; omega) ?_; intro v' w5 hown5 hgrow hnil hloc; clear hnil hloc)
        have hbl5 := (hbl1.alloc hsz _).grown hgrow (by simp; omega) (fun j hj => (hown1.lt j hj).1)
        clear hgrow hown1 hbl1
        go_wp2_with fail
        go_roundw
        case rel => exact ⟨k + 1, m + 1, _, by go_num, by omega, by omega, hbl5, hown5, HX2⟩
        case measure => simp [intOf]; omega
end Go.Proofs.Qxb6603470a
