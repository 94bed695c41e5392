/-
  THE WALK of fullLine (22).
-/
import Derived.Test.Qxb6603470aTypes
import Derived.Maps.AppendAt
namespace Go.Proofs.Qxb6603470a
open Go.RowKit
set_option linter.unusedVariables false
set_option linter.unusedSimpArgs false

/-- The cells of a row of pieces. -/
def pcs4 (g : SP → Nat → Value) (L : List SP) : List Value := L.flatMap (fun p => [g p 0, g p 1, g p 2, g p 3])
theorem pcs4_len (g : SP → Nat → Value) : ∀ L : List SP, (pcs4 g L).length = L.length * 4
  | [] => rfl
  | p :: L => by
    have := pcs4_len g L
    unfold pcs4 at this ⊢
    rw [List.flatMap_cons, List.length_append, this, List.length_cons]
    simp only [List.length_cons, List.length_nil]
    omega
theorem pcs4_snoc (g : SP → Nat → Value) (L : List SP) (p : SP) : pcs4 g (L ++ [p]) = pcs4 g L ++ [g p 0, g p 1, g p 2, g p 3] := by
  unfold pcs4; rw [List.flatMap_append]; rfl
theorem pcs4_get (g : SP → Nat → Value) : ∀ (L : List SP) (i : Nat), i < L.length * 4 → (pcs4 g L)[i]? = some (g (L.getD (i / 4) default) (i % 4))
  | [], i, h => by simp at h
  | p :: L, i, h => by
    unfold pcs4
    rw [List.flatMap_cons]
    by_cases h4 : i < 4
    · rw [List.getElem?_append_left (by simpa using h4), show i / 4 = 0 by omega, show i % 4 = i by omega]
      match i, h4 with
      | 0, _ => rfl
      | 1, _ => rfl
      | 2, _ => rfl
      | 3, _ => rfl
    · rw [List.getElem?_append_right (by simp; omega)]
      have := pcs4_get g L (i - 4) (by simp at h; omega)
      unfold pcs4 at this
      simp only [List.length_cons, List.length_nil]
      rw [this, show i / 4 = (i - 4) / 4 + 1 by omega, show i % 4 = (i - 4) % 4 by omega]
      rfl
theorem own_pcs {g : SP → Nat → Value} {w : World} {base : Nat} {e : TypeId} {v : Value} {L : List SP} (h : w.ownsRow base e 4 v L.length (pcs4 g L)) (hl : L.length ≤ 9223372036854775807) :
    PcsAt g w (fun b => base ≤ b ∧ b < w.heap.size) v L := by
  have hlt := h.lt
  rcases h.2 with ⟨rfl, h0⟩ | ⟨b, cap, cur, rfl, hb, hh, hn, _, hs, ht⟩
  · exact ⟨none, 0, by rw [h0], by omega, hl, fun h => by omega⟩
  · refine ⟨_, _, rfl, hn, hl, fun _ => ⟨b, 0, rfl, hlt b rfl, fun i hi => ?_⟩⟩
    rw [Nat.zero_add, h.cellAt i hi, pcs4_get g L i hi]

theorem cell_four_new (w : World) (a b c d : Value) (t : TypeId) : ∀ j u, [a, b, c, d][j]? = some u → (w.alloc (.cells #[a, b, c, d] t)).cell? ((⟨w.heap.size, 0, none⟩ : Addr).add j) = some u := by
  intro j u hj
  match j, hj with
  | 0, hj => simp at hj; subst hj; simp [Addr.add]
  | 1, hj => simp at hj; subst hj; simp [Addr.add]
  | 2, hj => simp at hj; subst hj; simp [Addr.add]
  | 3, hj => simp at hj; subst hj; simp [Addr.add]
theorem one55 (a b : ByteArray) (c d : Int) : ∀ u ∈ [Value.string a, .string b, .int .i64 c, .int .i64 d], u.oneCell' = true := by
  intro u hu
  simp at hu
  rcases hu with rfl | rfl | rfl | rfl <;> rfl

/-- What an option stands for in the full line. -/
def fullP (nm : List ByteArray) (rf : List Int) (T : List (List (List SP))) (opt : ByteArray) : List SP :=
  if 0 < eqAt opt then [⟨opt, opt, -1, 0⟩] else
    if look nm rf T.length (tyOf opt) nm.length < 0 then [] else [⟨⟨#[]⟩, ⟨#[]⟩, look nm rf T.length (tyOf opt) nm.length, (T.getD (look nm rf T.length (tyOf opt) nm.length).toNat []).length⟩]
def fullTo (op nm : List ByteArray) (rf : List Int) (T : List (List (List SP))) (k : Nat) : List SP := (op.take k).flatMap (fullP nm rf T)
theorem take_snoc {α : Type} {l : List α} {k : Nat} {d : α} (h : k < l.length) : l.take (k + 1) = l.take k ++ [l.getD k d] := by
  rw [List.take_add_one, List.getElem?_eq_getElem h, List.getD_eq_getElem?_getD, List.getElem?_eq_getElem h]; rfl
theorem full_step (op nm : List ByteArray) (rf : List Int) (T : List (List (List SP))) (k : Nat) (h : k < op.length) : fullTo op nm rf T (k + 1) = fullTo op nm rf T k ++ fullP nm rf T (op.getD k ByteArray.empty) := by
  unfold fullTo
  rw [take_snoc (d := ByteArray.empty) h, List.flatMap_append]; simp

/-- The line so far: m pieces, laid in 'cells'. -/
def SoFar (g : SP → Nat → Value) (F : List SP) (m : Nat) (cells : List Value) : Prop := F.length = m ∧ cells = pcs4 g F
theorem SoFar.snoc {g : SP → Nat → Value} {F : List SP} {m : Nat} {cells : List Value} (h : SoFar g F m cells) (p : SP) : SoFar g (F ++ [p]) (m + 1) (cells ++ [g p 0, g p 1, g p 2, g p 3]) := by
  obtain ⟨h1, h2⟩ := h
  exact ⟨by simp [h1], by rw [pcs4_snoc, h2]⟩

def LineRes (g : SP → Nat → Value) (F : List SP) (w : World) (e : Ending) (w' : World) : Prop :=
  Below w.heap.size w w' ∧ ∃ v, e = .returned v ∧ PcsAt g w' (fun b => w.heap.size ≤ b ∧ b < w'.heap.size) v F

set_option maxRecDepth 100000 in
set_option maxHeartbeats 2000000 in
theorem full_any (v0 v1 v2 v3 : Value) (op nm : List ByteArray) (rf : List Int) (T : List (List (List SP))) (w : World) (h0 : StrsAt w (· < w.heap.size) v0 op) (h1 : StrsAt w (· < w.heap.size) v1 nm)
    (h2 : IntsAt w (· < w.heap.size) v2 rf) (h3 : TabAt w (· < w.heap.size) v3 T) (f0 : StrsFit op) (f1 : StrsFit nm) (f3 : TabFit T) :
    Calls Try.prog 22 #[v0, v1, v2, v3] w fun e w' => LineRes pc (fullTo op nm rf T op.length) w e w' := by
  obtain ⟨a, c, rfl, hc, hn, hat⟩ := h0
  obtain ⟨a1, c1, rfl, hh1⟩ := h1
  obtain ⟨a2, c2, rfl, hh2⟩ := h2
  obtain ⟨a3, c3, V3, rfl, hc3, hn3, hat3, hel3⟩ := h3
  have H1 : Hid (StrsAt w (· < w.heap.size) (.slice a1 nm.length c1) nm) := ⟨_, _, rfl, hh1⟩
  have H2 : Hid (IntsAt w (· < w.heap.size) (.slice a2 rf.length c2) rf) := ⟨_, _, rfl, hh2⟩
  have H3 : Hid (At w (· < w.heap.size) a3 T.length T.length V3) := hat3
  have HE : Hid (∀ d, d < T.length → LnsAt pc w (· < w.heap.size) (V3 d) (T.getD d [])) := hel3
  have HAT : Hid (At w (· < w.heap.size) a op.length op.length (fun i => .string (op.getD i ByteArray.empty))) := hat
  have HF : Hid (StrsFit op ∧ StrsFit nm ∧ TabFit T) := ⟨f0, f1, f3⟩
  have hl := f0.1
  have hl1 := f1.1
  have hl3 := f3.1
  clear hat hh1 hh2 f0 f1 f3 hat3 hel3
  obtain ⟨n, hn'⟩ : ∃ n, n = op.length := ⟨_, rfl⟩
  have HN : Hid (n = op.length) := hn'
  rw [← hn'] at hc hn hl ⊢
  clear hn'
  obtain ⟨n1, hn1'⟩ : ∃ n, n = nm.length := ⟨_, rfl⟩
  have HN1 : Hid (n1 = nm.length) := hn1'
  rw [← hn1'] at hl1 ⊢
  clear hn1'
  obtain ⟨n3, hn3'⟩ : ∃ n, n = T.length := ⟨_, rfl⟩
  have HN3 : Hid (n3 = T.length) := hn3'
  rw [← hn3'] at hl3 hc3 hn3 ⊢
  clear hn3'
  generalize rf.length = n2 at *
  obtain ⟨i55, hi5, hz0, hz1, hz2⟩ := info_parts info55
  go_enter Try.func22, Try.ntmps22
  go_wp2_with fail
  go_loopw [9, 10, 11, 12] (fun v i _ _ wr => ∃ (k m : Nat) (cells : List Value), i = .int .i64 k ∧ k ≤ n ∧ m ≤ k ∧ Below w.heap.size w wr ∧ wr.ownsRow w.heap.size 55 4 v m cells ∧ Hid (SoFar pc (fullTo op nm rf T k) m cells)) (fun _ i _ _ _ => n - (intOf i).toNat)
  case atStart => exact ⟨0, 0, [], rfl, Nat.zero_le _, Nat.le_refl _, Below.refl _ _, World.ownsRow_nil _ _ _ _, rfl, rfl⟩
  case round =>
    obtain ⟨k, m, cells, rfl, hk, hm, hbl, hown, HS⟩ := hrel
    by_cases hlt : k < n
    rotate_left
    · obtain rfl : k = n := by omega
      go_wp2_with fail
      go_ret
      refine ⟨hbl, _, rfl, ?_⟩
      obtain ⟨e1, e2⟩ := HS.out
      refine own_pcs (e := 55) ?_ (by omega)
      rw [e1, ← e2]
      exact hown
    obtain ⟨b, o, rfl, hb, hcell⟩ := HAT.out (by have := HN.out; omega)
    have hck : wr.cell? ⟨b, o + k, none⟩ = some (.string (op.getD k ByteArray.empty)) := (hbl.cell (p := ⟨b, o + k, none⟩) hb).trans (hcell k (by have := HN.out; omega))
    clear hcell
    have hss : (op.getD k ByteArray.empty).size ≤ 1048576 := HF.out.1.2 k (by have := HN.out; omega)
    have HST : Hid (fullTo op nm rf T (k + 1) = fullTo op nm rf T k ++ fullP nm rf T (op.getD k ByteArray.empty)) := full_step op nm rf T k (by have := HN.out; omega)
    generalize op.getD k ByteArray.empty = s at *
    have hsz := hbl.size
    go_wp2_with fail
    refine (firstEq_any s _ hss).mono ?_
    rintro e w' ⟨rfl, hw⟩
    rw [hw]
    clear hw w'
    by_cases hq : 0 < eqAt s
    · have HQ : Hid (fullP nm rf T s = [⟨s, s, -1, 0⟩]) := by unfold fullP; rw [if_pos hq]; rfl
      go_wp2_with (at_builtin; refine wpList_append_own_at _ rfl (.tmp 26) (.tmp 30) 44 rfl w.heap.size 55 i55 (.agg #[.string ⟨#[]⟩, .string ⟨#[]⟩, .int .i64 0, .int .i64 0]) 4 48 Try.underlying44 hi5 hz0 hz1 hz2 rfl (by decide) _ _ _ rfl (hown.alloc _) _ 1 1 [.string s, .string s, .int .i64 (-1), .int .i64 0] rfl rfl (cell_four_new _ _ _ _ _ _) (one55 _ _ _ _) (by unfold maxLen; omega) (by omega) (by simp; omega) ?_; intro v' w2 hown2 hgrow hnil hloc; clear hnil hloc)
      have hbl2 := (hbl.alloc hsz _).grown hgrow (by simp; omega) (fun j hj => (hown.lt j hj).1)
      have HS2 : Hid (SoFar pc (fullTo op nm rf T (k + 1)) (m + 1) (cells ++ [.string s, .string s, .int .i64 (-1), .int .i64 0])) := by
        rw [HST.out, HQ.out]; exact HS.out.snoc ⟨s, s, -1, 0⟩
      clear hgrow hown hbl HS hck
      go_wp2_with fail
      go_roundw
      case rel => exact ⟨k + 1, m + 1, _, by go_num, by omega, by omega, hbl2, hown2, HS2⟩
      case measure => simp [intOf]; omega
    · go_wp2_with fail
      refine (typeName_any s _ hss).mono ?_
      rintro e w' ⟨rfl, hw⟩
      rw [hw]
      clear hw w'
      have HS1 : Hid (StrsAt wr (· < wr.heap.size) (.slice a1 n1 c1) nm) := by rw [HN1.out]; exact H1.out.next (Same.of_below hbl (fun b h => h)) (fun b h => Nat.lt_of_lt_of_le h hbl.size)
      have HI1 : Hid (IntsAt wr (· < wr.heap.size) (.slice a2 n2 c2) rf) := H2.out.next (Same.of_below hbl (fun b h => h)) (fun b h => Nat.lt_of_lt_of_le h hbl.size)
      go_wp2_with fail
      refine (lookup_any _ _ nm rf (tyOf s) n3 _ _ HS1.out HI1.out hl3 (by have := HN1.out; omega)).mono ?_
      rintro e w' ⟨rfl, hw⟩
      rw [hw]
      clear hw w'
      have HQ : Hid (fullP nm rf T s = if look nm rf n3 (tyOf s) nm.length < 0 then [] else [⟨⟨#[]⟩, ⟨#[]⟩, look nm rf n3 (tyOf s) nm.length, (T.getD (look nm rf n3 (tyOf s) nm.length).toNat []).length⟩]) := by
        unfold fullP; rw [if_neg (by omega), HN3.out]; rfl
      have hrg := look_range nm rf n3 (tyOf s) nm.length
      generalize look nm rf n3 (tyOf s) nm.length = d at *
      by_cases hneg : d < 0
      · rw [if_pos hneg] at HQ
        go_wp2_with fail
        go_roundw
        case rel => exact ⟨k + 1, m, cells, by go_num, by omega, by omega, hbl, hown, by rw [HST.out, HQ.out, List.append_nil]; exact HS.out⟩
        case measure => simp [intOf]; omega
      · rw [if_neg hneg] at HQ
        obtain ⟨R, rfl⟩ : ∃ R : Nat, d = R := ⟨d.toNat, by omega⟩
        have hRN : R < n3 := by omega
        obtain ⟨b3, o3, rfl, hb3, hcell3⟩ := H3.out (by have := HN3.out; omega)
        have hcR := (hbl.cell (p := ⟨b3, o3 + R, none⟩) hb3).trans (hcell3 R (by have := HN3.out; omega))
        clear hcell3
        obtain ⟨a7, c7, V7, hV7, hn7, _, _⟩ := lns_shape (HE.out R (by have := HN3.out; omega))
        rw [hV7] at hcR
        clear hV7
        have hl7 : (T.getD R []).length ≤ 1048576 := (HF.out.2.2.2 R (by have := HN3.out; omega)).1
        simp only [Int.toNat_natCast] at HQ
        generalize (T.getD R []).length = n7 at *
        go_wp2_with (at_builtin; refine wpList_append_own_at _ rfl (.tmp 41) (.tmp 49) 44 rfl w.heap.size 55 i55 (.agg #[.string ⟨#[]⟩, .string ⟨#[]⟩, .int .i64 0, .int .i64 0]) 4 48 Try.underlying44 hi5 hz0 hz1 hz2 rfl (by decide) _ _ _ rfl (hown.alloc _) _ 1 1 [.string ⟨#[]⟩, .string ⟨#[]⟩, .int .i64 R, .int .i64 n7] rfl rfl (cell_four_new _ _ _ _ _ _) (one55 _ _ _ _) (by unfold maxLen; omega) (by omega) (by simp; omega) ?_; intro v' w2 hown2 hgrow hnil hloc; clear hnil hloc)
        have hbl2 := (hbl.alloc hsz _).grown hgrow (by simp; omega) (fun j hj => (hown.lt j hj).1)
        have HS2 : Hid (SoFar pc (fullTo op nm rf T (k + 1)) (m + 1) (cells ++ [.string ⟨#[]⟩, .string ⟨#[]⟩, .int .i64 R, .int .i64 n7])) := by
          rw [HST.out, HQ.out]; exact HS.out.snoc ⟨⟨#[]⟩, ⟨#[]⟩, R, n7⟩
        clear hgrow hown hbl HS hck
        go_wp2_with fail
        go_roundw
        case rel => exact ⟨k + 1, m + 1, _, by go_num, by omega, by omega, hbl2, hown2, HS2⟩
        case measure => simp [intOf]; omega
end Go.Proofs.Qxb6603470a
