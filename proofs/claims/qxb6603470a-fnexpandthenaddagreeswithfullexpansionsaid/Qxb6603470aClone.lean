/-
  THE WALKS of the clones: cloneStrings (8), cloneInts (17), clonePieces (48), cloneLines (31), cloneTable (18).
-/
import Derived.Test.Qxb6603470aSize
import Derived.BigQuiet
import Derived.WalkSpells
import Derived.WalkLawsBesides
namespace Go.Proofs.Qxb6603470a
open Go.RowKit
set_option linter.unusedVariables false
set_option linter.unusedSimpArgs false

/-- Block g holds the cells cs, of type T. -/
def BlockAt (w : World) (g : Nat) (T : TypeId) (cs : List Value) : Prop := w.heap[g]? = some (.cells cs.toArray T (0, 0))
section
variable {w w' : World} {g : Nat} {T : TypeId} {cs : List Value}
theorem BlockAt.cell (h : BlockAt w g T cs) (j : Nat) {v : Value} (hj : cs[j]? = some v) : w.cell? ⟨g, j, none⟩ = some v := by
  rw [cell_of_row w g j cs.toArray T (0, 0) h]; simpa using hj
theorem BlockAt.lt (h : BlockAt w g T cs) : g < w.heap.size := (Array.getElem?_eq_some_iff.1 h).1
theorem BlockAt.free (h : BlockAt w g T cs) (j : Nat) : w.frozen? ⟨g, j, none⟩ = false := by
  unfold BlockAt at h
  simp [World.frozen?, h]
theorem BlockAt.set (h : BlockAt w g T cs) (j : Nat) (v : Value) : BlockAt (w.setCell ⟨g, j, none⟩ v) g T (cs.set j v) := by
  unfold BlockAt
  rw [heap_setCell_same w g j cs.toArray T v h]
  simp
theorem BlockAt.of (h : BlockAt w g T cs) (hb : w'.heap[g]? = w.heap[g]?) : BlockAt w' g T cs := hb.trans h
end

theorem info9 : (Try.prog.info? 9).map (fun i => (i.zero, i.size, i.bytes)) = some (some (.string ⟨#[]⟩), 1, 16) := by kernel_rfl
theorem info3 : (Try.prog.info? 3).map (fun i => (i.zero, i.size, i.bytes)) = some (some (.int .i64 0), 1, 8) := by kernel_rfl
theorem info55 : (Try.prog.info? 55).map (fun i => (i.zero, i.size, i.bytes)) = some (some (.agg #[.string ⟨#[]⟩, .string ⟨#[]⟩, .int .i64 0, .int .i64 0]), 4, 48) := by kernel_rfl
theorem info44 : (Try.prog.info? 44).map (fun i => (i.zero, i.size, i.bytes)) = some (some (.slice none 0 0), 1, 24) := by kernel_rfl
theorem info46 : (Try.prog.info? 46).map (fun i => (i.zero, i.size, i.bytes)) = some (some (.slice none 0 0), 1, 24) := by kernel_rfl

/-- A row that was made whole: its block. -/
theorem made_block {w w' : World} {base : Nat} {e : TypeId} {size n : Nat} {xs : List Value} {g : Nat} (h : w'.ownsRow base e size (.slice (some ⟨g, 0, none⟩) n n) n xs) :
    ∃ cs, BlockAt w' g e cs ∧ cs.length = n * size := by
  rcases h.2 with ⟨h, _⟩ | ⟨g', cap, cur, hv, _, hh, _, _, hs, _⟩
  · cases h
  · simp only [Value.slice.injEq, Option.some.injEq, Addr.mk.injEq] at hv
    obtain ⟨⟨rfl, _⟩, _, rfl⟩ := hv
    exact ⟨cur.toList, by unfold BlockAt; simpa using hh, by simpa using hs⟩

def CloneRes (rd : World → (Nat → Prop) → Value → Prop) (w : World) (e : Ending) (w' : World) : Prop :=
  Below w.heap.size w w' ∧ ∃ v, e = .returned v ∧ rd w' (fun b => w.heap.size ≤ b ∧ b < w'.heap.size) v

theorem set4_get (cs : List Value) (k : Nat) (p : Nat → Value) (hl : k * 4 + 3 < cs.length) (j : Nat) :
    ((((cs.set (k * 4) (p 0)).set (k * 4 + 1) (p 1)).set (k * 4 + 2) (p 2)).set (k * 4 + 3) (p 3))[j]? = if j / 4 = k then some (p (j % 4)) else cs[j]? := by
  by_cases h : j / 4 = k
  · rw [if_pos h]
    have h4 := Nat.mod_lt j (show 0 < 4 by decide)
    have hj := Nat.div_add_mod j 4
    generalize hm : j % 4 = m at *
    match m, h4 with
    | 0, _ =>
      obtain rfl : j = k * 4 := by omega
      rw [List.getElem?_set_ne (by omega), List.getElem?_set_ne (by omega), List.getElem?_set_ne (by omega), List.getElem?_set_self (by omega)]
    | 1, _ =>
      obtain rfl : j = k * 4 + 1 := by omega
      rw [List.getElem?_set_ne (by omega), List.getElem?_set_ne (by omega), List.getElem?_set_self (by simp; omega)]
    | 2, _ =>
      obtain rfl : j = k * 4 + 2 := by omega
      rw [List.getElem?_set_ne (by omega), List.getElem?_set_self (by simp; omega)]
    | 3, _ =>
      obtain rfl : j = k * 4 + 3 := by omega
      rw [List.getElem?_set_self (by simp; omega)]
  · rw [if_neg h, List.getElem?_set_ne (by omega), List.getElem?_set_ne (by omega), List.getElem?_set_ne (by omega), List.getElem?_set_ne (by omega)]

theorem heap_setCell_size (w : World) (a : Addr) (u : Value) : (w.setCell a u).heap.size = w.heap.size := by simp [World.setCell]

/-- One more of a family that is built, a block a round, into block g. -/
theorem fam_step {α : Type} {rd : World → (Nat → Prop) → Value → α → Prop} (hnext : ∀ {w w' : World} {B B' : Nat → Prop} {v : Value} {x : α}, rd w B v x → Same B w w' → (∀ b, B b → B' b) → rd w' B' v x)
    {g k : Nat} {cs : List Value} {wr w2 : World} {l : List α} {d : α} {v' : Value} (hk : k < cs.length) (hg : g < wr.heap.size)
    (hold : ∀ j, j < k → ∃ v, cs[j]? = some v ∧ rd wr (fun b => g < b ∧ b < wr.heap.size) v (l.getD j d)) (hb : Below wr.heap.size wr w2)
    (hnew : rd w2 (fun b => wr.heap.size ≤ b ∧ b < w2.heap.size) v' (l.getD k d)) :
    ∀ j, j < k + 1 → ∃ v, (cs.set k v')[j]? = some v ∧ rd (w2.setCell ⟨g, k, none⟩ v') (fun b => g < b ∧ b < (w2.setCell ⟨g, k, none⟩ v').heap.size) v (l.getD j d) := by
  intro j hj
  have hsz := hb.size
  by_cases e : j = k
  · subst e
    exact ⟨v', List.getElem?_set_self hk, hnext hnew (fun b h => Below.heap_setCell _ _ _ _ (by show b ≠ g; omega)) (fun b h => by rw [heap_setCell_size]; omega)⟩
  · obtain ⟨v, h1, h2⟩ := hold j (by omega)
    refine ⟨v, by rw [List.getElem?_set_ne (by omega)]; exact h1, hnext h2 (fun b h => ?_) (fun b h => by rw [heap_setCell_size]; omega)⟩
    rw [Below.heap_setCell _ _ _ _ (by show b ≠ g; omega)]
    exact hb.block b h.2

set_option maxRecDepth 100000 in
set_option maxHeartbeats 1000000 in
theorem cloneStrs_any (v : Value) (ss : List ByteArray) (w : World) (hv : StrsAt w (· < w.heap.size) v ss) (hf : ss.length ≤ 1048576) :
    Calls Try.prog 8 #[v] w fun e w' => CloneRes (fun w B v => StrsAt w B v ss) w e w' := by
  obtain ⟨a, c, rfl, hc, hn, hat⟩ := hv
  obtain ⟨i9, hi, hz0, hz1, hz2⟩ := info_parts info9
  by_cases h0 : a = none
  · subst h0
    have hl : ss.length = 0 := by
      by_cases h : 0 < ss.length
      · obtain ⟨b, o, h, _⟩ := hat h; cases h
      · omega
    rw [hl]
    have q := fun (w : World) => Lib.run_eql_slice_nil (P := Try.prog) w 22 9 none 0 c 0 0 Try.underlying22
    go_enter Try.func8, Try.ntmps8
    go_wp2
    go_ret
    exact ⟨Below.refl _ _, _, rfl, none, 0, congrArg (fun z => Value.slice none z 0) hl.symm, by omega, by omega, fun h => by omega⟩
  · obtain ⟨x, rfl⟩ : ∃ x, a = some x := by cases a with | none => exact absurd rfl h0 | some x => exact ⟨x, rfl⟩
    clear h0
    have HAT : Hid (At w (· < w.heap.size) (some x) ss.length ss.length (fun i => .string (ss.getD i ByteArray.empty))) := hat
    clear hat
    obtain ⟨n, hN⟩ : ∃ n, n = ss.length := ⟨_, rfl⟩
    have HN : Hid (n = ss.length) := hN
    rw [← hN] at hc hn hf ⊢
    clear hN
    have q := fun (w : World) => Lib.run_eql_slice_nil (P := Try.prog) w 22 9 (some x) n c 0 0 Try.underlying22
    go_enter Try.func8, Try.ntmps8
    go_wp2_with (at_make; refine wpList_make_full _ rfl (.tmp 8) (.tmp 8) 22 rfl w.heap.size 9 i9 (.string ⟨#[]⟩) 1 Try.underlying22 hi hz0 hz1 .i64 .i64 n n n rfl rfl rfl rfl (by rw [hz2]; omega) (by unfold maxLen; omega) (Nat.le_refl _) ?_; intro w1 hown hg)
    obtain ⟨cs0, hblk, hlen⟩ := made_block (w := w) hown
    have hbl : Below w.heap.size w w1 := (Below.refl _ _).grown hg (Nat.le_refl _) (fun k hk => by cases hk)
    clear hown hg
    have hgl := hblk.lt
    go_loopw [4] (fun i wr => ∃ (k : Nat) (cs : List Value), i = .int .i64 k ∧ k ≤ n ∧ BlockAt wr w.heap.size 9 cs ∧ cs.length = n * 1 ∧ Below w.heap.size w wr ∧ Hid (∀ j, j < k → cs[j]? = some (.string (ss.getD j ByteArray.empty)))) (fun i _ => n - (intOf i).toNat)
    case atStart => exact ⟨0, cs0, rfl, Nat.zero_le _, hblk, hlen, hbl, fun j hj => by omega⟩
    case round =>
      clear hblk hlen hbl
      obtain ⟨k, cs, rfl, hk, hblk, hlen, hbl, HK⟩ := hrel
      by_cases hlt : k < n
      · obtain ⟨b, o, hx, hb, hcell⟩ := HAT.out (by have := HN.out; omega)
        cases hx
        have hck : wr.cell? ⟨b, o + k, none⟩ = some (.string (ss.getD k ByteArray.empty)) := (hbl.cell (p := ⟨b, o + k, none⟩) hb).trans (hcell k (by have := HN.out; omega))
        have hfr := hblk.free k
        obtain ⟨u, hu⟩ : ∃ u, cs[k]? = some u := ⟨_, List.getElem?_eq_getElem (by omega)⟩
        have hcw := hblk.cell k hu
        clear hcell
        go_wp2
        go_roundw
        case rel =>
          refine ⟨k + 1, _, by go_num, by omega, hblk.set k _, by simpa using hlen, hbl.setCell (Nat.le_refl _) _, fun j hj => ?_⟩
          by_cases e : j = k
          · subst e; rw [List.getElem?_set_self (by omega)]; simp
          · rw [List.getElem?_set_ne (by omega)]; exact HK.out j (by omega)
        case measure => simp [intOf]; omega
      · obtain rfl : k = n := by omega
        go_wp2
        go_ret
        refine ⟨hbl, _, rfl, some ⟨w.heap.size, 0, none⟩, k, congrArg (fun z => Value.slice (some ⟨w.heap.size, 0, none⟩) z k) HN.out, by have := HN.out; omega, by have := HN.out; omega, fun _ => ⟨w.heap.size, 0, rfl, ⟨Nat.le_refl _, hblk.lt⟩, fun i hi => ?_⟩⟩
        rw [Nat.zero_add]
        exact hblk.cell i (HK.out i (by have := HN.out; omega))
set_option maxRecDepth 100000 in
set_option maxHeartbeats 1000000 in
theorem cloneInts_any (v : Value) (ss : List Int) (w : World) (hv : IntsAt w (· < w.heap.size) v ss) (hf : ss.length ≤ 1048576) :
    Calls Try.prog 17 #[v] w fun e w' => CloneRes (fun w B v => IntsAt w B v ss) w e w' := by
  obtain ⟨a, c, rfl, hc, hn, hat⟩ := hv
  obtain ⟨i3, hi, hz0, hz1, hz2⟩ := info_parts info3
  by_cases h0 : a = none
  · subst h0
    have hl : ss.length = 0 := by
      by_cases h : 0 < ss.length
      · obtain ⟨b, o, h, _⟩ := hat h; cases h
      · omega
    rw [hl]
    have q := fun (w : World) => Lib.run_eql_slice_nil (P := Try.prog) w 31 3 none 0 c 0 0 Try.underlying31
    go_enter Try.func17, Try.ntmps17
    go_wp2
    go_ret
    exact ⟨Below.refl _ _, _, rfl, none, 0, congrArg (fun z => Value.slice none z 0) hl.symm, by omega, by omega, fun h => by omega⟩
  · obtain ⟨x, rfl⟩ : ∃ x, a = some x := by cases a with | none => exact absurd rfl h0 | some x => exact ⟨x, rfl⟩
    clear h0
    have HAT : Hid (At w (· < w.heap.size) (some x) ss.length ss.length (fun i => .int .i64 (ss.getD i 0))) := hat
    clear hat
    obtain ⟨n, hN⟩ : ∃ n, n = ss.length := ⟨_, rfl⟩
    have HN : Hid (n = ss.length) := hN
    rw [← hN] at hc hn hf ⊢
    clear hN
    have q := fun (w : World) => Lib.run_eql_slice_nil (P := Try.prog) w 31 3 (some x) n c 0 0 Try.underlying31
    go_enter Try.func17, Try.ntmps17
    go_wp2_with (at_make; refine wpList_make_full _ rfl (.tmp 8) (.tmp 8) 31 rfl w.heap.size 3 i3 (.int .i64 0) 1 Try.underlying31 hi hz0 hz1 .i64 .i64 n n n rfl rfl rfl rfl (by rw [hz2]; omega) (by unfold maxLen; omega) (Nat.le_refl _) ?_; intro w1 hown hg)
    obtain ⟨cs0, hblk, hlen⟩ := made_block (w := w) hown
    have hbl : Below w.heap.size w w1 := (Below.refl _ _).grown hg (Nat.le_refl _) (fun k hk => by cases hk)
    clear hown hg
    have hgl := hblk.lt
    go_loopw [4] (fun i wr => ∃ (k : Nat) (cs : List Value), i = .int .i64 k ∧ k ≤ n ∧ BlockAt wr w.heap.size 3 cs ∧ cs.length = n * 1 ∧ Below w.heap.size w wr ∧ Hid (∀ j, j < k → cs[j]? = some (.int .i64 (ss.getD j 0)))) (fun i _ => n - (intOf i).toNat)
    case atStart => exact ⟨0, cs0, rfl, Nat.zero_le _, hblk, hlen, hbl, fun j hj => by omega⟩
    case round =>
      clear hblk hlen hbl
      obtain ⟨k, cs, rfl, hk, hblk, hlen, hbl, HK⟩ := hrel
      by_cases hlt : k < n
      · obtain ⟨b, o, hx, hb, hcell⟩ := HAT.out (by have := HN.out; omega)
        cases hx
        have hck : wr.cell? ⟨b, o + k, none⟩ = some (.int .i64 (ss.getD k 0)) := (hbl.cell (p := ⟨b, o + k, none⟩) hb).trans (hcell k (by have := HN.out; omega))
        have hfr := hblk.free k
        obtain ⟨u, hu⟩ : ∃ u, cs[k]? = some u := ⟨_, List.getElem?_eq_getElem (by omega)⟩
        have hcw := hblk.cell k hu
        clear hcell
        go_wp2
        go_roundw
        case rel =>
          refine ⟨k + 1, _, by go_num, by omega, hblk.set k _, by simpa using hlen, hbl.setCell (Nat.le_refl _) _, fun j hj => ?_⟩
          by_cases e : j = k
          · subst e; rw [List.getElem?_set_self (by omega)]; simp
          · rw [List.getElem?_set_ne (by omega)]; exact HK.out j (by omega)
        case measure => simp [intOf]; omega
      · obtain rfl : k = n := by omega
        go_wp2
        go_ret
        refine ⟨hbl, _, rfl, some ⟨w.heap.size, 0, none⟩, k, congrArg (fun z => Value.slice (some ⟨w.heap.size, 0, none⟩) z k) HN.out, by have := HN.out; omega, by have := HN.out; omega, fun _ => ⟨w.heap.size, 0, rfl, ⟨Nat.le_refl _, hblk.lt⟩, fun i hi => ?_⟩⟩
        rw [Nat.zero_add]
        exact hblk.cell i (HK.out i (by have := HN.out; omega))
set_option maxRecDepth 100000 in
set_option maxHeartbeats 1000000 in
theorem clonePcs_any (v : Value) (ss : List SP) (w : World) (hv : PcsAt pc w (· < w.heap.size) v ss) (hf : ss.length ≤ 1048576) :
    Calls Try.prog 48 #[v] w fun e w' => CloneRes (fun w B v => PcsAt pc w B v ss) w e w' := by
  obtain ⟨a, c, rfl, hc, hn, hat⟩ := hv
  obtain ⟨i55, hi, hz0, hz1, hz2⟩ := info_parts info55
  by_cases h0 : a = none
  · subst h0
    have hl : ss.length = 0 := by
      by_cases h : 0 < ss.length
      · obtain ⟨b, o, h, _⟩ := hat h; cases h
      · omega
    rw [hl]
    have q := fun (w : World) => Lib.run_eql_slice_nil (P := Try.prog) w 44 55 none 0 c 0 0 Try.underlying44
    go_enter Try.func48, Try.ntmps48
    go_wp2
    go_ret
    exact ⟨Below.refl _ _, _, rfl, none, 0, congrArg (fun z => Value.slice none z 0) hl.symm, by omega, by omega, fun h => by omega⟩
  · obtain ⟨x, rfl⟩ : ∃ x, a = some x := by cases a with | none => exact absurd rfl h0 | some x => exact ⟨x, rfl⟩
    clear h0
    have HAT : Hid (At w (· < w.heap.size) (some x) ss.length (ss.length * 4) (fun i => pc (ss.getD (i / 4) default) (i % 4))) := hat
    clear hat
    obtain ⟨n, hN⟩ : ∃ n, n = ss.length := ⟨_, rfl⟩
    have HN : Hid (n = ss.length) := hN
    rw [← hN] at hc hn hf ⊢
    clear hN
    have q := fun (w : World) => Lib.run_eql_slice_nil (P := Try.prog) w 44 55 (some x) n c 0 0 Try.underlying44
    go_enter Try.func48, Try.ntmps48
    go_wp2_with (at_make; refine wpList_make_full _ rfl (.tmp 8) (.tmp 8) 44 rfl w.heap.size 55 i55 (.agg #[.string ⟨#[]⟩, .string ⟨#[]⟩, .int .i64 0, .int .i64 0]) 4 Try.underlying44 hi hz0 hz1 .i64 .i64 n n n rfl rfl rfl rfl (by rw [hz2]; omega) (by unfold maxLen; omega) (Nat.le_refl _) ?_; intro w1 hown hg)
    obtain ⟨cs0, hblk, hlen⟩ := made_block (w := w) hown
    have hbl : Below w.heap.size w w1 := (Below.refl _ _).grown hg (Nat.le_refl _) (fun k hk => by cases hk)
    clear hown hg
    have hgl := hblk.lt
    go_loopw [4] (fun i wr => ∃ (k : Nat) (cs : List Value), i = .int .i64 k ∧ k ≤ n ∧ BlockAt wr w.heap.size 55 cs ∧ cs.length = n * 4 ∧ Below w.heap.size w wr ∧ Hid (∀ j, j < k * 4 → cs[j]? = some (pc (ss.getD (j / 4) default) (j % 4)))) (fun i _ => n - (intOf i).toNat)
    case atStart => exact ⟨0, cs0, rfl, Nat.zero_le _, hblk, hlen, hbl, fun j hj => by omega⟩
    case round =>
      clear hblk hlen hbl
      obtain ⟨k, cs, rfl, hk, hblk, hlen, hbl, HK⟩ := hrel
      by_cases hlt : k < n
      · obtain ⟨b, o, hx, hb, hcell⟩ := HAT.out (by have := HN.out; omega)
        cases hx
        obtain ⟨d0, d1, d2, d3⟩ := at4 (a := none) (n := 0) (k := k) (by have := HN.out; omega) hcell
        clear hcell
        replace d0 := (hbl.cell (p := ⟨b, o + k * 4, none⟩) hb).trans d0
        replace d1 := (hbl.cell (p := ⟨b, o + k * 4 + 1, none⟩) hb).trans d1
        replace d2 := (hbl.cell (p := ⟨b, o + k * 4 + 2, none⟩) hb).trans d2
        replace d3 := (hbl.cell (p := ⟨b, o + k * 4 + 3, none⟩) hb).trans d3
        simp only [pc] at d0 d1 d2 d3
        have f0 := hblk.free (k * 4)
        have f1 := hblk.free (k * 4 + 1)
        have f2 := hblk.free (k * 4 + 2)
        have f3 := hblk.free (k * 4 + 3)
        obtain ⟨u0, hu0⟩ : ∃ u, cs[k * 4]? = some u := ⟨_, List.getElem?_eq_getElem (by omega)⟩
        obtain ⟨u1, hu1⟩ : ∃ u, cs[k * 4 + 1]? = some u := ⟨_, List.getElem?_eq_getElem (by omega)⟩
        obtain ⟨u2, hu2⟩ : ∃ u, cs[k * 4 + 2]? = some u := ⟨_, List.getElem?_eq_getElem (by omega)⟩
        obtain ⟨u3, hu3⟩ : ∃ u, cs[k * 4 + 3]? = some u := ⟨_, List.getElem?_eq_getElem (by omega)⟩
        have g0 := hblk.cell (k * 4) hu0
        have g1 := hblk.cell (k * 4 + 1) hu1
        have g2 := hblk.cell (k * 4 + 2) hu2
        have g3 := hblk.cell (k * 4 + 3) hu3
        clear hu0 hu1 hu2 hu3
        go_wp2
        go_roundw
        case rel =>
          refine ⟨k + 1, _, by go_num, by omega, (((hblk.set (k * 4) _).set (k * 4 + 1) _).set (k * 4 + 2) _).set (k * 4 + 3) _, by simpa using hlen,
            (((hbl.setCell (Nat.le_refl _) _).setCell (Nat.le_refl _) _).setCell (Nat.le_refl _) _).setCell (Nat.le_refl _) _, fun j hj => ?_⟩
          refine (set4_get cs k (pc (ss.getD k default)) (by omega) j).trans ?_
          by_cases e : j / 4 = k
          · rw [if_pos e, e]
          · rw [if_neg e]; exact HK.out j (by omega)
        case measure => simp [intOf]; omega
      · obtain rfl : k = n := by omega
        go_wp2
        go_ret
        refine ⟨hbl, _, rfl, some ⟨w.heap.size, 0, none⟩, k, congrArg (fun z => Value.slice (some ⟨w.heap.size, 0, none⟩) z k) HN.out, by have := HN.out; omega, by have := HN.out; omega, fun _ => ⟨w.heap.size, 0, rfl, ⟨Nat.le_refl _, hblk.lt⟩, fun i hi => ?_⟩⟩
        rw [Nat.zero_add]
        exact hblk.cell i (HK.out i (by have := HN.out; omega))
set_option maxRecDepth 100000 in
set_option maxHeartbeats 1000000 in
theorem cloneLns_any (v : Value) (ss : List (List SP)) (w : World) (hv : LnsAt pc w (· < w.heap.size) v ss) (hfit : LnsFit ss) :
    Calls Try.prog 31 #[v] w fun e w' => CloneRes (fun w B v => LnsAt pc w B v ss) w e w' := by
  obtain ⟨a, c, V, rfl, hc, hn, hat, hel⟩ := hv
  have hf := hfit.1
  have HF : Hid (LnsFit ss) := hfit
  have HEL : Hid (∀ j, j < ss.length → PcsAt pc w (· < w.heap.size) (V j) (ss.getD j [])) := hel
  clear hel hfit
  obtain ⟨i44, hi, hz0, hz1, hz2⟩ := info_parts info44
  by_cases h0 : a = none
  · subst h0
    have hl : ss.length = 0 := by
      by_cases h : 0 < ss.length
      · obtain ⟨b, o, h, _⟩ := hat h; cases h
      · omega
    rw [hl]
    have q := fun (w : World) => Lib.run_eql_slice_nil (P := Try.prog) w 46 44 none 0 c 0 0 Try.underlying46
    go_enter Try.func31, Try.ntmps31
    go_wp2
    go_ret
    exact ⟨Below.refl _ _, _, rfl, none, 0, fun _ => undef, congrArg (fun z => Value.slice none z 0) hl.symm, by omega, by omega, fun h => by omega, fun j hj => by omega⟩
  · obtain ⟨x, rfl⟩ : ∃ x, a = some x := by cases a with | none => exact absurd rfl h0 | some x => exact ⟨x, rfl⟩
    clear h0
    have HAT : Hid (At w (· < w.heap.size) (some x) ss.length ss.length V) := hat
    clear hat
    obtain ⟨n, hN⟩ : ∃ n, n = ss.length := ⟨_, rfl⟩
    have HN : Hid (n = ss.length) := hN
    rw [← hN] at hc hn hf ⊢
    clear hN
    have q := fun (w : World) => Lib.run_eql_slice_nil (P := Try.prog) w 46 44 (some x) n c 0 0 Try.underlying46
    go_enter Try.func31, Try.ntmps31
    go_wp2_with (at_make; refine wpList_make_full _ rfl (.tmp 8) (.tmp 8) 46 rfl w.heap.size 44 i44 (.slice none 0 0) 1 Try.underlying46 hi hz0 hz1 .i64 .i64 n n n rfl rfl rfl rfl (by rw [hz2]; omega) (by unfold maxLen; omega) (Nat.le_refl _) ?_; intro w1 hown hg)
    obtain ⟨cs0, hblk, hlen⟩ := made_block (w := w) hown
    have hbl : Below w.heap.size w w1 := (Below.refl _ _).grown hg (Nat.le_refl _) (fun k hk => by cases hk)
    clear hown hg
    have hgl := hblk.lt
    go_loopw [4] (fun i wr => ∃ (k : Nat) (cs : List Value), i = .int .i64 k ∧ k ≤ n ∧ BlockAt wr w.heap.size 44 cs ∧ cs.length = n * 1 ∧ Below w.heap.size w wr ∧ Hid (∀ j, j < k → ∃ v, cs[j]? = some v ∧ PcsAt pc wr (fun b => w.heap.size < b ∧ b < wr.heap.size) v (ss.getD j []))) (fun i _ => n - (intOf i).toNat)
    case atStart => exact ⟨0, cs0, rfl, Nat.zero_le _, hblk, hlen, hbl, fun j hj => by omega⟩
    case round =>
      clear hblk hlen hbl
      obtain ⟨k, cs, rfl, hk, hblk, hlen, hbl, HK⟩ := hrel
      by_cases hlt : k < n
      · obtain ⟨b, o, hx, hb, hcell⟩ := HAT.out (by have := HN.out; omega)
        cases hx
        have hck := (hbl.cell (p := ⟨b, o + k, none⟩) hb).trans (hcell k (by have := HN.out; omega))
        have HV : Hid (PcsAt pc wr (· < wr.heap.size) (V k) (ss.getD k [])) := (HEL.out k (by have := HN.out; omega)).next (Same.of_below hbl (fun b h => h)) (fun b h => Nat.lt_of_lt_of_le h hbl.size)
        have HFK : Hid (PcsFit (ss.getD k [])) := HF.out.2 k (by have := HN.out; omega)
        obtain ⟨ak, nk, ck, hsh⟩ : ∃ a n c, V k = .slice a n c := by
          have := HV.out
          simp only [PcsAt] at this
          obtain ⟨a, c, e, _⟩ := this
          exact ⟨_, _, _, e⟩
        rw [hsh] at hck HV
        clear hsh hcell
        go_wp2_with fail
        refine (clonePcs_any _ (ss.getD k []) wr HV.out HFK.out.1).mono ?_
        rintro e w2 ⟨hb2, v', rfl, hnew⟩
        have hgl := hblk.lt
        have hblk2 : BlockAt w2 w.heap.size 44 cs := hblk.of (hb2.block _ hgl)
        have hfr := hblk2.free k
        obtain ⟨u, hu⟩ : ∃ u, cs[k]? = some u := ⟨_, List.getElem?_eq_getElem (by omega)⟩
        have hcw := hblk2.cell k hu
        obtain ⟨a2, n2, c2, rfl⟩ : ∃ a n c, v' = .slice a n c := by
          have := hnew
          simp only [PcsAt] at this
          obtain ⟨a, c, e, _⟩ := this
          exact ⟨_, _, _, e⟩
        have HST : Hid _ := fam_step (rd := PcsAt pc) (fun h => h.next) (g := w.heap.size) (by omega) hgl HK.out hb2 hnew
        have hbl2 : Below w.heap.size w w2 := hbl.trans (hb2.mono (by omega))
        clear hnew hu hb2 hck HK hblk hbl
        go_wp2_with fail
        go_roundw
        case rel => exact ⟨k + 1, _, by go_num, by omega, hblk2.set k _, by simpa using hlen, hbl2.setCell (Nat.le_refl _) _, HST⟩
        case measure => simp [intOf]; omega
      · obtain rfl : k = n := by omega
        go_wp2
        go_ret
        have hgl := hblk.lt
        refine ⟨hbl, _, rfl, some ⟨w.heap.size, 0, none⟩, k, fun j => cs.getD j undef, congrArg (fun z => Value.slice (some ⟨w.heap.size, 0, none⟩) z k) HN.out, by have := HN.out; omega, by have := HN.out; omega, fun _ => ⟨w.heap.size, 0, rfl, ⟨Nat.le_refl _, hgl⟩, fun i hi => ?_⟩, fun j hj => ?_⟩
        · rw [Nat.zero_add]
          obtain ⟨v, h1, h2⟩ := HK.out i (by have := HN.out; omega)
          dsimp only
          rw [List.getD_eq_getElem?_getD, h1]
          exact hblk.cell i h1
        · obtain ⟨v, h1, h2⟩ := HK.out j (by have := HN.out; omega)
          dsimp only
          rw [List.getD_eq_getElem?_getD, h1]
          exact h2.next (fun b _ => rfl) (fun b h => ⟨by omega, h.2⟩)
set_option maxRecDepth 100000 in
set_option maxHeartbeats 1000000 in
theorem cloneTab_any (v : Value) (ss : List (List (List SP))) (w : World) (hv : TabAt w (· < w.heap.size) v ss) (hfit : TabFit ss) :
    Calls Try.prog 18 #[v] w fun e w' => CloneRes (fun w B v => TabAt w B v ss) w e w' := by
  obtain ⟨a, c, V, rfl, hc, hn, hat, hel⟩ := hv
  have hf := hfit.1
  have HF : Hid (TabFit ss) := hfit
  have HEL : Hid (∀ j, j < ss.length → LnsAt pc w (· < w.heap.size) (V j) (ss.getD j [])) := hel
  clear hel hfit
  obtain ⟨i46, hi, hz0, hz1, hz2⟩ := info_parts info46
  by_cases h0 : a = none
  · subst h0
    have hl : ss.length = 0 := by
      by_cases h : 0 < ss.length
      · obtain ⟨b, o, h, _⟩ := hat h; cases h
      · omega
    rw [hl]
    have q := fun (w : World) => Lib.run_eql_slice_nil (P := Try.prog) w 32 46 none 0 c 0 0 Try.underlying32
    go_enter Try.func18, Try.ntmps18
    go_wp2
    go_ret
    exact ⟨Below.refl _ _, _, rfl, none, 0, fun _ => undef, congrArg (fun z => Value.slice none z 0) hl.symm, by omega, by omega, fun h => by omega, fun j hj => by omega⟩
  · obtain ⟨x, rfl⟩ : ∃ x, a = some x := by cases a with | none => exact absurd rfl h0 | some x => exact ⟨x, rfl⟩
    clear h0
    have HAT : Hid (At w (· < w.heap.size) (some x) ss.length ss.length V) := hat
    clear hat
    obtain ⟨n, hN⟩ : ∃ n, n = ss.length := ⟨_, rfl⟩
    have HN : Hid (n = ss.length) := hN
    rw [← hN] at hc hn hf ⊢
    clear hN
    have q := fun (w : World) => Lib.run_eql_slice_nil (P := Try.prog) w 32 46 (some x) n c 0 0 Try.underlying32
    go_enter Try.func18, Try.ntmps18
    go_wp2_with (at_make; refine wpList_make_full _ rfl (.tmp 8) (.tmp 8) 32 rfl w.heap.size 46 i46 (.slice none 0 0) 1 Try.underlying32 hi hz0 hz1 .i64 .i64 n n n rfl rfl rfl rfl (by rw [hz2]; omega) (by unfold maxLen; omega) (Nat.le_refl _) ?_; intro w1 hown hg)
    obtain ⟨cs0, hblk, hlen⟩ := made_block (w := w) hown
    have hbl : Below w.heap.size w w1 := (Below.refl _ _).grown hg (Nat.le_refl _) (fun k hk => by cases hk)
    clear hown hg
    have hgl := hblk.lt
    go_loopw [4] (fun i wr => ∃ (k : Nat) (cs : List Value), i = .int .i64 k ∧ k ≤ n ∧ BlockAt wr w.heap.size 46 cs ∧ cs.length = n * 1 ∧ Below w.heap.size w wr ∧ Hid (∀ j, j < k → ∃ v, cs[j]? = some v ∧ LnsAt pc wr (fun b => w.heap.size < b ∧ b < wr.heap.size) v (ss.getD j []))) (fun i _ => n - (intOf i).toNat)
    case atStart => exact ⟨0, cs0, rfl, Nat.zero_le _, hblk, hlen, hbl, fun j hj => by omega⟩
    case round =>
      clear hblk hlen hbl
      obtain ⟨k, cs, rfl, hk, hblk, hlen, hbl, HK⟩ := hrel
      by_cases hlt : k < n
      · obtain ⟨b, o, hx, hb, hcell⟩ := HAT.out (by have := HN.out; omega)
        cases hx
        have hck := (hbl.cell (p := ⟨b, o + k, none⟩) hb).trans (hcell k (by have := HN.out; omega))
        have HV : Hid (LnsAt pc wr (· < wr.heap.size) (V k) (ss.getD k [])) := (HEL.out k (by have := HN.out; omega)).next (Same.of_below hbl (fun b h => h)) (fun b h => Nat.lt_of_lt_of_le h hbl.size)
        have HFK : Hid (LnsFit (ss.getD k [])) := HF.out.2 k (by have := HN.out; omega)
        obtain ⟨ak, nk, ck, hsh⟩ : ∃ a n c, V k = .slice a n c := by
          have := HV.out
          simp only [LnsAt] at this
          obtain ⟨a, c, V, e, _⟩ := this
          exact ⟨_, _, _, e⟩
        rw [hsh] at hck HV
        clear hsh hcell
        go_wp2_with fail
        refine (cloneLns_any _ (ss.getD k []) wr HV.out HFK.out).mono ?_
        rintro e w2 ⟨hb2, v', rfl, hnew⟩
        have hgl := hblk.lt
        have hblk2 : BlockAt w2 w.heap.size 46 cs := hblk.of (hb2.block _ hgl)
        have hfr := hblk2.free k
        obtain ⟨u, hu⟩ : ∃ u, cs[k]? = some u := ⟨_, List.getElem?_eq_getElem (by omega)⟩
        have hcw := hblk2.cell k hu
        obtain ⟨a2, n2, c2, rfl⟩ : ∃ a n c, v' = .slice a n c := by
          have := hnew
          simp only [LnsAt] at this
          obtain ⟨a, c, V, e, _⟩ := this
          exact ⟨_, _, _, e⟩
        have HST : Hid _ := fam_step (rd := LnsAt pc) (fun h => h.next) (g := w.heap.size) (by omega) hgl HK.out hb2 hnew
        have hbl2 : Below w.heap.size w w2 := hbl.trans (hb2.mono (by omega))
        clear hnew hu hb2 hck HK hblk hbl
        go_wp2_with fail
        go_roundw
        case rel => exact ⟨k + 1, _, by go_num, by omega, hblk2.set k _, by simpa using hlen, hbl2.setCell (Nat.le_refl _) _, HST⟩
        case measure => simp [intOf]; omega
      · obtain rfl : k = n := by omega
        go_wp2
        go_ret
        have hgl := hblk.lt
        refine ⟨hbl, _, rfl, some ⟨w.heap.size, 0, none⟩, k, fun j => cs.getD j undef, congrArg (fun z => Value.slice (some ⟨w.heap.size, 0, none⟩) z k) HN.out, by have := HN.out; omega, by have := HN.out; omega, fun _ => ⟨w.heap.size, 0, rfl, ⟨Nat.le_refl _, hgl⟩, fun i hi => ?_⟩, fun j hj => ?_⟩
        · rw [Nat.zero_add]
          obtain ⟨v, h1, h2⟩ := HK.out i (by have := HN.out; omega)
          dsimp only
          rw [List.getD_eq_getElem?_getD, h1]
          exact hblk.cell i h1
        · obtain ⟨v, h1, h2⟩ := HK.out j (by have := HN.out; omega)
          dsimp only
          rw [List.getD_eq_getElem?_getD, h1]
          exact h2.next (fun b _ => rfl) (fun b h => ⟨by omega, h.2⟩)
end Go.Proofs.Qxb6603470a
