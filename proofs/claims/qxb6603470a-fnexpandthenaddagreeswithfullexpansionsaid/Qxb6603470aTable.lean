/-
  THE WALK of buildTable (19).
-/
import Derived.Test.Qxb6603470aBuild
import Derived.Deep.RegionWith
namespace Go.Proofs.Qxb6603470a
open Go.RowKit
set_option linter.unusedVariables false
set_option linter.unusedSimpArgs false

/-- The built table: P d is the block of defaults d, whose lines read as T's. -/
def TblAt (w : World) (B : Nat → Prop) (N : Nat) (P : Nat → Nat) (T : List (List (List SP))) : Prop :=
  ∀ d, d < N → B (P d) ∧ ∃ v, w.cell? ⟨P d, 0, none⟩ = some v ∧ LnsAt (bc N P) w B v (T.getD d [])
theorem TblAt.next {w w' : World} {B B' : Nat → Prop} {N : Nat} {P : Nat → Nat} {T : List (List (List SP))} (h : TblAt w B N P T) (hb : Same B w w') (hB : ∀ b, B b → B' b) : TblAt w' B' N P T := fun d hd => by
  obtain ⟨h1, v, h2, h3⟩ := h d hd
  exact ⟨hB _ h1, v, (hb.cell (p := ⟨P d, 0, none⟩) h1).trans h2, h3.next hb hB⟩
def TblRes (w : World) (N : Nat) (T : List (List (List SP))) (e : Ending) (w' : World) : Prop :=
  Below w.heap.size w w' ∧ ∃ v P, e = .returned v ∧ PtrsAt w' (fun b => w.heap.size ≤ b ∧ b < w'.heap.size) v N P ∧ TblAt w' (fun b => w.heap.size ≤ b ∧ b < w'.heap.size) N P T

theorem Same.drew {B : Nat → Prop} {w w' : World} (h : Same B w w') : Same B w w'.drew := h

/-- One more line of the table is set. -/
theorem tbl_step {G k t : Nat} {T : List (List (List SP))} {P : Nat → Nat} {wr w2 : World} {v2 : Value} (ht : t < k) (hs : G + 1 + k ≤ wr.heap.size)
    (h : (∀ j, t ≤ j → j < k → BlockAt wr (G + 1 + j) 87 [.slice none 0 0]) ∧ ∀ j, j < t → ∃ v, BlockAt wr (G + 1 + j) 87 [v] ∧ LnsAt (bc k P) wr (fun b => G + 1 + k ≤ b ∧ b < wr.heap.size) v (T.getD j []))
    (hb : Below wr.heap.size wr w2) (hl : LnsAt (bc k P) w2 (fun b => wr.heap.size ≤ b ∧ b < w2.heap.size) v2 (T.getD t [])) :
    (∀ j, t + 1 ≤ j → j < k → BlockAt (w2.setCell ⟨G + 1 + t, 0, none⟩ v2) (G + 1 + j) 87 [.slice none 0 0]) ∧ ∀ j, j < t + 1 → ∃ v, BlockAt (w2.setCell ⟨G + 1 + t, 0, none⟩ v2) (G + 1 + j) 87 [v] ∧
      LnsAt (bc k P) (w2.setCell ⟨G + 1 + t, 0, none⟩ v2) (fun b => G + 1 + k ≤ b ∧ b < (w2.setCell ⟨G + 1 + t, 0, none⟩ v2).heap.size) v (T.getD j []) := by
  have hsz := hb.size
  have oth : ∀ b, b ≠ G + 1 + t → (w2.setCell ⟨G + 1 + t, 0, none⟩ v2).heap[b]? = w2.heap[b]? := fun b hb => Below.heap_setCell _ _ _ _ hb
  refine ⟨fun j h1 h2 => ((h.1 j (by omega) h2).of (hb.block _ (by omega))).of (oth _ (by omega)), fun j hj => ?_⟩
  by_cases e : j = t
  · subst e
    refine ⟨v2, ((h.1 j (Nat.le_refl _) ht).of (hb.block _ (by omega))).set 0 v2, hl.next (fun b hb' => oth b (by omega)) (fun b hb' => ⟨by omega, by rw [heap_setCell_size]; omega⟩)⟩
  · obtain ⟨v, h1, h2⟩ := h.2 j (by omega)
    refine ⟨v, (h1.of (hb.block _ (by omega))).of (oth _ (by omega)), h2.next (fun b hb' => (oth b (by omega)).trans (hb.block b hb'.2)) (fun b hb' => ⟨hb'.1, by rw [heap_setCell_size]; omega⟩)⟩

theorem lns_val {g : SP → Nat → Value} {w : World} {B : Nat → Prop} {v : Value} {L : List (List SP)} (h : LnsAt g w B v L) : ∃ a n c, v = .slice a n c := by
  obtain ⟨a, c, V, h, _⟩ := h
  exact ⟨_, _, _, h⟩
set_option maxRecDepth 100000 in
set_option maxHeartbeats 2000000 in
theorem table_any (v : Value) (T : List (List (List SP))) (w : World) (hv : TabAt w (· < w.heap.size) v T) (hfit : TabFit T) :
    Calls Try.prog 19 #[v] w fun e w' => TblRes w T.length T e w' := by
  obtain ⟨a, c, V, rfl, hc, hn, hat, hel⟩ := hv
  have hf := hfit.1
  have HF : Hid (TabFit T) := hfit
  have HEL : Hid (∀ j, j < T.length → LnsAt pc w (· < w.heap.size) (V j) (T.getD j [])) := hel
  have HAT : Hid (At w (· < w.heap.size) a T.length T.length V) := hat
  clear hel hfit hat
  obtain ⟨i60, hi, hz0, hz1, hz2⟩ := info_parts info60
  obtain ⟨N, hN'⟩ : ∃ n, n = T.length := ⟨_, rfl⟩
  have HN : Hid (N = T.length) := hN'
  rw [← hN'] at hc hn hf ⊢
  clear hN'
  have mk := fun (w : World) => run_make_row' (P := Try.prog) 38 60 (.pointer none) 8 Try.underlying38 info60 rfl .i64 .i64 N (by omega) (by omega) w
  go_enter Try.func19, Try.ntmps19
  go_wp2_with fail
  have hblk : BlockAt (w.alloc (.cells (madeCells #[.pointer none] N) 60)) w.heap.size 60 (List.replicate N (.pointer none)) := by
    unfold BlockAt
    rw [← toList_madeCells_one]
    exact heap_alloc_new w _
  have hbl : Below w.heap.size w (w.alloc (.cells (madeCells #[.pointer none] N) 60)) := (Below.refl _ _).alloc (Nat.le_refl _) _
  have hs1 : (w.alloc (.cells (madeCells #[.pointer none] N) 60)).heap.size = w.heap.size + 1 + 0 := by simp
  generalize w.alloc (.cells (madeCells #[.pointer none] N) 60) = w1 at *
  clear mk
  go_loopw [4] (fun i wr => ∃ (k : Nat) (cs : List Value), i = .int .i64 k ∧ k ≤ N ∧ BlockAt wr w.heap.size 60 cs ∧ cs.length = N * 1 ∧ Below w.heap.size w wr ∧ wr.heap.size = w.heap.size + 1 + k ∧
    Hid (∀ j, j < k → cs[j]? = some (.pointer (some ⟨w.heap.size + 1 + j, 0, none⟩)) ∧ BlockAt wr (w.heap.size + 1 + j) 87 [.slice none 0 0])) (fun i _ => N - (intOf i).toNat)
  case atStart => exact ⟨0, _, rfl, Nat.zero_le _, hblk, by simp, hbl, hs1, fun j hj => by omega⟩
  case round =>
    clear hblk hbl hs1
    obtain ⟨k, cs, rfl, hk, hblk, hlen, hbl, hsz, HK⟩ := hrel
    by_cases hlt : k < N
    · go_wp2_with fail
      refine (new_any wr).mono ?_
      rintro e w2 ⟨rfl, hw2⟩
      have hb2 : Below wr.heap.size wr w2 := by rw [hw2]; exact (Below.refl _ _).alloc (Nat.le_refl _) _
      have hnew : BlockAt w2 wr.heap.size 87 [.slice none 0 0] := by rw [hw2]; exact heap_alloc_new wr _
      have hs2 : w2.heap.size = wr.heap.size + 1 := by rw [hw2]; simp
      clear hw2
      have hblk2 : BlockAt w2 w.heap.size 60 cs := hblk.of (hb2.block _ hblk.lt)
      have hfr := hblk2.free k
      obtain ⟨u, hu⟩ : ∃ u, cs[k]? = some u := ⟨_, List.getElem?_eq_getElem (by omega)⟩
      have hcw := hblk2.cell k hu
      have HST : Hid (∀ j, j < k + 1 → (cs.set k (.pointer (some ⟨wr.heap.size, 0, none⟩)))[j]? = some (.pointer (some ⟨w.heap.size + 1 + j, 0, none⟩)) ∧ BlockAt (w2.setCell ⟨w.heap.size, k, none⟩ (.pointer (some ⟨wr.heap.size, 0, none⟩))) (w.heap.size + 1 + j) 87 [.slice none 0 0]) := by
        intro j hj
        by_cases e : j = k
        · subst e
          rw [List.getElem?_set_self (by omega), hsz]
          refine ⟨rfl, ?_⟩
          refine BlockAt.of ?_ (Below.heap_setCell _ _ _ _ (by show _ ≠ w.heap.size; omega))
          rw [← hsz]; exact hnew
        · obtain ⟨h1, h2⟩ := HK.out j (by omega)
          refine ⟨by rw [List.getElem?_set_ne (by omega)]; exact h1, (h2.of (hb2.block _ (by omega))).of (Below.heap_setCell _ _ _ _ (by show _ ≠ w.heap.size; omega))⟩
      have hbl2 : Below w.heap.size w w2 := hbl.trans (hb2.mono (by omega))
      rw [hsz] at HST
      clear hb2 hnew hblk hbl hu HK
      go_wp2_with fail
      go_roundw
      case rel => exact ⟨k + 1, _, by go_num, by omega, hblk2.set k _, by simpa using hlen, hbl2.setCell (Nat.le_refl _) _, by rw [heap_setCell_size]; omega, HST⟩
      case measure => simp [intOf]; omega
    obtain rfl : k = N := by omega
    clear hlt hk
    have HP : Hid (PtrsAt wr (fun b => b = w.heap.size) (.slice (some ⟨w.heap.size, 0, none⟩) k k) k (fun d => w.heap.size + 1 + d)) := by
      refine ⟨_, _, rfl, Nat.le_refl _, fun _ => ⟨_, _, rfl, rfl, fun i hi => ?_⟩⟩
      rw [Nat.zero_add]
      exact hblk.cell i (HK.out i hi).1
    have HB : Hid (∀ j, j < k → BlockAt wr (w.heap.size + 1 + j) 87 [.slice none 0 0]) := fun j hj => (HK.out j hj).2
    have hgl := hblk.lt
    clear hblk HK hlen
    obtain ⟨wo, rfl⟩ : ∃ x, x = wr := ⟨_, rfl⟩
    have HBW : Hid (Below w.heap.size w wo) := hbl
    have HSZ : Hid (wo.heap.size = w.heap.size + 1 + k) := hsz
    clear hbl hsz
    go_wp2_with fail
    go_loopw [5] (fun i wr => ∃ (t : Nat), i = .int .i64 t ∧ t ≤ k ∧ Below (w.heap.size + 1) wo wr ∧
      Hid ((∀ j, t ≤ j → j < k → BlockAt wr (w.heap.size + 1 + j) 87 [.slice none 0 0]) ∧ ∀ j, j < t → ∃ v, BlockAt wr (w.heap.size + 1 + j) 87 [v] ∧ LnsAt (bc k (fun d => w.heap.size + 1 + d)) wr (fun b => w.heap.size + 1 + k ≤ b ∧ b < wr.heap.size) v (T.getD j []))) (fun i _ => k - (intOf i).toNat)
    case atStart => exact ⟨0, rfl, Nat.zero_le _, Below.refl _ _, fun j _ hj => HB.out j hj, fun j hj => by omega⟩
    case round =>
      obtain ⟨t, rfl, ht, hb2, HT⟩ := hrel
      have hbw : Below w.heap.size w wr := HBW.out.trans (hb2.mono (Nat.le_succ _))
      by_cases htl : t < k
      rotate_left
      · obtain rfl : t = k := by omega
        go_wp2_with fail
        go_ret
        have hsz2 := hb2.size
        have hsz := HSZ.out
        refine ⟨hbw, _, fun d => w.heap.size + 1 + d, rfl, HP.out.next (Same.of_below hb2 (fun b h => by omega)) (fun b h => by omega), fun d hd => ?_⟩
        · obtain ⟨v, h1, h2⟩ := HT.out.2 d hd
          exact ⟨⟨Nat.le_trans (Nat.le_succ _) (Nat.le_add_right _ _), h1.lt⟩, v, h1.cell 0 rfl, h2.next (fun b _ => rfl) (fun b h => ⟨by omega, h.2⟩)⟩
      obtain ⟨b, o, rfl, hb, hcell⟩ := HAT.out (by have := HN.out; omega)
      have hck := (hbw.cell (p := ⟨b, o + t, none⟩) hb).trans (hcell t (by have := HN.out; omega))
      clear hcell
      have HV : Hid (LnsAt pc wr (· < wr.heap.size) (V t) (T.getD t [])) := (HEL.out t (by have := HN.out; omega)).next (Same.of_below hbw (fun b h => h)) (fun b h => Nat.lt_of_lt_of_le h hbw.size)
      have HFT : Hid (LnsFit (T.getD t [])) := HF.out.2 t (by have := HN.out; omega)
      obtain ⟨at', nt, ct, hsh⟩ : ∃ a n c, V t = .slice a n c := by
        obtain ⟨a, c, V, e, _⟩ := HV.out
        exact ⟨_, _, _, e⟩
      rw [hsh] at hck HV
      clear hsh
      have HPR : Hid (PtrsAt wr (· < wr.heap.size) (.slice (some ⟨w.heap.size, 0, none⟩) k k) k (fun d => w.heap.size + 1 + d)) :=
        HP.out.next (Same.of_below hb2 (fun b h => by omega)) (fun b h => by have := hb2.size; omega)
      have hpc : wr.cell? ⟨w.heap.size, t, none⟩ = some (.pointer (some ⟨w.heap.size + 1 + t, 0, none⟩)) := by
        obtain ⟨a, c, e, _, h⟩ := HPR.out
        obtain ⟨b, o, h1, _, h2⟩ := h (by omega)
        cases e
        cases h1
        have := h2 t htl
        rwa [Nat.zero_add] at this
      have HVD : Hid (LnsAt pc wr.drew (· < wr.drew.heap.size) (.slice at' nt ct) (T.getD t [])) := HV.out.next (fun b _ => rfl) (fun b h => h)
      have HPD : Hid (PtrsAt wr.drew (· < wr.drew.heap.size) (.slice (some ⟨w.heap.size, 0, none⟩) k k) k (fun d => w.heap.size + 1 + d)) := HPR.out.next (fun b _ => rfl) (fun b h => h)
      have hbt := HT.out.1 t (Nat.le_refl _) htl
      have HL34 : Hid (Calls Try.prog 34 #[.slice at' nt ct, .slice (some ⟨w.heap.size, 0, none⟩) k k] wr.drew fun e w2 => ∃ a2 n2 c2, e = .returned (.slice a2 n2 c2) ∧ w2.cell? ⟨w.heap.size, t, none⟩ = some (.pointer (some ⟨w.heap.size + 1 + t, 0, none⟩)) ∧
          w2.cell? ⟨w.heap.size + 1 + t, 0, none⟩ = some (.slice none 0 0) ∧ w2.frozen? ⟨w.heap.size + 1 + t, 0, none⟩ = false ∧ Hid (Below wr.heap.size wr w2 ∧ LnsAt (bc k (fun d => w.heap.size + 1 + d)) w2 (fun b => wr.heap.size ≤ b ∧ b < w2.heap.size) (.slice a2 n2 c2) (T.getD t []))) := by
        refine (lines_any _ _ (T.getD t []) k (fun d => w.heap.size + 1 + d) _ HVD.out HFT.out HPD.out hf).mono ?_
        rintro e w2 ⟨hb3, v2, rfl, hln⟩
        obtain ⟨a2, n2, c2, rfl⟩ := lns_val hln
        have hbt2 : BlockAt w2 (w.heap.size + 1 + t) 87 [.slice none 0 0] := hbt.of (hb3.block _ hbt.lt)
        exact ⟨a2, n2, c2, rfl, (hb3.cell (p := ⟨w.heap.size, t, none⟩) (by have := hb2.size; have := HSZ.out; show w.heap.size < wr.heap.size; omega)).trans hpc, hbt2.cell 0 rfl, hbt2.free 0, ⟨hb3.os, hb3.tape, hb3.output, hb3.size, hb3.block⟩, hln⟩
      clear HVD HPD HV HPR hbt
      go_wp2_with fail
      go_region_with (first
        | (go_at_call 34; refine HL34.out.mono ?_; rintro e w2 ⟨a2, n2, c2, rfl, hp2, hz2, hf2, HX⟩)
        | (go_at_call 33; refine (set_any _ (w.heap.size + 1 + t) _ _ hz2 hf2 ⟨_, _, _, rfl⟩).mono ?_; rintro e w3 ⟨rfl, rfl⟩))
      all_goals (
        go_wp2_with fail
        go_roundw
        case rel => exact ⟨t + 1, by go_num, by omega, (hb2.trans (HX.out.1.mono (by have := hb2.size; have := HSZ.out; omega))).setCell (show w.heap.size + 1 ≤ w.heap.size + 1 + t by omega) _, tbl_step htl (by have := hb2.size; have := HSZ.out; omega) HT.out HX.out.1 HX.out.2⟩
        case measure => simp [intOf]; omega)
end Go.Proofs.Qxb6603470a
