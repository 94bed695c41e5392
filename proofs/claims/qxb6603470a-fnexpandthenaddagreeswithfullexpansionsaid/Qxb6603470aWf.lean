/-
  THE WALKS of hasRef (30), unfoldFits (15), wellFormedTable (16).
-/
import Derived.Test.Qxb6603470aSize
import Derived.BigQuiet
namespace Go.Proofs.Qxb6603470a
open Go.RowKit
set_option linter.unusedVariables false
set_option linter.unusedSimpArgs false

theorem hasRef_any (p : SP) (n : Nat) (w : World) :
    Calls Try.prog 30 #[.agg #[.string p.o, .string p.q, .int .i64 p.r, .int .i64 p.n], .int .i64 n] w fun e w' => e = .returned (.bool (hasR n p)) ∧ Below w.heap.size w w' := by
  obtain ⟨o, q, r, m⟩ := p
  go_enter Try.func30, Try.ntmps30
  by_cases h1 : 0 ≤ r
  · by_cases h2 : r < n
    · go_wp2
      go_ret
      exact ⟨by simp [hasR, h1, h2], (Below.refl _ _).alloc (Nat.le_refl _) _⟩
    · go_wp2
      go_ret
      exact ⟨by simp [hasR, h1, h2], (Below.refl _ _).alloc (Nat.le_refl _) _⟩
  · go_wp2
    go_ret
    exact ⟨by simp [hasR]; intro; omega, (Below.refl _ _).alloc (Nat.le_refl _) _⟩

theorem fits_any (a : Option Addr) (n c : Nat) (ty : ByteArray) (w : World) (hn : n ≤ 1048576) (hs : ty.size ≤ 1048576) :
    Calls Try.prog 15 #[.slice a n c, .string ty] w fun e w' => w' = w ∧ IsB e := by
  go_enter Try.func15, Try.ntmps15
  by_cases h : n = 0
  · subst h
    go_wp2
    go_ret
    exact ⟨rfl, _, rfl⟩
  · go_wp2
    go_ret
    exact ⟨rfl, _, rfl⟩

def WfRes (T : List (List (List SP))) (e : Ending) : Prop := ∃ b, e = .returned (.bool b) ∧ (b = true → WF T)
theorem below_drewN {B : Nat} {a w : World} (h : Below B a w) (m : Nat) : Below B a (w.drewN m) := ⟨h.os, h.tape, h.output, h.size, h.block⟩

set_option maxRecDepth 100000 in
set_option maxHeartbeats 4000000 in
theorem wf_any (v : Value) (T : List (List (List SP))) (w : World) (h4 : TabAt w (· < w.heap.size) v T) (hfit : TabFit T) :
    Calls Try.prog 16 #[v] w fun e w' => Below w.heap.size w w' ∧ WfRes T e := by
  obtain ⟨a4, c4, V4, rfl, g4, hn4, G4, E4⟩ := h4
  have H4 : Hid (At w (· < w.heap.size) a4 T.length T.length V4) := G4
  have HE : Hid (∀ d, d < T.length → LnsAt pc w (· < w.heap.size) (V4 d) (T.getD d [])) := E4
  have HF : Hid (TabFit T) := hfit
  have hnT := hfit.1
  clear G4 E4 g4 hfit
  obtain ⟨N, hN⟩ : ∃ n, n = T.length := ⟨_, rfl⟩
  have HN : Hid (N = T.length) := hN
  rw [← hN] at hn4 hnT ⊢
  clear hN
  go_enter Try.func16, Try.ntmps16
  go_wp2
  go_loopw [3, 4, 5, 6, 7] (fun i _ _ _ _ wr => ∃ (k : Nat), i = .int .i64 k ∧ k ≤ N ∧ Below w.heap.size w wr ∧ Hid (∀ d, d < k → DefOK T d (T.getD d []))) (fun i _ _ _ _ _ => N - (intOf i).toNat)
  case atStart => exact ⟨0, rfl, Nat.zero_le _, Below.refl _ _, fun d hd => by omega⟩
  case round =>
    obtain ⟨d, rfl, hd, hbl, HD⟩ := hrel
    by_cases hlt : d < N
    rotate_left
    · go_wp2
      go_ret
      refine ⟨hbl, _, rfl, fun _ d' hd' => HD.out d' (by have := HN.out; omega)⟩
    obtain ⟨b, o, rfl, hb, hcell⟩ := H4.out (by have := HN.out; omega)
    have HC : Hid (∀ i, i < T.length → w.cell? ⟨b, o + i, none⟩ = some (V4 i)) := hcell
    clear hcell
    have hcd := (hbl.cell (p := ⟨b, o + d, none⟩) hb).trans (HC.out d (by have := HN.out; omega))
    obtain ⟨a5, c5, V5, hV5, hn5, H5, HE5⟩ := lns_shape (HE.out d (by have := HN.out; omega))
    rw [hV5] at hcd
    have HV5 : Hid (V4 d = _) := hV5
    clear hV5
    have HA5 : Hid (At w (· < w.heap.size) a5 (T.getD d []).length (T.getD d []).length V5) := H5
    have HE6 : Hid (∀ j, j < (T.getD d []).length → PcsAt pc w (· < w.heap.size) (V5 j) ((T.getD d []).getD j [])) := HE5
    clear H5 HE5
    obtain ⟨n5, hN5⟩ : ∃ n, n = (T.getD d []).length := ⟨_, rfl⟩
    have HN5 : Hid (n5 = (T.getD d []).length) := hN5
    rw [← hN5] at hn5 hcd
    clear hN5
    go_wp2
    go_loopw [4, 5, 6, 7] (fun i _ _ _ wq => ∃ (k : Nat), i = .int .i64 k ∧ k ≤ n5 ∧ Below w.heap.size w wq ∧ Hid (∀ j, j < k → LineOK T d j ((T.getD d []).getD j []))) (fun i _ _ _ _ => n5 - (intOf i).toNat)
    case atStart => exact ⟨0, rfl, Nat.zero_le _, hbl, fun d hd => by omega⟩
    case round =>
      clear hcd hbl
      obtain ⟨j, rfl, hj, hbl, HJ⟩ := hrel
      have hcd := (hbl.cell (p := ⟨b, o + d, none⟩) hb).trans (HC.out d (by have := HN.out; omega))
      rw [HV5.out, ← HN5.out] at hcd
      by_cases hjlt : j < n5
      rotate_left
      · go_wp2
        go_roundw
        case rel =>
          refine ⟨d + 1, by go_num, by omega, hbl, fun e he => ?_⟩
          by_cases x : e = d
          · subst x
            intro j' hj'
            exact HJ.out j' (by have := HN5.out; omega)
          · exact HD.out e (by omega)
        case measure => simp [intOf]; omega
      obtain ⟨b5, o5, rfl, hb5, hcell⟩ := HA5.out (by have := HN5.out; omega)
      have hcj := (hbl.cell (p := ⟨b5, o5 + j, none⟩) hb5).trans (hcell j (by have := HN5.out; omega))
      clear hcell
      obtain ⟨a6, c6, hV6, hn6, H6⟩ := pcs_shape (HE6.out j (by have := HN5.out; omega))
      rw [hV6] at hcj
      clear hV6
      generalize hL6 : (T.getD d []).getD j [] = L6 at *
      have HL6 : Hid ((T.getD d []).getD j [] = L6) := hL6
      clear hL6
      have HA6 : Hid (At w (· < w.heap.size) a6 L6.length (L6.length * 4) (fun i => pc (L6.getD (i / 4) default) (i % 4))) := H6
      clear H6
      obtain ⟨n6, hN6⟩ : ∃ n, n = L6.length := ⟨_, rfl⟩
      have HN6 : Hid (n6 = L6.length) := hN6
      rw [← hN6] at hcj hn6
      clear hN6
      by_cases hz : n6 = 0
      · go_wp2
        go_ret
        exact ⟨hbl, _, rfl, fun h => by cases h⟩
      have hzb : ((n6 : Int) == 0) = false := by simp; omega
      go_wp2
      go_loopw [6, 7] (fun i _ wp => ∃ (k : Nat), i = .int .i64 k ∧ k ≤ n6 ∧ Below w.heap.size w wp ∧ Hid (∀ m, m < k → POK T d j (L6.getD m default))) (fun i _ _ => n6 - (intOf i).toNat)
      case atStart => exact ⟨0, rfl, Nat.zero_le _, hbl, fun d hd => by omega⟩
      case round =>
        clear hcd hcj hbl
        obtain ⟨m, rfl, hm, hbl, HM⟩ := hrel
        by_cases hmlt : m < n6
        rotate_left
        · go_wp2
          go_roundw
          case rel =>
            refine ⟨j + 1, by go_num, by omega, hbl, fun e he => ?_⟩
            by_cases x : e = j
            · subst x
              rw [HL6.out]
              exact ⟨by have := HN6.out; omega, fun k hk => HM.out k (by have := HN6.out; omega)⟩
            · exact HJ.out e (by omega)
          case measure => simp [intOf]; omega
        obtain ⟨b6, o6, rfl, hb6, hcell⟩ := HA6.out (by have := HN6.out; omega)
        obtain ⟨d0, d1, d2, d3⟩ := at4 (a := none) (n := 0) (k := m) (by have := HN6.out; omega) hcell
        clear hcell
        replace d0 := (hbl.cell (p := ⟨b6, o6 + m * 4, none⟩) hb6).trans d0
        replace d1 := (hbl.cell (p := ⟨b6, o6 + m * 4 + 1, none⟩) hb6).trans d1
        replace d2 := (hbl.cell (p := ⟨b6, o6 + m * 4 + 2, none⟩) hb6).trans d2
        replace d3 := (hbl.cell (p := ⟨b6, o6 + m * 4 + 3, none⟩) hb6).trans d3
        generalize hp : L6.getD m default = p at *
        have HP : Hid (L6.getD m default = p) := hp
        clear hp
        obtain ⟨po, pq, pr, pn⟩ := p
        simp only [pc] at d0 d1 d2 d3
        go_wp2_with fail
        refine (hasRef_any ⟨po, pq, pr, pn⟩ N _).mono ?_
        rintro e w1 ⟨rfl, hb1⟩
        have hsz := hbl.size
        have hb2 : Below w.heap.size w w1 := (hbl.alloc hsz _).trans (hb1.mono (by simp; omega))
        have e0 : w1.cell? ⟨wr.heap.size, 0, none⟩ = some (.string po) := (hb1.cell (p := ⟨wr.heap.size, 0, none⟩) (by simp)).trans ((World.cell?_alloc_at _ _ _ _ rfl).trans rfl)
        have e1 : w1.cell? ⟨wr.heap.size, 1, none⟩ = some (.string pq) := (hb1.cell (p := ⟨wr.heap.size, 1, none⟩) (by simp)).trans ((World.cell?_alloc_at _ _ _ _ rfl).trans rfl)
        have e2 : w1.cell? ⟨wr.heap.size, 2, none⟩ = some (.int .i64 pr) := (hb1.cell (p := ⟨wr.heap.size, 2, none⟩) (by simp)).trans ((World.cell?_alloc_at _ _ _ _ rfl).trans rfl)
        have e3 : w1.cell? ⟨wr.heap.size, 3, none⟩ = some (.int .i64 pn) := (hb1.cell (p := ⟨wr.heap.size, 3, none⟩) (by simp)).trans ((World.cell?_alloc_at _ _ _ _ rfl).trans rfl)
        clear hb1 hsz hbl d0 d1 d2 d3
        generalize wr.heap.size = mb at *
        have HPK : Hid (POK T d j ⟨po, pq, pr, pn⟩ → ∀ m', m' < m + 1 → POK T d j (L6.getD m' default)) := fun h m' hm' => by
          by_cases x : m' = m
          · subst x; rw [HP.out]; exact h
          · exact HM.out m' (by omega)
        clear HM
        cases hr : hasR N ⟨po, pq, pr, pn⟩
        · have HR : Hid (hasR N ⟨po, pq, pr, pn⟩ = false) := hr
          clear hr
          by_cases hq : pq.size = 0
          · obtain rfl : pq = ⟨#[]⟩ := by
              obtain ⟨x⟩ := pq
              have : x.size = 0 := hq
              rw [Array.size_eq_zero_iff.1 this]
            go_wp2
            go_ret
            exact ⟨hb2, _, rfl, fun h => by cases h⟩
          · have hq2 : (pq.toList == []) = false := by
              rw [ByteArray.toList_eq]
              cases hx : pq.data.toList with
              | nil =>
                refine absurd ?_ hq
                have : pq.data.toList.length = 0 := by rw [hx]; rfl
                exact this
              | cons a l => rfl
            go_wp2
            go_roundw
            case rel =>
              refine ⟨m + 1, by go_num, by omega, hb2, HPK.out (show POK T d j ⟨po, pq, pr, pn⟩ from ⟨fun _ => hq, fun h => ?_⟩)⟩
              have := HR.out
              rw [HN.out] at this
              rw [this] at h; cases h
            case measure => simp [intOf]; omega
        · have HR : Hid (hasR N ⟨po, pq, pr, pn⟩ = true) := hr
          clear hr
          obtain ⟨hr0, hr1⟩ : 0 ≤ pr ∧ pr < N := by simpa [hasR] using HR.out
          obtain ⟨R, rfl⟩ : ∃ R : Nat, pr = R := ⟨pr.toNat, by omega⟩
          have hRN : R < N := by omega
          have hcR := (hb2.cell (p := ⟨b, o + R, none⟩) hb).trans (HC.out R (by have := HN.out; omega))
          obtain ⟨a7, c7, V7, hV7, hn7, _, _⟩ := lns_shape (HE.out R (by have := HN.out; omega))
          rw [hV7] at hcR
          clear hV7
          generalize hl7 : (T.getD R []).length = n7 at *
          have HL7 : Hid ((T.getD R []).length = n7) := hl7
          clear hl7
          go_wp2_with fail
          by_cases hx1 : pn < 1
          · have hd1 : decide (pn < 1) = true := by simp [hx1]
            go_quiet (fail)
            go_wp2
            go_ret
            exact ⟨below_drewN hb2 _, _, rfl, fun h => by cases h⟩
          have hd1 : decide (pn < 1) = false := by simp [hx1]
          by_cases hx2 : (n7 : Int) < pn
          · have hd2 : decide ((n7 : Int) < pn) = true := by simp [hx2]
            go_quiet (fail)
            go_wp2
            go_ret
            exact ⟨below_drewN hb2 _, _, rfl, fun h => by cases h⟩
          have hd2 : decide ((n7 : Int) < pn) = false := by simp [hx2]
          have hb3 := fun x => below_drewN hb2 x
          go_quiet (fail)
          replace hb3 := hb3 nq
          replace e2 : (w1.drewN nq).cell? ⟨mb, 2, none⟩ = _ := e2
          replace e3 : (w1.drewN nq).cell? ⟨mb, 3, none⟩ = _ := e3
          clear hd1 hd2
          generalize w1.drewN nq = w2 at *
          by_cases hx3 : (d : Int) < R
          · go_wp2
            go_ret
            exact ⟨hb3, _, rfl, fun h => by cases h⟩
          by_cases hx4 : R = d
          · have hx4b : ((R : Int) == (d : Int)) = true := by simp [hx4]
            by_cases hx5 : (j : Int) < pn
            · go_wp2
              go_ret
              exact ⟨hb3, _, rfl, fun h => by cases h⟩
            · go_wp2
              go_roundw
              case rel =>
                refine ⟨m + 1, by go_num, by omega, hb3, HPK.out (show POK T d j ⟨po, pq, R, pn⟩ from ⟨fun h => ?_, fun _ => ⟨by dsimp only; omega, ?_, by dsimp only; omega, by dsimp only; omega⟩⟩)⟩
                · have := HR.out
                  rw [HN.out] at this
                  rw [this] at h; cases h
                · have := HL7.out
                  dsimp only
                  simp only [Int.toNat_natCast]
                  omega
              case measure => simp [intOf]; omega
          · have hx4b : ((R : Int) == (d : Int)) = false := by simp; omega
            go_wp2
            go_roundw
            case rel =>
              refine ⟨m + 1, by go_num, by omega, hb3, HPK.out (show POK T d j ⟨po, pq, R, pn⟩ from ⟨fun h => ?_, fun _ => ⟨by dsimp only; omega, ?_, by dsimp only; omega, by dsimp only; omega⟩⟩)⟩
              · have := HR.out
                rw [HN.out] at this
                rw [this] at h; cases h
              · have := HL7.out
                dsimp only
                simp only [Int.toNat_natCast]
                omega
            case measure => simp [intOf]; omega
end Go.Proofs.Qxb6603470a
