/-
  THE WALK of buildTypes (20): the map of the types.
-/
import Derived.Test.Qxb6603470aTable
import Derived.Test.Qxb6603470aLook
import Derived.Maps.OwnOps
import Derived.Maps.Views
import Derived.StringKeys
namespace Go.Proofs.Qxb6603470a
open Go.RowKit Go.Maps
set_option linter.unusedVariables false
set_option linter.unusedSimpArgs false

theorem law9 : Keyed Try.prog 9 := string_keyed Try.underlying9
/-- How an element (a pointer to defaults) is told: -1 for nil, else its block. -/
def ptrR (v : Value) : Option (DataW Unit × List MemPlace) :=
  match v with
  | .pointer none => some (.lit (.int .i64 (-1)), [])
  | .pointer (some ⟨b, 0, none⟩) => some (.lit (.int .i64 b), [])
  | _ => none
theorem ptrR_nil {v : Value} {ps : List MemPlace} (h : ptrR v = some (.lit (.int .i64 (-1)), ps)) : v = .pointer none := by
  unfold ptrR at h
  split at h
  · rfl
  · simp at h
  · cases h
theorem ptrR_some {v : Value} {ps : List MemPlace} {b : Nat} (h : ptrR v = some (.lit (.int .i64 b), ps)) : v = .pointer (some ⟨b, 0, none⟩) := by
  unfold ptrR at h
  split at h
  · simp at h
  · rename_i b'
    simp at h
    obtain ⟨h, _⟩ := h
    rw [show b' = b by omega]
  · cases h

theorem run_makeMap_hint (w : World) (n : Nat) : (Instr.makeMap 40 (some (.int .i64 n))).run Try.prog w = .ok (.map (some w.heap.size)) (w.alloc (.map #[] 0)) := by
  have hu : Try.prog.underlying 40 = some (.map 9 60) := Try.underlying40
  simp [Instr.makeMap, run_underlying hu, asInt, asIntOf, Result.andThen]

/-- A look-up's answer as a number. -/
def code (P : Nat → Nat) (d : Int) : Int := if d < 0 then -1 else (P d.toNat : Int)
/-- The map of the types after k names. -/
def TyInv (w : World) (m : Nat) (nm : List ByteArray) (rf : List Int) (N : Nat) (P : Nat → Nat) (k : Nat) : Prop :=
  ∃ D : DataW Unit, w.ownsMap Try.prog 9 ptrR m k D ∧ IsMap D ∧ ∀ name : ByteArray, D.atKey (.string name.data.toList) (.lit (.int .i64 (-1))) = .lit (.int .i64 (code P (look nm rf N name k)))

theorem ty_start (w : World) (nm : List ByteArray) (rf : List Int) (N : Nat) (P : Nat → Nat) : TyInv (w.alloc (.map #[] 0)) w.heap.size nm rf N P 0 :=
  ⟨.map [], World.ownsMap_made w _ _ _, isMap_empty, fun name => rfl⟩
theorem ty_put {D : DataW Unit} {nm : List ByteArray} {rf : List Int} {N : Nat} {P : Nat → Nat} {k : Nat} (hD : IsMap D)
    (h : ∀ name : ByteArray, D.atKey (.string name.data.toList) (.lit (.int .i64 (-1))) = .lit (.int .i64 (code P (look nm rf N name k)))) :
    IsMap (D.put (.string (nm.getD k ByteArray.empty).data.toList) (.lit (.int .i64 (code P (refD rf N k))))) ∧
      ∀ name : ByteArray, (D.put (.string (nm.getD k ByteArray.empty).data.toList) (.lit (.int .i64 (code P (refD rf N k))))).atKey (.string name.data.toList) (.lit (.int .i64 (-1))) = .lit (.int .i64 (code P (look nm rf N name (k + 1)))) := by
  refine ⟨hD.put _ _, fun name => ?_⟩
  unfold look
  by_cases e : nm.getD k ByteArray.empty = name
  · rw [if_pos e, e]
    exact atKey_put_same (k := .string name.data.toList) hD trivial _ _
  · rw [if_neg e, atKey_put_other ?_, h name]
    intro hx
    apply e
    have h2 : name.data.toList = (nm.getD k ByteArray.empty).data.toList := by injection hx
    generalize nm.getD k ByteArray.empty = s at *
    obtain ⟨⟨l⟩⟩ := s
    obtain ⟨⟨l'⟩⟩ := name
    simp at h2
    rw [h2]

def TyRes (w : World) (nm : List ByteArray) (rf : List Int) (N : Nat) (P : Nat → Nat) (e : Ending) (w' : World) : Prop :=
  Below w.heap.size w w' ∧ e = .returned (.map (some w.heap.size)) ∧ TyInv w' w.heap.size nm rf N P nm.length

set_option maxRecDepth 100000 in
set_option maxHeartbeats 1000000 in
theorem types_any (v0 v1 v2 : Value) (nm : List ByteArray) (rf : List Int) (N : Nat) (P : Nat → Nat) (w : World) (h0 : StrsAt w (· < w.heap.size) v0 nm) (h1 : IntsAt w (· < w.heap.size) v1 rf) (h2 : PtrsAt w (· < w.heap.size) v2 N P)
    (hN : N ≤ 1048576) (hfit : StrsFit nm) : Calls Try.prog 20 #[v0, v1, v2] w fun e w' => TyRes w nm rf N P e w' := by
  obtain ⟨a, c, rfl, hc, hn, hat⟩ := h0
  obtain ⟨a1, c1, rfl, hh1⟩ := h1
  obtain ⟨a2, c2, rfl, hc2, hat2⟩ := h2
  have H1 : Hid (IntsAt w (· < w.heap.size) (.slice a1 rf.length c1) rf) := ⟨_, _, rfl, hh1⟩
  have H2 : Hid (At w (· < w.heap.size) a2 N N (fun d => .pointer (some ⟨P d, 0, none⟩))) := hat2
  have HAT : Hid (At w (· < w.heap.size) a nm.length nm.length (fun i => .string (nm.getD i ByteArray.empty))) := hat
  have HF : Hid (StrsFit nm) := hfit
  have hl := hfit.1
  clear hat hat2 hh1 hfit
  obtain ⟨n, hn'⟩ : ∃ n, n = nm.length := ⟨_, rfl⟩
  have HN : Hid (n = nm.length) := hn'
  rw [← hn'] at hc hn hl ⊢
  clear hn'
  generalize rf.length = n1 at *
  have mk := fun (w : World) => run_makeMap_hint w n
  go_enter Try.func20, Try.ntmps20
  go_wp2_with fail
  have HS : Hid (TyInv (w.alloc (.map #[] 0)) w.heap.size nm rf N P 0) := ty_start _ _ _ _ _
  have hbl : Below w.heap.size w (w.alloc (.map #[] 0)) := (Below.refl _ _).alloc (Nat.le_refl _) _
  generalize w.alloc (.map #[] 0) = w1 at *
  clear mk
  go_loopw [8, 9] (fun i _ wr => ∃ (k : Nat), i = .int .i64 k ∧ k ≤ n ∧ Below w.heap.size w wr ∧ Hid (TyInv wr w.heap.size nm rf N P k)) (fun i _ _ => n - (intOf i).toNat)
  case atStart => exact ⟨0, rfl, Nat.zero_le _, hbl, HS⟩
  case round =>
    clear hbl HS
    obtain ⟨k, rfl, hk, hbl, HK⟩ := hrel
    by_cases hlt : k < n
    rotate_left
    · obtain rfl : k = n := by omega
      go_wp2_with fail
      go_ret
      exact ⟨hbl, rfl, by rw [← HN.out]; exact HK.out⟩
    obtain ⟨b, o, rfl, hb, hcell⟩ := HAT.out (by have := HN.out; omega)
    have hck : wr.cell? ⟨b, o + k, none⟩ = some (.string (nm.getD k ByteArray.empty)) := (hbl.cell (p := ⟨b, o + k, none⟩) hb).trans (hcell k (by have := HN.out; omega))
    clear hcell
    have HIR : Hid (IntsAt wr (· < wr.heap.size) (.slice a1 n1 c1) rf) := H1.out.next (Same.of_below hbl (fun b h => h)) (fun b h => Nat.lt_of_lt_of_le h hbl.size)
    obtain ⟨D, hown, hD, hat⟩ := HK.out
    have HPUT := ty_put hD hat
    clear HK hat hD
    have hks : (nm.getD k ByteArray.empty).size ≤ maxLen := by have := HF.out.2 k (by have := HN.out; omega); unfold maxLen; omega
    have hkey := WideMaps.keyOf_string_mk Try.underlying9 hks
    have hkn : k < maxLen := by unfold maxLen; omega
    have hrg := refD_range rf N k
    go_wp2_with fail
    refine (refAt_any _ rf k N _ _ HIR.out hN (by omega)).mono ?_
    rintro e w' ⟨rfl, hw⟩
    rw [hw]
    clear hw w'
    have hsz := hbl.size
    have hmb : ∀ j, some w.heap.size = some j → w.heap.size ≤ j := fun j hj => by cases hj; exact Nat.le_refl _
    generalize hd : refD rf N k = d at *
    generalize nm.getD k ByteArray.empty = s at *
    by_cases hneg : d < 0
    · have HC : Hid (code P d = -1) := by unfold code; rw [if_pos hneg]; rfl
      go_wp2_with (at_mapUpdate; refine wpList_mapUpdate_own _ rfl (.tmp 26) (.tmp 30) (.const (.pointer none)) 40 rfl 9 60 law9 Try.underlying40 ptrR w.heap.size k D rfl hown hkn _ _ _ rfl rfl hkey (.lit (.int .i64 (-1))) [] rfl ?_; intro w2 hown2 hg2)
      have HT : Hid (TyInv w2 w.heap.size nm rf N P (k + 1)) := by
        rw [HC.out] at HPUT
        exact ⟨_, hown2, HPUT.1, HPUT.2⟩
      have hbl2 := hbl.grown hg2 hsz hmb
      clear HPUT hown2 hg2 hown hbl
      go_wp2_with fail
      go_roundw
      case rel => exact ⟨k + 1, by go_num, by omega, hbl2, HT⟩
      case measure => simp [intOf]; omega
    · obtain ⟨R, rfl⟩ : ∃ R : Nat, d = R := ⟨d.toNat, by omega⟩
      have HC : Hid (code P R = (P R : Int)) := by unfold code; rw [if_neg hneg]; rfl
      have hRN : R < N := by omega
      obtain ⟨b2, o2, rfl, hb2, hcell2⟩ := H2.out (by omega)
      have hcR : wr.cell? ⟨b2, o2 + R, none⟩ = some (.pointer (some ⟨P R, 0, none⟩)) := (hbl.cell (p := ⟨b2, o2 + R, none⟩) hb2).trans (hcell2 R hRN)
      obtain ⟨w2, hrun, hown2, hg2⟩ := World.ownsMap.update (t := 40) (e := 60) hown.drew law9 Try.underlying40 hkn (val := .pointer (some ⟨P R, 0, none⟩)) hkey (d := .lit (.int .i64 (P R))) (ps := []) rfl
      have HT : Hid (TyInv w2 w.heap.size nm rf N P (k + 1)) := by
        rw [HC.out] at HPUT
        exact ⟨_, hown2, HPUT.1, HPUT.2⟩
      have hbl2 := (hbl.drew).grown hg2 hsz hmb
      clear HPUT hown2 hg2 hown hcell2
      go_wp2_with fail
      go_region
      all_goals (
        go_wp2_with fail
        go_roundw
        case rel => exact ⟨k + 1, by go_num, by omega, hbl2, HT⟩
        case measure => simp [intOf]; omega)

/-- What the map answers at a name. -/
def TypesAt (w : World) (m : Nat) (nm : List ByteArray) (rf : List Int) (N : Nat) (P : Nat → Nat) : Prop := TyInv w m nm rf N P nm.length
theorem TypesAt.next {w w' : World} {m : Nat} {nm : List ByteArray} {rf : List Int} {N : Nat} {P : Nat → Nat} (h : TypesAt w m nm rf N P) (hb : w'.heap[m]? = w.heap[m]?) : TypesAt w' m nm rf N P := by
  obtain ⟨D, ⟨es, clock, h1, h2⟩, h3⟩ := h
  exact ⟨D, ⟨es, clock, hb.trans h1, h2⟩, h3⟩
theorem zero60 (w : World) : (zeroValue 60).run Try.prog w = .ok (.pointer none) w := by kernel_rfl
theorem TypesAt.lookup {w : World} {m : Nat} {nm : List ByteArray} {rf : List Int} {N : Nat} {P : Nat → Nat} (h : TypesAt w m nm rf N P) (name : ByteArray) (hs : name.size ≤ 1048576) :
    (Instr.lookup 40 (.map (some m)) (.string name) false).run Try.prog w = .ok (.pointer (if look nm rf N name nm.length < 0 then none else some ⟨P (look nm rf N name nm.length).toNat, 0, none⟩)) w := by
  obtain ⟨D, hown, _, hat⟩ := h
  have hkey := WideMaps.keyOf_string_mk (s := name) Try.underlying9 (by unfold maxLen; omega)
  obtain ⟨v, ps, hrun, hv⟩ := hown.lookup (t := 40) (e := 60) law9 Try.underlying40 (zero60 w) (zd := .lit (.int .i64 (-1))) (zp := []) rfl hkey
  rw [hat name] at hv
  rw [hrun]
  unfold code at hv
  by_cases hn : look nm rf N name nm.length < 0
  · rw [if_pos hn] at hv ⊢
    rw [ptrR_nil hv]
  · rw [if_neg hn] at hv ⊢
    rw [ptrR_some hv]
end Go.Proofs.Qxb6603470a
