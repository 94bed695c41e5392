/-
  THE WALKS of what builds the table: ZZMakePiece (56), buildPiece (49), buildLines (34), ZZNewDefaults (32), ZZSetLines (33), buildTable (19).
-/
import Derived.Test.Qxb6603470aClone
import Derived.Test.Qxb6603470aWf
namespace Go.Proofs.Qxb6603470a
open Go.RowKit
set_option linter.unusedVariables false
set_option linter.unusedSimpArgs false

/-- The defaults that a piece names, as a pointer: P d is the block of defaults d. -/
def ptrOf (N : Nat) (P : Nat → Nat) (p : SP) : Option Addr := if hasR N p then some ⟨P p.r.toNat, 0, none⟩ else none
/-- The cells of a built piece. -/
def bc (N : Nat) (P : Nat → Nat) (p : SP) : Nat → Value
  | 0 => .string p.o
  | 1 => .string p.q
  | 2 => .pointer (ptrOf N P p)
  | _ => .int .i64 p.n
def PtrsAt (w : World) (B : Nat → Prop) (v : Value) (N : Nat) (P : Nat → Nat) : Prop :=
  ∃ a c, v = .slice a N c ∧ N ≤ c ∧ At w B a N N (fun d => .pointer (some ⟨P d, 0, none⟩))

theorem results_cell1 {fn : Func} {p : Tmp} {ty : TypeId} (h : fn.results = #[.cell p ty]) (tmps : Array Value) (P : Program) (w : World) :
    (results fn tmps).run P w = ((asAddr (tmps.getD p undef)).run P w).andThen fun a w₁ => (loadVar ty a).run P w₁ := by
  simp only [results, h]
  simp [Sem.run_bind, Result.andThen]
/-- A function that hands back the piece in block B. -/
theorem cell_ret {fn : Func} {p : Tmp} (hfn : fn.results = #[.cell p 89]) {w2 : World} {B : Nat} {cs : List Value} {a : Act} {Rr : Ending → World → Prop} (hst : BlockAt w2 B 89 cs) (hl : cs.length = 4) (hp : a.tmps.getD p undef = .pointer (some ⟨B, 0, none⟩))
    (hd : a.defers = []) (hR : Rr (.returned (.agg cs.toArray)) w2) : bodyPost Try.prog fn Rr .ret a w2 := by
  refine bodyPost_ret (v := .agg cs.toArray) ?_ hd hR
  rw [results_cell1 hfn, hp]
  have := run_loadVar_row (P := Try.prog) w2 B 89 89 cs.toArray (0, 0) _ hst Try.underlying89 rfl (by simp only [List.size_toArray, hl]; kernel_rfl)
  simp [asAddr, this, Result.andThen]

theorem make_any (o q : ByteArray) (a : Option Addr) (n : Int) (w : World) :
    Calls Try.prog 56 #[.string o, .string q, .pointer a, .int .i64 n] w fun e w' => e = .returned (.agg #[.string o, .string q, .pointer a, .int .i64 n]) ∧ Below w.heap.size w w' := by
  go_enter Try.func56, Try.ntmps56
  go_wp2_with fail
  refine cell_ret rfl (B := w.heap.size) (cs := [.string o, .string q, .pointer a, .int .i64 n]) ?_ rfl rfl rfl ⟨rfl, (Below.refl _ _).alloc (Nat.le_refl _) _⟩
  exact heap_alloc_new w _
theorem new_any (w : World) : Calls Try.prog 32 #[] w fun e w' => e = .returned (.pointer (some ⟨w.heap.size, 0, none⟩)) ∧ w' = w.alloc (.cells #[.slice none 0 0] 87) := by
  go_enter Try.func32, Try.ntmps32
  go_wp2_with fail
  go_ret
  exact ⟨rfl, rfl⟩
theorem set_any (w : World) (g : Nat) (v u : Value) (hc : w.cell? ⟨g, 0, none⟩ = some u) (hf : w.frozen? ⟨g, 0, none⟩ = false) (hv : ∃ a n c, v = .slice a n c) :
    Calls Try.prog 33 #[.pointer (some ⟨g, 0, none⟩), v] w fun e w' => e = .returned (.tuple #[]) ∧ w' = w.setCell ⟨g, 0, none⟩ v := by
  obtain ⟨a, n, c, rfl⟩ := hv
  go_enter Try.func33, Try.ntmps33
  go_wp2_with fail
  go_end0
  exact ⟨rfl, rfl⟩

theorem two_boxes (w : World) (c1 c2 : Array Value) (t1 t2 : TypeId) :
    ((w.alloc (.cells c1 t1)).alloc (.cells c2 t2)).heap[w.heap.size]? = some (.cells c1 t1 (0, 0)) ∧ ((w.alloc (.cells c1 t1)).alloc (.cells c2 t2)).heap[w.heap.size + 1]? = some (.cells c2 t2 (0, 0)) := by
  constructor
  · rw [Below.heap_alloc _ _ _ (by simp)]; exact heap_alloc_new w _
  · have := heap_alloc_new (w.alloc (.cells c1 t1)) (.cells c2 t2)
    simpa using this

set_option maxRecDepth 100000 in
set_option maxHeartbeats 1000000 in
theorem piece_any (p : SP) (vp : Value) (N : Nat) (P : Nat → Nat) (w : World) (hv : PtrsAt w (· < w.heap.size) vp N P) (hN : N ≤ 1048576) :
    Calls Try.prog 49 #[.agg #[.string p.o, .string p.q, .int .i64 p.r, .int .i64 p.n], vp] w fun e w' =>
      e = .returned (.agg #[.string p.o, .string p.q, .pointer (ptrOf N P p), .int .i64 p.n]) ∧ Below w.heap.size w w' := by
  obtain ⟨a, c, rfl, hc, hat⟩ := hv
  have HAT : Hid (At w (· < w.heap.size) a N N (fun d => .pointer (some ⟨P d, 0, none⟩))) := hat
  clear hat
  obtain ⟨po, pq, pr, pn⟩ := p
  dsimp only
  go_enter Try.func49, Try.ntmps49
  go_wp2_with fail
  refine (hasRef_any ⟨po, pq, pr, pn⟩ N _).mono ?_
  rintro e w1 ⟨rfl, hb1⟩
  obtain ⟨hA, hZ⟩ := two_boxes w #[.string po, .string pq, .int .i64 pr, .int .i64 pn] #[.string ⟨#[]⟩, .string ⟨#[]⟩, .pointer none, .int .i64 0] 55 89
  have hA1 : BlockAt w1 w.heap.size 55 [.string po, .string pq, .int .i64 pr, .int .i64 pn] := (hb1.block _ (by simp; omega)).trans hA
  have hZ1 : BlockAt w1 (w.heap.size + 1) 89 [.string ⟨#[]⟩, .string ⟨#[]⟩, .pointer none, .int .i64 0] := (hb1.block _ (by simp)).trans hZ
  have hbl : Below w.heap.size w w1 := (((Below.refl _ _).alloc (Nat.le_refl _) _).alloc (by simp) _).trans (hb1.mono (by simp; omega))
  have hs1 : w.heap.size + 1 < w1.heap.size := hZ1.lt
  clear hb1 hA hZ
  have c0 := hA1.cell 0 rfl
  have c1 := hA1.cell 1 rfl
  have c2 := hA1.cell 2 rfl
  have c3 := hA1.cell 3 rfl
  cases hr : hasR N ⟨po, pq, pr, pn⟩
  · have HP : Hid (ptrOf N P ⟨po, pq, pr, pn⟩ = none) := by unfold ptrOf; rw [hr]; rfl
    clear hr
    go_wp2_with fail
    refine (make_any po pq none pn _).mono ?_
    rintro e w2 ⟨rfl, hb2⟩
    have hZ2 : BlockAt w2 (w.heap.size + 1) 89 _ := hZ1.of (hb2.block _ hs1)
    have hbl2 : Below w.heap.size w w2 := hbl.trans (hb2.mono (by omega))
    clear hb2 hbl hZ1 hA1 c0 c1 c2 c3 hs1
    have d0 := hZ2.cell 0 rfl
    have d1 := hZ2.cell 1 rfl
    have d2 := hZ2.cell 2 rfl
    have d3 := hZ2.cell 3 rfl
    have f0 := hZ2.free 0
    have f1 := hZ2.free 1
    have f2 := hZ2.free 2
    have f3 := hZ2.free 3
    go_wp2_with fail
    exact cell_ret rfl (B := w.heap.size + 1) (cs := [.string po, .string pq, .pointer none, .int .i64 pn]) ((((hZ2.set 0 _).set 1 _).set 2 _).set 3 _) rfl rfl rfl ⟨by rw [HP.out], (((hbl2.setCell (Nat.le_succ _) _).setCell (Nat.le_succ _) _).setCell (Nat.le_succ _) _).setCell (Nat.le_succ _) _⟩
  · obtain ⟨hr0, hr1⟩ : 0 ≤ pr ∧ pr < N := by simpa [hasR] using hr
    obtain ⟨R, rfl⟩ : ∃ R : Nat, pr = R := ⟨pr.toNat, by omega⟩
    have HP : Hid (ptrOf N P ⟨po, pq, R, pn⟩ = some ⟨P R, 0, none⟩) := by unfold ptrOf; rw [hr]; rfl
    clear hr
    obtain ⟨b, o, rfl, hb, hcell⟩ := HAT.out (by omega)
    have hcR : w1.cell? ⟨b, o + R, none⟩ = some (.pointer (some ⟨P R, 0, none⟩)) := (hbl.cell (p := ⟨b, o + R, none⟩) hb).trans (hcell R (by omega))
    clear hcell HAT
    go_wp2_with fail
    refine (make_any po pq (some ⟨P R, 0, none⟩) pn _).mono ?_
    rintro e w2 ⟨rfl, hb2⟩
    have hZ2 : BlockAt w2 (w.heap.size + 1) 89 _ := hZ1.of (hb2.block _ hs1)
    have hbl2 : Below w.heap.size w w2 := hbl.trans (hb2.mono (by omega))
    clear hb2 hbl hZ1 hA1 c0 c1 c2 c3 hs1 hcR
    have d0 := hZ2.cell 0 rfl
    have d1 := hZ2.cell 1 rfl
    have d2 := hZ2.cell 2 rfl
    have d3 := hZ2.cell 3 rfl
    have f0 := hZ2.free 0
    have f1 := hZ2.free 1
    have f2 := hZ2.free 2
    have f3 := hZ2.free 3
    go_wp2_with fail
    exact cell_ret rfl (B := w.heap.size + 1) (cs := [.string po, .string pq, .pointer (some ⟨P R, 0, none⟩), .int .i64 pn]) ((((hZ2.set 0 _).set 1 _).set 2 _).set 3 _) rfl rfl rfl ⟨by rw [HP.out], (((hbl2.setCell (Nat.le_succ _) _).setCell (Nat.le_succ _) _).setCell (Nat.le_succ _) _).setCell (Nat.le_succ _) _⟩

theorem info47 : (Try.prog.info? 47).map (fun i => (i.zero, i.size, i.bytes)) = some (some (.slice none 0 0), 1, 24) := by kernel_rfl
theorem info89 : (Try.prog.info? 89).map (fun i => (i.zero, i.size, i.bytes)) = some (some (.agg #[.string ⟨#[]⟩, .string ⟨#[]⟩, .pointer none, .int .i64 0]), 4, 48) := by kernel_rfl
theorem info60 : (Try.prog.info? 60).map (fun i => (i.zero, i.size, i.bytes)) = some (some (.pointer none), 1, 8) := by kernel_rfl

theorem PtrsAt.next {w w' : World} {B B' : Nat → Prop} {v : Value} {N : Nat} {P : Nat → Nat} (h : PtrsAt w B v N P) (hb : Same B w w') (hB : ∀ b, B b → B' b) : PtrsAt w' B' v N P := by
  obtain ⟨a, c, h1, h2, h3⟩ := h
  exact ⟨a, c, h1, h2, h3.next hb hB⟩

/-- The nil line reads as no pieces. -/
theorem pcs_nil (g : SP → Nat → Value) (w : World) (B : Nat → Prop) : PcsAt g w B (.slice none 0 0) [] := ⟨none, 0, rfl, Nat.zero_le _, by decide, fun h => absurd h (by decide)⟩

/-- A family that is built into block g: what lies behind a round that leaves cell k alone. -/
theorem fam_skip {α : Type} {rd : World → (Nat → Prop) → Value → α → Prop} {g k : Nat} {cs : List Value} {wr : World} {l : List α} {d : α} {u : Value} (hu : cs[k]? = some u)
    (hold : ∀ j, j < k → ∃ v, cs[j]? = some v ∧ rd wr (fun b => g < b ∧ b < wr.heap.size) v (l.getD j d)) (hnew : rd wr (fun b => g < b ∧ b < wr.heap.size) u (l.getD k d)) :
    ∀ j, j < k + 1 → ∃ v, cs[j]? = some v ∧ rd wr (fun b => g < b ∧ b < wr.heap.size) v (l.getD j d) := by
  intro j hj
  by_cases e : j = k
  · subst e; exact ⟨u, hu, hnew⟩
  · exact hold j (by omega)

theorem made_get {w' : World} {base : Nat} {e : TypeId} {n : Nat} {z : Value} {g : Nat} (h : w'.ownsRow base e 1 (.slice (some ⟨g, 0, none⟩) n n) n (madeCells z.cells (n * 1)).toList) (hz : z.cells = #[z]) :
    BlockAt w' g e (List.replicate n z) := by
  rcases h.2 with ⟨h, _⟩ | ⟨g', cap, cur, hv, _, hh, _, _, hs, ht⟩
  · cases h
  · simp only [Value.slice.injEq, Option.some.injEq, Addr.mk.injEq] at hv
    obtain ⟨⟨rfl, _⟩, _, rfl⟩ := hv
    rw [hz, Nat.mul_one, toList_madeCells_one] at ht
    have h2 : cur.toList = List.replicate n z := by
      rw [← ht]
      exact (List.take_of_length_le (by simp; omega)).symm
    unfold BlockAt
    rw [hh, ← h2]

set_option maxRecDepth 100000 in
set_option maxHeartbeats 2000000 in
theorem lines_any (v vp : Value) (ss : List (List SP)) (N : Nat) (P : Nat → Nat) (w : World) (hv : LnsAt pc w (· < w.heap.size) v ss) (hfit : LnsFit ss) (hp : PtrsAt w (· < w.heap.size) vp N P) (hN : N ≤ 1048576) :
    Calls Try.prog 34 #[v, vp] w fun e w' => CloneRes (fun w B v => LnsAt (bc N P) w B v ss) w e w' := by
  obtain ⟨a, c, V, rfl, hc, hn, hat, hel⟩ := hv
  obtain ⟨a8, c8, rfl, hh8⟩ := hp
  have H8 : Hid (PtrsAt w (· < w.heap.size) (.slice a8 N c8) N P) := ⟨_, _, rfl, hh8⟩
  clear hh8
  have hf := hfit.1
  have HF : Hid (LnsFit ss) := hfit
  have HEL : Hid (∀ j, j < ss.length → PcsAt pc w (· < w.heap.size) (V j) (ss.getD j [])) := hel
  clear hel hfit
  obtain ⟨i47, hi, hz0, hz1, hz2⟩ := info_parts info47
  obtain ⟨i89, hi9, hy0, hy1, hy2⟩ := info_parts info89
  by_cases h0 : a = none
  · subst h0
    have hl : ss.length = 0 := by
      by_cases h : 0 < ss.length
      · obtain ⟨b, o, h, _⟩ := hat h; cases h
      · omega
    rw [hl]
    have q := fun (w : World) => Lib.run_eql_slice_nil (P := Try.prog) w 46 44 none 0 c 0 0 Try.underlying46
    go_enter Try.func34, Try.ntmps34
    go_wp2
    go_ret
    exact ⟨Below.refl _ _, _, rfl, none, 0, fun _ => undef, congrArg (fun z => Value.slice none z 0) hl.symm, by omega, by omega, fun h => by omega, fun j hj => by omega⟩
  · obtain ⟨x, rfl⟩ : ∃ x, a = some x := by cases a with | none => exact absurd rfl h0 | some x => exact ⟨x, rfl⟩
    clear h0
    have HAT : Hid (At w (· < w.heap.size) (some x) ss.length ss.length V) := hat
    clear hat
    obtain ⟨n, hN'⟩ : ∃ n, n = ss.length := ⟨_, rfl⟩
    have HN : Hid (n = ss.length) := hN'
    rw [← hN'] at hc hn hf ⊢
    clear hN'
    have q := fun (w : World) => Lib.run_eql_slice_nil (P := Try.prog) w 46 44 (some x) n c 0 0 Try.underlying46
    go_enter Try.func34, Try.ntmps34
    go_wp2_with (at_make; refine wpList_make_full _ rfl (.tmp 12) (.tmp 12) 50 rfl w.heap.size 47 i47 (.slice none 0 0) 1 Try.underlying50 hi hz0 hz1 .i64 .i64 n n n rfl rfl rfl rfl (by rw [hz2]; omega) (by unfold maxLen; omega) (Nat.le_refl _) ?_; intro w1 hown hg)
    have hblk := made_get hown rfl
    have hbl : Below w.heap.size w w1 := (Below.refl _ _).grown hg (Nat.le_refl _) (fun k hk => by cases hk)
    clear hown hg q
    have hgl := hblk.lt
    go_loopw [6, 7, 8] (fun i _ _ wr => ∃ (k : Nat) (cs : List Value), i = .int .i64 k ∧ k ≤ n ∧ BlockAt wr w.heap.size 47 cs ∧ cs.length = n * 1 ∧ Below w.heap.size w wr ∧
      Hid (∀ j, k ≤ j → j < n → cs[j]? = some (.slice none 0 0)) ∧ Hid (∀ j, j < k → ∃ v, cs[j]? = some v ∧ PcsAt (bc N P) wr (fun b => w.heap.size < b ∧ b < wr.heap.size) v (ss.getD j []))) (fun i _ _ _ => n - (intOf i).toNat)
    case atStart => exact ⟨0, _, rfl, Nat.zero_le _, hblk, by simp, hbl, fun j _ hj => by simp [hj], fun j hj => by omega⟩
    case round =>
      clear hblk hbl
      obtain ⟨k, cs, rfl, hk, hblk, hlen, hbl, HZ, HK⟩ := hrel
      obtain ⟨wo, rfl⟩ : ∃ x, x = wr := ⟨_, rfl⟩
      by_cases hlt : k < n
      rotate_left
      · obtain rfl : k = n := by omega
        go_wp2
        go_ret
        have hgl := hblk.lt
        refine ⟨hbl, _, rfl, some ⟨w.heap.size, 0, none⟩, k, fun j => cs.getD j undef, congrArg (fun z => Value.slice (some ⟨w.heap.size, 0, none⟩) z k) HN.out, by have := HN.out; omega, by have := HN.out; omega, fun _ => ⟨w.heap.size, 0, rfl, ⟨Nat.le_refl _, hgl⟩, fun i hi => ?_⟩, fun j hj => ?_⟩
        · rw [Nat.zero_add]
          obtain ⟨v, h1, h2⟩ := HK.out i (by have := HN.out; omega)
          dsimp only
          rw [List.getD_eq_getElem?_getD, h1]
          exact hblk.cell i h1
        · obtain ⟨v, h1, h2⟩ := HK.out j (by have := HN.out; omega)
          dsimp only
          rw [List.getD_eq_getElem?_getD, h1]
          exact h2.next (fun b _ => rfl) (fun b h => ⟨by omega, h.2⟩)
      obtain ⟨b, o, hx, hb, hcell⟩ := HAT.out (by have := HN.out; omega)
      cases hx
      have HC : Hid (w.cell? ⟨b, o + k, none⟩ = some (V k)) := hcell k (by have := HN.out; omega)
      have hck := (hbl.cell (p := ⟨b, o + k, none⟩) hb).trans HC.out
      clear hcell
      have HFK : Hid (PcsFit (ss.getD k [])) := HF.out.2 k (by have := HN.out; omega)
      obtain ⟨ak, ck, hVk, hnk, hatk⟩ := pcs_shape (HEL.out k (by have := HN.out; omega))
      have HVK : Hid (V k = .slice ak (ss.getD k []).length ck) := hVk
      rw [hVk] at hck
      clear hVk
      have HAK : Hid (At w (· < w.heap.size) ak (ss.getD k []).length ((ss.getD k []).length * 4) (fun i => pc ((ss.getD k []).getD (i / 4) default) (i % 4))) := hatk
      clear hatk
      generalize hL : ss.getD k [] = L at *
      have HL : Hid (ss.getD k [] = L) := hL
      clear hL
      obtain ⟨m, hm'⟩ : ∃ n, n = L.length := ⟨_, rfl⟩
      have HM : Hid (m = L.length) := hm'
      rw [← hm'] at hck hnk
      clear hm'
      have hfm : m ≤ 1048576 := by have := HFK.out.1; have := HM.out; omega
      by_cases h0 : ak = none
      · subst h0
        have hm0 : m = 0 := by
          by_cases h : 0 < m
          · obtain ⟨b, o, h, _⟩ := HAK.out (by have := HM.out; omega); cases h
          · omega
        subst hm0
        have q := fun (w : World) => Lib.run_eql_slice_nil (P := Try.prog) w 44 55 none 0 ck 0 0 Try.underlying44
        go_wp2_with fail
        go_roundw
        case rel =>
          refine ⟨k + 1, cs, by go_num, by omega, hblk, hlen, hbl, fun j h1 h2 => HZ.out j (by omega) h2, fam_skip (HZ.out k (Nat.le_refl _) hlt) HK.out ?_⟩
          rw [HL.out, List.eq_nil_of_length_eq_zero HM.out.symm]
          exact pcs_nil _ _ _
        case measure => simp [intOf]; omega
      obtain ⟨y, rfl⟩ : ∃ x, ak = some x := by cases ak with | none => exact absurd rfl h0 | some x => exact ⟨x, rfl⟩
      clear h0
      have q := fun (w : World) => Lib.run_eql_slice_nil (P := Try.prog) w 44 55 (some y) m ck 0 0 Try.underlying44
      have hsz := hbl.size
      go_wp2_with (at_make; refine wpList_make_full _ rfl (.tmp 29) (.tmp 29) 47 rfl w.heap.size 89 i89 (.agg #[.string ⟨#[]⟩, .string ⟨#[]⟩, .pointer none, .int .i64 0]) 4 Try.underlying47 hi9 hy0 hy1 .i64 .i64 m m m rfl rfl rfl rfl (by rw [hy2]; omega) (by unfold maxLen; omega) hsz ?_; intro w2 hown hg)
      obtain ⟨ds0, hdb, hdl⟩ := made_block (w := wo) hown
      have hb2 : Below wo.heap.size wo w2 := (Below.refl _ _).grown hg (Nat.le_refl _) (fun k hk => by cases hk)
      clear hown hg q hck
      have hdlt := hdb.lt
      have HBW : Hid (Below w.heap.size w wo) := hbl
      have HBK : Hid (BlockAt wo w.heap.size 47 cs) := hblk
      clear hbl hblk
      have hgl := HBK.out.lt
      go_loopw [8] (fun i wq => ∃ (t : Nat) (ds : List Value), i = .int .i64 t ∧ t ≤ m ∧ BlockAt wq wo.heap.size 89 ds ∧ ds.length = m * 4 ∧ Below wo.heap.size wo wq ∧ Hid (∀ j, j < t * 4 → ds[j]? = some (bc N P (L.getD (j / 4) default) (j % 4)))) (fun i _ => m - (intOf i).toNat)
      case atStart => exact ⟨0, ds0, rfl, Nat.zero_le _, hdb, hdl, hb2, fun j hj => by omega⟩
      case round =>
        clear hdb hdl hb2
        obtain ⟨t, ds, rfl, ht, hdb, hdl, hb2, HT⟩ := hrel
        have hsz2 := hb2.size
        have hbw : Below w.heap.size w wr := HBW.out.trans (hb2.mono hsz)
        have hck : wr.cell? ⟨b, o + k, none⟩ = some (.slice (some y) m ck) := (hbw.cell (p := ⟨b, o + k, none⟩) hb).trans (HC.out.trans (by rw [HVK.out, HM.out]))
        by_cases htl : t < m
        · obtain ⟨b5, o5, hy, hb5, hcell5⟩ := HAK.out (by have := HM.out; omega)
          cases hy
          obtain ⟨d0, d1, d2, d3⟩ := at4 (a := none) (n := 0) (k := t) (by have := HM.out; omega) hcell5
          clear hcell5
          replace d0 := (hbw.cell (p := ⟨b5, o5 + t * 4, none⟩) hb5).trans d0
          replace d1 := (hbw.cell (p := ⟨b5, o5 + t * 4 + 1, none⟩) hb5).trans d1
          replace d2 := (hbw.cell (p := ⟨b5, o5 + t * 4 + 2, none⟩) hb5).trans d2
          replace d3 := (hbw.cell (p := ⟨b5, o5 + t * 4 + 3, none⟩) hb5).trans d3
          generalize hp : L.getD t default = p at *
          have HP : Hid (L.getD t default = p) := hp
          clear hp
          simp only [pc] at d0 d1 d2 d3
          have HPT : Hid (PtrsAt wr (· < wr.heap.size) (.slice a8 N c8) N P) := H8.out.next (Same.of_below hbw (fun b h => h)) (fun b h => Nat.lt_of_lt_of_le h hbw.size)
          go_wp2_with fail
          refine (piece_any p _ N P wr HPT.out hN).mono ?_
          rintro e w3 ⟨rfl, hb3⟩
          have hdlt := hdb.lt
          have hdb3 : BlockAt w3 wo.heap.size 89 ds := hdb.of (hb3.block _ hdlt)
          have hb4 : Below wo.heap.size wo w3 := hb2.trans (hb3.mono hsz2)
          clear d0 d1 d2 d3 hck hbw hb2 hdb hb3
          have f0 := hdb3.free (t * 4)
          have f1 := hdb3.free (t * 4 + 1)
          have f2 := hdb3.free (t * 4 + 2)
          have f3 := hdb3.free (t * 4 + 3)
          obtain ⟨u0, hu0⟩ : ∃ u, ds[t * 4]? = some u := ⟨_, List.getElem?_eq_getElem (by omega)⟩
          obtain ⟨u1, hu1⟩ : ∃ u, ds[t * 4 + 1]? = some u := ⟨_, List.getElem?_eq_getElem (by omega)⟩
          obtain ⟨u2, hu2⟩ : ∃ u, ds[t * 4 + 2]? = some u := ⟨_, List.getElem?_eq_getElem (by omega)⟩
          obtain ⟨u3, hu3⟩ : ∃ u, ds[t * 4 + 3]? = some u := ⟨_, List.getElem?_eq_getElem (by omega)⟩
          have g0 := hdb3.cell (t * 4) hu0
          have g1 := hdb3.cell (t * 4 + 1) hu1
          have g2 := hdb3.cell (t * 4 + 2) hu2
          have g3 := hdb3.cell (t * 4 + 3) hu3
          clear hu0 hu1 hu2 hu3
          go_wp2_with fail
          go_roundw
          case rel =>
            refine ⟨t + 1, _, by go_num, by omega, (((hdb3.set (t * 4) _).set (t * 4 + 1) _).set (t * 4 + 2) _).set (t * 4 + 3) _, by simpa using hdl,
              (((hb4.setCell (Nat.le_refl _) _).setCell (Nat.le_refl _) _).setCell (Nat.le_refl _) _).setCell (Nat.le_refl _) _, fun j hj => ?_⟩
            refine (set4_get ds t (bc N P p) (by omega) j).trans ?_
            by_cases e : j / 4 = t
            · rw [if_pos e, e, HP.out]
            · rw [if_neg e]; exact HT.out j (by omega)
          case measure => simp [intOf]; omega
        · obtain rfl : t = m := by omega
          have hbk2 : BlockAt wr w.heap.size 47 cs := HBK.out.of (hb2.block _ hgl)
          have hnew : PcsAt (bc N P) wr (fun b => wo.heap.size ≤ b ∧ b < wr.heap.size) (.slice (some ⟨wo.heap.size, 0, none⟩) t t) (ss.getD k []) := by
            rw [HL.out]
            refine ⟨_, _, congrArg (fun z => Value.slice (some ⟨wo.heap.size, 0, none⟩) z t) HM.out, by have := HM.out; omega, by have := HM.out; omega, fun _ => ⟨_, _, rfl, ⟨Nat.le_refl _, hdb.lt⟩, fun i hi => ?_⟩⟩
            rw [Nat.zero_add]
            exact hdb.cell i (HT.out i (by have := HM.out; omega))
          have HST : Hid _ := fam_step (rd := PcsAt (bc N P)) (fun h => h.next) (g := w.heap.size) (k := k) (cs := cs) (by omega) hgl HK.out hb2 hnew
          have f0 := hbk2.free k
          obtain ⟨u0, hu0⟩ : ∃ u, cs[k]? = some u := ⟨_, List.getElem?_eq_getElem (by omega)⟩
          have g0 := hbk2.cell k hu0
          clear hu0 hnew
          go_wp2_with fail
          go_roundw
          case rel =>
            refine ⟨k + 1, _, by go_num, by omega, hbk2.set k _, by simpa using hlen, hbw.setCell (Nat.le_refl _) _, fun j h1 h2 => ?_, HST⟩
            rw [List.getElem?_set_ne (by omega)]
            exact HZ.out j (by omega) h2
          case measure => simp [intOf]; omega
end Go.Proofs.Qxb6603470a
