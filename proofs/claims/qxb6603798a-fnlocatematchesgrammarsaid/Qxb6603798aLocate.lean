/-
  THE WALK of locate (15).
-/
import Derived.Test.Qxb6603798aLoc
import Derived.Test.Qxb6603798aCont
import Derived.Laws.ResultCell
namespace Go.Proofs.Qxb6603798a
open Go.RowKit
set_option linter.unusedVariables false
set_option linter.unusedSimpArgs false

theorem info45 : (Try.prog.info? 45).map (fun i => (i.zero, i.size, i.bytes)) = some (some (.agg #[.bool false, .int .i64 0, .bool false, .slice none 0 0, .int .i64 0]), 5, 56) := by kernel_rfl
theorem cell_five_new (w : World) (a b c d e : Value) (t : TypeId) : ∀ j u, [a, b, c, d, e][j]? = some u → (w.alloc (.cells #[a, b, c, d, e] t)).cell? ((⟨w.heap.size, 0, none⟩ : Addr).add j) = some u := by
  intro j u hj
  match j, hj with
  | 0, hj => simp at hj; subst hj; simp [Addr.add]
  | 1, hj => simp at hj; subst hj; simp [Addr.add]
  | 2, hj => simp at hj; subst hj; simp [Addr.add]
  | 3, hj => simp at hj; subst hj; simp [Addr.add]
  | 4, hj => simp at hj; subst hj; simp [Addr.add]
theorem one45 (a c : Bool) (b e : Int) : ∀ u ∈ [Value.bool a, .int .i64 b, .bool c, .slice none 0 0, .int .i64 e], u.oneCell' = true := by
  intro u hu
  simp at hu
  rcases hu with rfl | rfl | rfl | rfl | rfl <;> rfl

def LocRes (w : World) (db cap : Nat) (R : Option Js.Ms) (e : Ending) (w' : World) : Prop :=
  (R = none ∧ e = .returned (.tuple #[.agg #[.slice none 0 0, .int .i64 0, .int .i64 0, .bool false], .bool false])) ∨
  (∃ m v, R = some m ∧ e = .returned (.tuple #[.agg #[v, .int .i64 m.start, .int .i64 m.en, .bool m.name], .bool true]) ∧ w'.ownsRow (w.heap.size + 1) 45 5 v m.path.length (lvs db cap m.path false))

theorem loc_ret {w2 : World} {B : Nat} {cs : List Value} {ok : Bool} {a : Act} {Rr : Ending → World → Prop} (hst : StructAt w2 B 41 cs) (hl : cs.length = 4) (hp : a.tmps.getD 4 undef = .pointer (some ⟨B, 0, none⟩)) (h5 : a.tmps.getD 5 undef = .bool ok)
    (hd : a.defers = []) (hR : Rr (.returned (.tuple #[.agg cs.toArray, .bool ok])) w2) : bodyPost Try.prog Try.f15 Rr .ret a w2 := by
  refine bodyPost_ret (v := .tuple #[.agg cs.toArray, .bool ok]) ?_ hd hR
  rw [results_cell_tmp rfl, hp, h5]
  have := run_loadVar_row (P := Try.prog) w2 B 41 41 cs.toArray (0, 0) _ hst Try.underlying41 rfl (by simp only [List.size_toArray, hl]; kernel_rfl)
  simp [asAddr, this, Result.andThen]
theorem LInv.done {w wr : World} {db cap : Nat} {v : Value} {s : List Js.Lv} {b : Bool} (h : LInv w wr db cap v s b) (x y z t : Value) :
    let w' := (((wr.setCell ⟨w.heap.size, 0, none⟩ x).setCell ⟨w.heap.size, 1, none⟩ y).setCell ⟨w.heap.size, 2, none⟩ z).setCell ⟨w.heap.size, 3, none⟩ t
    StructAt w' w.heap.size 41 [x, y, z, t] ∧ Below w.heap.size w w' ∧ w'.ownsRow (w.heap.size + 1) 45 5 v s.length (lvs db cap s b) := by
  intro w'
  refine ⟨(((h.res.set 0 x).set 1 y).set 2 z).set 3 t, ?_, ?_⟩
  · exact (((h.below.setCell (by exact Nat.le_refl _) x).setCell (by exact Nat.le_refl _) y).setCell (by exact Nat.le_refl _) z).setCell (by exact Nat.le_refl _) t
  · exact ownsRow_setCell_below (ownsRow_setCell_below (ownsRow_setCell_below (ownsRow_setCell_below h.own (by exact Nat.lt_succ_self _) x) (by exact Nat.lt_succ_self _) y) (by exact Nat.lt_succ_self _) z) (by exact Nat.lt_succ_self _) t
theorem mis_new (wr : World) (a b c d : Value) (o : Obj) : StructAt ((wr.alloc (.cells #[a, b, c, d] 41)).alloc o) wr.heap.size 41 [a, b, c, d] := by
  unfold StructAt
  rw [Below.heap_alloc _ _ _ (by simp)]
  exact heap_alloc_new wr _
/-- What stands behind the question whether the misfit is reported. -/
theorem mis_step {w wr : World} {db cap : Nat} {v : Value} {s : List Js.Lv} {b : Bool} (h : LInv w wr db cap v s b) (x y z t : Value) (o : Obj) :
    ∃ W mb, (wr.alloc (.cells #[x, y, z, t] 41)).alloc o = W ∧ wr.heap.size = mb ∧ LInv w W db cap v s b ∧ StructAt W mb 41 [x, y, z, t] ∧ w.heap.size < mb :=
  ⟨_, _, rfl, rfl, (h.alloc _).alloc _, mis_new _ _ _ _ _ _, by have := h.size; omega⟩

set_option maxRecDepth 100000 in
set_option maxHeartbeats 4000000 in
theorem locate_any (w : World) (db n cap : Nat) (zs : List Int) (off : Int) (R : Option Js.Ms) (T0 : List Js.Tok) (hn : n ≤ 1048576) (hoff : I64 off) (hdb : db < w.heap.size) (hd : DocAt w db n zs) (hby : By zs n) (hcap : n ≤ cap)
    (HR : Hid (Rest zs n off R ([], false) 0 T0)) :
    Calls Try.prog 15 #[.slice (some ⟨db, 0, none⟩) n cap, .int .i64 off] w fun e w' => LocRes w db cap R e w' ∧ Below w.heap.size w w' := by
  obtain ⟨i45, hi45, hz45, hs45, hb45⟩ := info_parts info45
  go_enter Try.func15, Try.ntmps15
  have HI : LInv w (w.alloc (.cells #[.slice none 0 0, .int .i64 0, .int .i64 0, .bool false] 41)) db cap (.slice none 0 0) [] false := by
    refine ⟨(Below.refl _ _).alloc (Nat.le_refl _) _, heap_alloc_new w _, World.ownsRow_nil _ _ _ _, by simp⟩
  have HBY : Hid (By zs n) := hby
  have HOFF : Hid (I64 off) := hoff
  clear hby hoff
  go_wp2
  go_loopw [6, 7] (fun v i wr => ∃ (s : List Js.Lv) (b : Bool) (j : Nat) (T : List Js.Tok), i = .int .i64 j ∧ Hid (Rest zs n off R (s, b) j T) ∧ LInv w wr db cap v s b) (fun _ i _ => n - (intOf i).toNat)
  case atStart => exact ⟨[], false, 0, T0, rfl, HR, HI⟩
  case round =>
    obtain ⟨s, b, j, T, rfl, HT, hi⟩ := hrel
    have hjn := HT.out.le
    cases T with
    | nil =>
      have hjj : j = n := HT.out.ch
      have HRN : Hid (R = none) := HT.out.rep.symm
      subst hjj
      have r0 := hi.res.cell 0 rfl
      have r1 := hi.res.cell 1 rfl
      have r2 := hi.res.cell 2 rfl
      have r3 := hi.res.cell 3 rfl
      have rf := hi.res.free
      go_wp2
      obtain ⟨d1, d2, d3⟩ := hi.done (.slice none 0 0) (.int .i64 0) (.int .i64 0) (.bool false)
      exact loc_ret d1 rfl rfl rfl rfl ⟨.inl ⟨HRN.out, rfl⟩, d2⟩
    | cons t T =>
      obtain ⟨⟨s', b'⟩, hs⟩ := HT.out.step
      obtain ⟨hti, htlt, hten, hrep, hnext⟩ := HT.out.next hs
      obtain ⟨⟨_, _, gk⟩, gc⟩ := HT.out.good t (List.mem_cons_self ..)
      have hix := HT.out.ix
      have hlen := HT.out.len
      clear HR HI HT
      obtain ⟨tk, ti, te, tx⟩ := t
      dsimp only at hti htlt hten gk gc hix hlen hnext
      obtain rfl : ti = j := hti
      have hjn : ti < n := by omega
      have hck := (hi.doc hd hdb).at hjn
      obtain ⟨av, cv, rfl, hsh⟩ := hi.shape
      have hown := hi.own
      generalize hm : s.length = m at *
      have HM : Hid (s.length = m) := hm
      have HSH : Hid (0 < m → ∃ g, av = some ⟨g, 0, none⟩ ∧ m ≤ cv) := hsh
      clear hsh hm
      have r0 := hi.res.cell 0 rfl
      have r1 := hi.res.cell 1 rfl
      have r2 := hi.res.cell 2 rfl
      have r3 := hi.res.cell 3 rfl
      have rf := hi.res.free
      have hsz := hi.size
      rcases gk with ⟨rfl, c, rfl⟩ | ⟨rfl, c, rfl⟩ | ⟨rfl, c, rfl⟩ | ⟨rfl, c, rfl⟩ | ⟨hkd, c, st⟩ | ⟨rfl, c, dl⟩
      · cases b
        · have hb' : s' = (⟨Js.ch zs ti == 123, ti, -1, -1, 0⟩ :: s) ∧ b' = (Js.ch zs ti == 123) := by
            simp [Js.step] at hs; exact ⟨hs.1.symm, hs.2.symm⟩
          obtain ⟨rfl, rfl⟩ := hb'
          have hrepT : ∀ m, off = (ti : Int) + 1 → m = ⟨ti, tx, false, s⟩ → R = some m := fun m h1 h2 => hrep m (by simp [Js.repT, h1, h2])
          have HREP : Hid (off = (ti : Int) + 1 → R = some ⟨ti, tx, false, s⟩) := fun h1 => hrepT _ h1 rfl
          have HNX : Hid (off ≠ (ti : Int) + 1 → Rest zs n off R (⟨Js.ch zs ti == 123, ti, -1, -1, 0⟩ :: s, Js.ch zs ti == 123) (ti + 1) T) := by
            intro h1
            refine hnext (by simp [Js.repT, h1]) ?_ (by have := HM.out; simp; omega)
            intro l hl
            rcases List.mem_cons.1 hl with rfl | hl
            · exact ⟨Int.le_refl _, by simp; omega⟩
            · have := hix l hl; exact ⟨this.1, by have := this.2; simp; omega⟩
          have HG : Hid (Js.Cont zs n ti tx) := gc rfl
          have HC : Hid (Js.ch zs ti = 123 ∨ Js.ch zs ti = 91) := c
          clear hrepT hrep hnext hs gc hix
          rcases c with c | c
          · rw [c] at hck
            have HCC : Hid (Js.ch zs ti = 123) := c
            clear c
            cases hR1 : (off == (ti : Int) + 1)
            · go_upto_region 14 with (go_at_call 24; refine (rep_head _ db n cap zs off _ ti _ _ false hn hjn HOFF.out (by simp; omega) ((hi.alloc _).doc hd hdb) (.inr HC.out.symm) hR1).mono ?_; rintro e w' ⟨rfl, rfl⟩)
              have hi2 := (hi.alloc (.cells #[.slice av m cv, .int .i64 ti, .int .i64 0, .bool false] 41)).alloc (.cells #[.slice av m cv, .int .i64 ti, .int .i64 0, .bool false] 41)
              have hown2 := (hown.alloc (.cells #[.slice av m cv, .int .i64 ti, .int .i64 0, .bool false] 41)).alloc (.cells #[.slice av m cv, .int .i64 ti, .int .i64 0, .bool false] 41)
              generalize (wr.alloc (.cells #[.slice av m cv, .int .i64 ti, .int .i64 0, .bool false] 41)).alloc (.cells #[.slice av m cv, .int .i64 ti, .int .i64 0, .bool false] 41) = w2 at *
              have hsz2 := hi2.size
              clear r0 r1 r2 r3 rf hck
              go_wp2_with (at_builtin; refine wpList_append_own_at _ rfl (.tmp 55) (.tmp 62) 39 rfl (w.heap.size + 1) 45 i45 (.agg #[.bool false, .int .i64 0, .bool false, .slice none 0 0, .int .i64 0]) 5 56 Try.underlying39 hi45 hz45 hs45 hb45 rfl (by decide) _ _ _ rfl (hown2.alloc _) _ 1 1 [.bool true, .int .i64 ti, .bool true, .slice none 0 0, .int .i64 0] rfl rfl (cell_five_new _ _ _ _ _ _ _) (one45 _ _ _ _) (by unfold maxLen; omega) (by omega) (by simp; omega) ?_; intro v' x' hown3 hgrow hnil hat; clear hnil)
              refine ⟨⟨⟨true, ti, -1, -1, 0⟩ :: s, true, ti + 1, T, by go_num, ?_, hi2.app (l := ⟨true, ti, -1, -1, 0⟩) rfl (by have := HM.out; rw [this]; exact hown3) hgrow⟩, by simp [intOf]; omega⟩
              have := HNX.out (by simpa using hR1)
              rw [HCC.out] at this
              exact this
            · go_upto_region 13 with (first | (go_at_call 24; refine (rep_head _ db n cap zs off _ ti _ _ true hn hjn HOFF.out (by simp; omega) ((hi.alloc _).doc hd hdb) (.inr HC.out.symm) hR1).mono ?_; rintro e w' ⟨rfl, rfl⟩) | (go_at_call 14; refine (ve_con _ db n cap zs ti tx hn hjn (((hi.alloc _).alloc _).doc hd hdb) HC.out HG.out).mono ?_; rintro e w' ⟨rfl, rfl⟩))
              obtain ⟨W, mb, eW, emb, hW, hmb, hlt⟩ := mis_step hi (.slice av m cv) (.int .i64 ti) (.int .i64 tx) (.bool false) (.cells #[.slice av m cv, .int .i64 ti, .int .i64 0, .bool false] 41)
              rw [eW]
              simp only [emb]
              clear eW emb r0 r1 r2 r3 rf hck hi hown hsz
              have r0 := hW.res.cell 0 rfl
              have r1 := hW.res.cell 1 rfl
              have r2 := hW.res.cell 2 rfl
              have r3 := hW.res.cell 3 rfl
              have rf := hW.res.free
              have q0 := hmb.cell 0 rfl
              have q1 := hmb.cell 1 rfl
              have q2 := hmb.cell 2 rfl
              have q3 := hmb.cell 3 rfl
              go_wp2
              obtain ⟨d1, d2, d3⟩ := hW.done (.slice av m cv) (.int .i64 ti) (.int .i64 tx) (.bool false)
              exact loc_ret d1 rfl rfl rfl rfl ⟨.inr ⟨_, _, HREP.out (by simpa using hR1), rfl, d3⟩, d2⟩
          · rw [c] at hck
            have HCC : Hid (Js.ch zs ti = 91) := c
            clear c
            cases hR1 : (off == (ti : Int) + 1)
            · go_upto_region 14 with (go_at_call 24; refine (rep_head _ db n cap zs off _ ti _ _ false hn hjn HOFF.out (by simp; omega) ((hi.alloc _).doc hd hdb) (.inr HC.out.symm) hR1).mono ?_; rintro e w' ⟨rfl, rfl⟩)
              have hi2 := (hi.alloc (.cells #[.slice av m cv, .int .i64 ti, .int .i64 0, .bool false] 41)).alloc (.cells #[.slice av m cv, .int .i64 ti, .int .i64 0, .bool false] 41)
              have hown2 := (hown.alloc (.cells #[.slice av m cv, .int .i64 ti, .int .i64 0, .bool false] 41)).alloc (.cells #[.slice av m cv, .int .i64 ti, .int .i64 0, .bool false] 41)
              generalize (wr.alloc (.cells #[.slice av m cv, .int .i64 ti, .int .i64 0, .bool false] 41)).alloc (.cells #[.slice av m cv, .int .i64 ti, .int .i64 0, .bool false] 41) = w2 at *
              have hsz2 := hi2.size
              clear r0 r1 r2 r3 rf hck
              go_wp2_with (at_builtin; refine wpList_append_own_at _ rfl (.tmp 55) (.tmp 62) 39 rfl (w.heap.size + 1) 45 i45 (.agg #[.bool false, .int .i64 0, .bool false, .slice none 0 0, .int .i64 0]) 5 56 Try.underlying39 hi45 hz45 hs45 hb45 rfl (by decide) _ _ _ rfl (hown2.alloc _) _ 1 1 [.bool false, .int .i64 ti, .bool false, .slice none 0 0, .int .i64 0] rfl rfl (cell_five_new _ _ _ _ _ _ _) (one45 _ _ _ _) (by unfold maxLen; omega) (by omega) (by simp; omega) ?_; intro v' x' hown3 hgrow hnil hat; clear hnil)
              refine ⟨⟨⟨false, ti, -1, -1, 0⟩ :: s, false, ti + 1, T, by go_num, ?_, hi2.app (l := ⟨false, ti, -1, -1, 0⟩) rfl (by have := HM.out; rw [this]; exact hown3) hgrow⟩, by simp [intOf]; omega⟩
              have := HNX.out (by simpa using hR1)
              rw [HCC.out] at this
              exact this
            · go_upto_region 13 with (first | (go_at_call 24; refine (rep_head _ db n cap zs off _ ti _ _ true hn hjn HOFF.out (by simp; omega) ((hi.alloc _).doc hd hdb) (.inr HC.out.symm) hR1).mono ?_; rintro e w' ⟨rfl, rfl⟩) | (go_at_call 14; refine (ve_con _ db n cap zs ti tx hn hjn (((hi.alloc _).alloc _).doc hd hdb) HC.out HG.out).mono ?_; rintro e w' ⟨rfl, rfl⟩))
              obtain ⟨W, mb, eW, emb, hW, hmb, hlt⟩ := mis_step hi (.slice av m cv) (.int .i64 ti) (.int .i64 tx) (.bool false) (.cells #[.slice av m cv, .int .i64 ti, .int .i64 0, .bool false] 41)
              rw [eW]
              simp only [emb]
              clear eW emb r0 r1 r2 r3 rf hck hi hown hsz
              have r0 := hW.res.cell 0 rfl
              have r1 := hW.res.cell 1 rfl
              have r2 := hW.res.cell 2 rfl
              have r3 := hW.res.cell 3 rfl
              have rf := hW.res.free
              have q0 := hmb.cell 0 rfl
              have q1 := hmb.cell 1 rfl
              have q2 := hmb.cell 2 rfl
              have q3 := hmb.cell 3 rfl
              go_wp2
              obtain ⟨d1, d2, d3⟩ := hW.done (.slice av m cv) (.int .i64 ti) (.int .i64 tx) (.bool false)
              exact loc_ret d1 rfl rfl rfl rfl ⟨.inr ⟨_, _, HREP.out (by simpa using hR1), rfl, d3⟩, d2⟩
        · exact absurd hs (by simp [Js.step])
      · cases s with
        | nil => exact absurd hs (by simp [Js.step])
        | cons l r =>
          obtain ⟨rfl, rfl⟩ : s' = r ∧ b' = false := by have h := Option.some.inj (show some (r, false) = some (s', b') from hs); exact ⟨(congrArg Prod.fst h).symm, (congrArg Prod.snd h).symm⟩
          obtain ⟨m', rfl⟩ : ∃ m', m = m' + 1 := ⟨m - 1, by have := HM.out; simp at this; omega⟩
          have hm' : s'.length = m' := by have := HM.out; simpa using this
          obtain ⟨g, rfl, hgc⟩ := HSH.out (by omega)
          have HNX : Hid (Rest zs n off R (s', false) (ti + 1) T) := by
            refine hnext (by simp [Js.repT]) ?_ (by show s'.length ≤ ti + 1; omega)
            intro l' hl
            have := hix l' (List.mem_cons_of_mem _ hl); exact ⟨this.1, by have := this.2; simp; omega⟩
          have HI2 : Hid (LInv w wr db cap (.slice (some ⟨g, 0, none⟩) m' cv) s' false) := hi.pop hm'
          clear hrep hnext hs gc hix hi hown hm' HM HSH r0 r1 r2 r3 rf
          rcases c with c | c
          · rw [c] at hck
            clear c
            go_wp2
            exact ⟨⟨s', false, ti + 1, T, by go_num, HNX, HI2.out⟩, by simp [intOf]; omega⟩
          · rw [c] at hck
            clear c
            go_wp2
            exact ⟨⟨s', false, ti + 1, T, by go_num, HNX, HI2.out⟩, by simp [intOf]; omega⟩
      · cases s with
        | nil => exact absurd hs (by simp [Js.step])
        | cons l r =>
          obtain ⟨rfl, rfl⟩ : s' = ⟨l.obj, l.st, l.ns, l.ne, l.ix + 1⟩ :: r ∧ b' = l.obj := by simp [Js.step] at hs; exact ⟨hs.1.symm, hs.2.symm⟩
          obtain ⟨m', rfl⟩ : ∃ m', m = m' + 1 := ⟨m - 1, by have := HM.out; simp at this; omega⟩
          have hm' : r.length = m' := by have := HM.out; simpa using this
          obtain ⟨g, rfl, hgc⟩ := HSH.out (by omega)
          have HNX : Hid (Rest zs n off R (⟨l.obj, l.st, l.ns, l.ne, l.ix + 1⟩ :: r, l.obj) (ti + 1) T) := by
            refine hnext (by simp [Js.repT]) ?_ (by simp; omega)
            intro l' hl
            rcases List.mem_cons.1 hl with rfl | hl
            · have := hix l (List.mem_cons_self ..); simp; omega
            · have := hix l' (List.mem_cons_of_mem _ hl); exact ⟨this.1, by have := this.2; simp; omega⟩
          have hlx := hix l (List.mem_cons_self ..)
          have t0 : wr.cell? ⟨g, m' * 5, none⟩ = some (.bool l.obj) := (hi.top hm' 0 rfl).1
          have t2 := hi.top hm' 2 rfl
          have t4 := hi.top hm' 4 rfl
          have HI2 : Hid (LInv w ((wr.setCell ⟨g, m' * 5 + 2, none⟩ (.bool l.obj)).setCell ⟨g, m' * 5 + 4, none⟩ (.int .i64 (l.ix + 1))) db cap (.slice (some ⟨g, 0, none⟩) (m' + 1) cv) (⟨l.obj, l.st, l.ns, l.ne, l.ix + 1⟩ :: r) l.obj) :=
            (hi.put (l' := l) (c' := l.obj) hm' 2 (.bool l.obj) rfl).put (l' := ⟨l.obj, l.st, l.ns, l.ne, l.ix + 1⟩) (c' := l.obj) hm' 4 (.int .i64 (l.ix + 1)) rfl
          clear hrep hnext hs gc hix hi hown hm' HM HSH r0 r1 r2 r3 rf
          obtain ⟨lo, lst, lns, lne, lix⟩ := l
          dsimp only at *
          rw [c] at hck
          clear c
          go_wp2
          exact ⟨⟨_, _, ti + 1, T, by go_num, HNX, HI2.out⟩, by simp [intOf]; omega⟩
      · obtain ⟨rfl, rfl⟩ : s' = s ∧ b' = b := by have h := Option.some.inj (show some (s, b) = some (s', b') from hs); exact ⟨(congrArg Prod.fst h).symm, (congrArg Prod.snd h).symm⟩
        have HNX : Hid (Rest zs n off R (s', b') (ti + 1) T) := by
          refine hnext (by simp [Js.repT]) ?_ (by have := HM.out; show s'.length ≤ ti + 1; omega)
          intro l' hl
          have := hix l' hl; exact ⟨this.1, by have := this.2; simp; omega⟩
        clear hrep hnext hs gc hix hown HSH r0 r1 r2 r3 rf
        rcases c with c | c
        · rw [c] at hck
          clear c
          go_wp2
          exact ⟨⟨_, _, ti + 1, T, by go_num, HNX, hi⟩, by simp [intOf]; omega⟩
        · have hb := HBY.out ti hjn
          obtain ⟨d, hdd⟩ : ∃ d, Js.ch zs ti = d := ⟨_, rfl⟩
          rw [hdd] at hck c hb
          obtain ⟨k, hk, hk2, _⟩ := ix4' hb true c
          have hkl := hk2 rfl
          simp only [Js.sp, Bool.or_eq_true, beq_iff_eq] at c
          have f123 : (d == 123) = false := beq_eq_false_iff_ne.2 (by omega)
          have f91 : (d == 91) = false := beq_eq_false_iff_ne.2 (by omega)
          have f125 : (d == 125) = false := beq_eq_false_iff_ne.2 (by omega)
          have f93 : (d == 93) = false := beq_eq_false_iff_ne.2 (by omega)
          have f44 : (d == 44) = false := beq_eq_false_iff_ne.2 (by omega)
          have f58 : (d == 58) = false := beq_eq_false_iff_ne.2 (by omega)
          clear hb hk2 hdd c
          go_wp2_with (go_at_call 23; refine (Try.strings_IndexByte _ _ _).mono ?_; rintro e w' ⟨rfl, rfl⟩; rw [show (⟨#[32, 9, 10, 13]⟩ : ByteArray).data.toList = [32, 9, 10, 13] from rfl, hk])
          exact ⟨⟨_, _, ti + 1, T, by go_num, HNX, hi⟩, by simp [intOf]; omega⟩
      · have HCC : Hid (Js.ch zs ti = 34) := c
        have HST : Hid (Js.Str zs n (ti + 1) te) := st
        rw [c] at hck
        clear c st gc
        obtain ⟨k, hk, _, hk2⟩ := ix4' (c := 34) (by omega) false rfl
        have hkl := hk2 rfl
        clear hk2
        have HNE : Hid (Js.ch zs ti ≠ 91 ∧ Js.ch zs ti ≠ 123) := by rw [HCC.out]; exact ⟨by decide, by decide⟩
        rcases hkd with rfl | rfl
        · cases s with
          | nil => exact absurd hs (by simp [Js.step])
          | cons l r =>
            cases b
            · exact absurd hs (by simp [Js.step])
            · obtain ⟨rfl, rfl⟩ : s' = ⟨l.obj, l.st, ti, te, l.ix⟩ :: r ∧ b' = false := by have h := Option.some.inj (show some (⟨l.obj, l.st, ti, te, l.ix⟩ :: r, false) = some (s', b') from hs); exact ⟨(congrArg Prod.fst h).symm, (congrArg Prod.snd h).symm⟩
              obtain ⟨m', rfl⟩ : ∃ m', m = m' + 1 := ⟨m - 1, by have := HM.out; simp at this; omega⟩
              have hm' : r.length = m' := by have := HM.out; simpa using this
              obtain ⟨g, rfl, hgc⟩ := HSH.out (by omega)
              have HREP : Hid (off = (ti : Int) + 1 → R = some ⟨ti, te, true, ⟨l.obj, l.st, ti, te, l.ix⟩ :: r⟩) := fun h1 => hrep _ (by simp [Js.repT, h1])
              have HNX : Hid (¬ off = (ti : Int) + 1 → Rest zs n off R (⟨l.obj, l.st, ti, te, l.ix⟩ :: r, false) te T) := by
                intro h1
                refine hnext (by simp [Js.repT, h1]) ?_ (by simp; omega)
                intro l' hl
                rcases List.mem_cons.1 hl with rfl | hl
                · have := hix l (List.mem_cons_self ..); simp; omega
                · have := hix l' (List.mem_cons_of_mem _ hl); exact ⟨this.1, by have := this.2; simp; omega⟩
              have t2 := hi.top hm' 2 rfl
              have t3 := hi.top hm' 3 rfl
              have hi2 : LInv w ((wr.setCell ⟨g, m' * 5 + 3, none⟩ (.slice (some ⟨db, ti, none⟩) (te - ti) (cap - ti))).setCell ⟨g, m' * 5 + 2, none⟩ (.bool false)) db cap (.slice (some ⟨g, 0, none⟩) (m' + 1) cv) (⟨l.obj, l.st, ti, te, l.ix⟩ :: r) false :=
                (hi.put (l' := ⟨l.obj, l.st, ti, te, l.ix⟩) (c' := true) hm' 3 _ (by
                  have e : nmV db cap ⟨l.obj, l.st, ti, te, l.ix⟩ = .slice (some ⟨db, ti, none⟩) (te - ti) (cap - ti) := by
                    unfold nmV
                    rw [if_neg (by simp)]
                    simp only [Int.toNat_natCast, Value.slice.injEq, true_and, and_true]
                    omega
                  simp only [lvC, e]; rfl)).put (l' := ⟨l.obj, l.st, ti, te, l.ix⟩) (c' := false) hm' 2 (.bool false) rfl
              clear hrep hnext hs hix hown HSH hm' HM
              go_upto_region 30 with (first | (go_at_call 23; refine (Try.strings_IndexByte _ _ _).mono ?_; rintro e w' ⟨rfl, hw⟩; rw [hw]; clear hw w'; rw [show (⟨#[32, 9, 10, 13]⟩ : ByteArray).data.toList = [32, 9, 10, 13] from rfl, hk]) | (go_at_call 14; refine (ve_str _ db n cap zs ti te hn hjn (hi.doc hd hdb) HCC.out HST.out).mono ?_; rintro e w' ⟨rfl, hw⟩; rw [hw]; clear hw w'))
              generalize (wr.setCell ⟨g, m' * 5 + 3, none⟩ (.slice (some ⟨db, ti, none⟩) (te - ti) (cap - ti))).setCell ⟨g, m' * 5 + 2, none⟩ (.bool false) = wz at *
              clear t2 t3 hi r0 r1 r2 r3 rf hck hsz hk hkl
              have hsz := hi2.size
              cases hR1 : (off == (ti : Int) + 1)
              · go_upto_region 33 with (go_at_call 24; refine (rep_head _ db n cap zs off _ ti _ _ false hn hjn HOFF.out (by simp; omega) ((hi2.alloc _).doc hd hdb) (.inl rfl) hR1).mono ?_; rintro e w' ⟨rfl, rfl⟩)
                obtain ⟨W, mb, eW, emb, hW, hmb, hlt⟩ := mis_step hi2 (.slice (some ⟨g, 0, none⟩) (m' + 1) cv) (.int .i64 ti) (.int .i64 te) (.bool true) (.cells #[.slice (some ⟨g, 0, none⟩) (m' + 1) cv, .int .i64 ti, .int .i64 te, .bool true] 41)
                rw [eW]
                simp only [emb]
                clear eW emb hi2 hsz
                go_wp2
                exact ⟨⟨_, _, te, T, rfl, HNX.out (by simpa using hR1), hW⟩, by simp [intOf]; omega⟩
              · go_upto_region 32 with (go_at_call 24; refine (rep_head _ db n cap zs off _ ti _ _ true hn hjn HOFF.out (by simp; omega) ((hi2.alloc _).doc hd hdb) (.inl rfl) hR1).mono ?_; rintro e w' ⟨rfl, rfl⟩)
                obtain ⟨W, mb, eW, emb, hW, hmb, hlt⟩ := mis_step hi2 (.slice (some ⟨g, 0, none⟩) (m' + 1) cv) (.int .i64 ti) (.int .i64 te) (.bool true) (.cells #[.slice (some ⟨g, 0, none⟩) (m' + 1) cv, .int .i64 ti, .int .i64 te, .bool true] 41)
                rw [eW]
                simp only [emb]
                clear eW emb hi2 hsz
                have r0 := hW.res.cell 0 rfl
                have r1 := hW.res.cell 1 rfl
                have r2 := hW.res.cell 2 rfl
                have r3 := hW.res.cell 3 rfl
                have rf := hW.res.free
                have q0 := hmb.cell 0 rfl
                have q1 := hmb.cell 1 rfl
                have q2 := hmb.cell 2 rfl
                have q3 := hmb.cell 3 rfl
                go_wp2
                obtain ⟨d1, d2, d3⟩ := hW.done (.slice (some ⟨g, 0, none⟩) (m' + 1) cv) (.int .i64 ti) (.int .i64 te) (.bool true)
                exact loc_ret d1 rfl rfl rfl rfl ⟨.inr ⟨_, _, HREP.out (by simpa using hR1), rfl, d3⟩, d2⟩
        · cases b
          · obtain ⟨rfl, rfl⟩ : s' = s ∧ b' = false := by have h := Option.some.inj (show some (s, false) = some (s', b') from hs); exact ⟨(congrArg Prod.fst h).symm, (congrArg Prod.snd h).symm⟩
            have HREP : Hid (off = (te : Int) ∨ off = (te : Int) + 1 → R = some ⟨ti, te, false, s'⟩) := fun h1 => hrep _ (by simp [Js.repT, h1])
            have HNX : Hid (¬ off = (te : Int) ∧ ¬ off = (te : Int) + 1 → Rest zs n off R (s', false) te T) := by
              intro h1
              refine hnext (by simp [Js.repT, h1.1, h1.2]) ?_ (by have := HM.out; show s'.length ≤ te; omega)
              intro l' hl
              have := hix l' hl; exact ⟨this.1, by have := this.2; simp; omega⟩
            clear hrep hnext hs hix hown
            cases s' with
            | nil =>
              obtain rfl : m = 0 := HM.out.symm
              clear HSH
              cases hR1 : (off == (te : Int) || off == (te : Int) + 1)
              · go_upto_region 8 with (first | (go_at_call 23; refine (Try.strings_IndexByte _ _ _).mono ?_; rintro e w' ⟨rfl, rfl⟩; rw [show (⟨#[32, 9, 10, 13]⟩ : ByteArray).data.toList = [32, 9, 10, 13] from rfl, hk]) | (go_at_call 14; refine (ve_str _ db n cap zs ti te hn hjn (hi.doc hd hdb) HCC.out HST.out).mono ?_; rintro e w' ⟨rfl, rfl⟩) | (go_at_call 24; refine (rep_tail _ db n cap zs off _ ti te false hn hjn hten HOFF.out (by simp; omega) ((hi.alloc _).doc hd hdb) HNE.out.1 HNE.out.2 hR1).mono ?_; rintro e w' ⟨rfl, rfl⟩))
                obtain ⟨W, mb, eW, emb, hW, hmb, hlt⟩ := mis_step hi (.slice av 0 cv) (.int .i64 ti) (.int .i64 te) (.bool false) (.cells #[.slice av 0 cv, .int .i64 ti, .int .i64 te, .bool false] 41)
                rw [eW]
                simp only [emb]
                clear eW emb r0 r1 r2 r3 rf hck hi hsz
                have q2 := hmb.cell 2 rfl
                go_wp2
                exact ⟨⟨_, _, te, T, rfl, HNX.out (by simpa using hR1), hW⟩, by simp [intOf]; omega⟩
              · go_upto_region 7 with (first | (go_at_call 23; refine (Try.strings_IndexByte _ _ _).mono ?_; rintro e w' ⟨rfl, rfl⟩; rw [show (⟨#[32, 9, 10, 13]⟩ : ByteArray).data.toList = [32, 9, 10, 13] from rfl, hk]) | (go_at_call 14; refine (ve_str _ db n cap zs ti te hn hjn (hi.doc hd hdb) HCC.out HST.out).mono ?_; rintro e w' ⟨rfl, rfl⟩) | (go_at_call 24; refine (rep_tail _ db n cap zs off _ ti te true hn hjn hten HOFF.out (by simp; omega) ((hi.alloc _).doc hd hdb) HNE.out.1 HNE.out.2 hR1).mono ?_; rintro e w' ⟨rfl, rfl⟩))
                obtain ⟨W, mb, eW, emb, hW, hmb, hlt⟩ := mis_step hi (.slice av 0 cv) (.int .i64 ti) (.int .i64 te) (.bool false) (.cells #[.slice av 0 cv, .int .i64 ti, .int .i64 te, .bool false] 41)
                rw [eW]
                simp only [emb]
                clear eW emb r0 r1 r2 r3 rf hck hi hsz
                have r0 := hW.res.cell 0 rfl
                have r1 := hW.res.cell 1 rfl
                have r2 := hW.res.cell 2 rfl
                have r3 := hW.res.cell 3 rfl
                have rf := hW.res.free
                have q0 := hmb.cell 0 rfl
                have q1 := hmb.cell 1 rfl
                have q2 := hmb.cell 2 rfl
                have q3 := hmb.cell 3 rfl
                go_wp2
                obtain ⟨d1, d2, d3⟩ := hW.done (.slice av 0 cv) (.int .i64 ti) (.int .i64 te) (.bool false)
                exact loc_ret d1 rfl rfl rfl rfl ⟨.inr ⟨_, _, HREP.out (by simpa using hR1), rfl, d3⟩, d2⟩
            | cons l r =>
              obtain ⟨m', rfl⟩ : ∃ m', m = m' + 1 := ⟨m - 1, by have := HM.out; simp at this; omega⟩
              have hm' : r.length = m' := by have := HM.out; simpa using this
              obtain ⟨g, rfl, hgc⟩ := HSH.out (by omega)
              have t2 := (hi.top hm' 2 rfl).1
              clear HSH hm'
              cases hR1 : (off == (te : Int) || off == (te : Int) + 1)
              · go_upto_region 8 with (first | (go_at_call 23; refine (Try.strings_IndexByte _ _ _).mono ?_; rintro e w' ⟨rfl, rfl⟩; rw [show (⟨#[32, 9, 10, 13]⟩ : ByteArray).data.toList = [32, 9, 10, 13] from rfl, hk]) | (go_at_call 14; refine (ve_str _ db n cap zs ti te hn hjn (hi.doc hd hdb) HCC.out HST.out).mono ?_; rintro e w' ⟨rfl, rfl⟩) | (go_at_call 24; refine (rep_tail _ db n cap zs off _ ti te false hn hjn hten HOFF.out (by simp; omega) ((hi.alloc _).doc hd hdb) HNE.out.1 HNE.out.2 hR1).mono ?_; rintro e w' ⟨rfl, rfl⟩))
                obtain ⟨W, mb, eW, emb, hW, hmb, hlt⟩ := mis_step hi (.slice (some ⟨g, 0, none⟩) (m' + 1) cv) (.int .i64 ti) (.int .i64 te) (.bool false) (.cells #[.slice (some ⟨g, 0, none⟩) (m' + 1) cv, .int .i64 ti, .int .i64 te, .bool false] 41)
                rw [eW]
                simp only [emb]
                clear eW emb r0 r1 r2 r3 rf hck hi hsz
                have q2 := hmb.cell 2 rfl
                go_wp2
                exact ⟨⟨_, _, te, T, rfl, HNX.out (by simpa using hR1), hW⟩, by simp [intOf]; omega⟩
              · go_upto_region 7 with (first | (go_at_call 23; refine (Try.strings_IndexByte _ _ _).mono ?_; rintro e w' ⟨rfl, rfl⟩; rw [show (⟨#[32, 9, 10, 13]⟩ : ByteArray).data.toList = [32, 9, 10, 13] from rfl, hk]) | (go_at_call 14; refine (ve_str _ db n cap zs ti te hn hjn (hi.doc hd hdb) HCC.out HST.out).mono ?_; rintro e w' ⟨rfl, rfl⟩) | (go_at_call 24; refine (rep_tail _ db n cap zs off _ ti te true hn hjn hten HOFF.out (by simp; omega) ((hi.alloc _).doc hd hdb) HNE.out.1 HNE.out.2 hR1).mono ?_; rintro e w' ⟨rfl, rfl⟩))
                obtain ⟨W, mb, eW, emb, hW, hmb, hlt⟩ := mis_step hi (.slice (some ⟨g, 0, none⟩) (m' + 1) cv) (.int .i64 ti) (.int .i64 te) (.bool false) (.cells #[.slice (some ⟨g, 0, none⟩) (m' + 1) cv, .int .i64 ti, .int .i64 te, .bool false] 41)
                rw [eW]
                simp only [emb]
                clear eW emb r0 r1 r2 r3 rf hck hi hsz
                have r0 := hW.res.cell 0 rfl
                have r1 := hW.res.cell 1 rfl
                have r2 := hW.res.cell 2 rfl
                have r3 := hW.res.cell 3 rfl
                have rf := hW.res.free
                have q0 := hmb.cell 0 rfl
                have q1 := hmb.cell 1 rfl
                have q2 := hmb.cell 2 rfl
                have q3 := hmb.cell 3 rfl
                go_wp2
                obtain ⟨d1, d2, d3⟩ := hW.done (.slice (some ⟨g, 0, none⟩) (m' + 1) cv) (.int .i64 ti) (.int .i64 te) (.bool false)
                exact loc_ret d1 rfl rfl rfl rfl ⟨.inr ⟨_, _, HREP.out (by simpa using hR1), rfl, d3⟩, d2⟩
          · exact absurd hs (by simp [Js.step])
      · cases b
        · obtain ⟨rfl, rfl⟩ : s' = s ∧ b' = false := by have h := Option.some.inj (show some (s, false) = some (s', b') from hs); exact ⟨(congrArg Prod.fst h).symm, (congrArg Prod.snd h).symm⟩
          have HREP : Hid (off = (te : Int) ∨ off = (te : Int) + 1 → R = some ⟨ti, te, false, s'⟩) := fun h1 => hrep _ (by simp [Js.repT, h1])
          have HNX : Hid (¬ off = (te : Int) ∧ ¬ off = (te : Int) + 1 → Rest zs n off R (s', false) te T) := by
            intro h1
            refine hnext (by simp [Js.repT, h1.1, h1.2]) ?_ (by have := HM.out; show s'.length ≤ te; omega)
            intro l' hl
            have := hix l' hl; exact ⟨this.1, by have := this.2; simp; omega⟩
          have HPL : Hid (∀ j, ti ≤ j → j < te → Js.Pl (Js.ch zs j)) := c
          have HDL : Hid (Js.Dl zs n te) := dl
          have hp := c ti (Nat.le_refl _) htlt
          have HNE : Hid (Js.ch zs ti ≠ 91 ∧ Js.ch zs ti ≠ 123) := ⟨hp.2.1, hp.2.2.2.1⟩
          have hb := HBY.out ti hjn
          clear hrep hnext hs hix hown c dl gc HSH
          obtain ⟨d, hdd⟩ : ∃ d, Js.ch zs ti = d := ⟨_, rfl⟩
          rw [hdd] at hck hb hp
          obtain ⟨p34, p91, p93, p123, p125, p44, p58, p32, p9, p10, p13⟩ := hp
          obtain ⟨k, hk, _, hk2⟩ := ix4' hb false (by simp [Js.sp, *])
          have hkl := hk2 rfl
          have f34 : (d == 34) = false := beq_eq_false_iff_ne.2 p34
          have f123 : (d == 123) = false := beq_eq_false_iff_ne.2 p123
          have f91 : (d == 91) = false := beq_eq_false_iff_ne.2 p91
          have f125 : (d == 125) = false := beq_eq_false_iff_ne.2 p125
          have f93 : (d == 93) = false := beq_eq_false_iff_ne.2 p93
          have f44 : (d == 44) = false := beq_eq_false_iff_ne.2 p44
          have f58 : (d == 58) = false := beq_eq_false_iff_ne.2 p58
          clear hb hk2 hdd p34 p91 p93 p123 p125 p44 p58 p32 p9 p10 p13
          cases hR1 : (off == (te : Int) || off == (te : Int) + 1)
          · go_upto_region 8 with (first | (go_at_call 23; refine (Try.strings_IndexByte _ _ _).mono ?_; rintro e w' ⟨rfl, rfl⟩; rw [show (⟨#[32, 9, 10, 13]⟩ : ByteArray).data.toList = [32, 9, 10, 13] from rfl, hk]) | (go_at_call 14; refine (ve_sca _ db n cap zs ti te hn htlt hten (hi.doc hd hdb) HBY.out HPL.out HDL.out).mono ?_; rintro e w' ⟨rfl, rfl⟩) | (go_at_call 24; refine (rep_tail _ db n cap zs off _ ti te false hn hjn hten HOFF.out (by simp; omega) ((hi.alloc _).doc hd hdb) HNE.out.1 HNE.out.2 hR1).mono ?_; rintro e w' ⟨rfl, rfl⟩))
            obtain ⟨W, mb, eW, emb, hW, hmb, hlt⟩ := mis_step hi (.slice av m cv) (.int .i64 ti) (.int .i64 te) (.bool false) (.cells #[.slice av m cv, .int .i64 ti, .int .i64 te, .bool false] 41)
            rw [eW]
            simp only [emb]
            clear eW emb r0 r1 r2 r3 rf hck hi hsz
            have q2 := hmb.cell 2 rfl
            go_wp2
            exact ⟨⟨_, _, te, T, rfl, HNX.out (by simpa using hR1), hW⟩, by simp [intOf]; omega⟩
          · go_upto_region 7 with (first | (go_at_call 23; refine (Try.strings_IndexByte _ _ _).mono ?_; rintro e w' ⟨rfl, rfl⟩; rw [show (⟨#[32, 9, 10, 13]⟩ : ByteArray).data.toList = [32, 9, 10, 13] from rfl, hk]) | (go_at_call 14; refine (ve_sca _ db n cap zs ti te hn htlt hten (hi.doc hd hdb) HBY.out HPL.out HDL.out).mono ?_; rintro e w' ⟨rfl, rfl⟩) | (go_at_call 24; refine (rep_tail _ db n cap zs off _ ti te true hn hjn hten HOFF.out (by simp; omega) ((hi.alloc _).doc hd hdb) HNE.out.1 HNE.out.2 hR1).mono ?_; rintro e w' ⟨rfl, rfl⟩))
            obtain ⟨W, mb, eW, emb, hW, hmb, hlt⟩ := mis_step hi (.slice av m cv) (.int .i64 ti) (.int .i64 te) (.bool false) (.cells #[.slice av m cv, .int .i64 ti, .int .i64 te, .bool false] 41)
            rw [eW]
            simp only [emb]
            clear eW emb r0 r1 r2 r3 rf hck hi hsz
            have r0 := hW.res.cell 0 rfl
            have r1 := hW.res.cell 1 rfl
            have r2 := hW.res.cell 2 rfl
            have r3 := hW.res.cell 3 rfl
            have rf := hW.res.free
            have q0 := hmb.cell 0 rfl
            have q1 := hmb.cell 1 rfl
            have q2 := hmb.cell 2 rfl
            have q3 := hmb.cell 3 rfl
            go_wp2
            obtain ⟨d1, d2, d3⟩ := hW.done (.slice av m cv) (.int .i64 ti) (.int .i64 te) (.bool false)
            exact loc_ret d1 rfl rfl rfl rfl ⟨.inr ⟨_, _, HREP.out (by simpa using hR1), rfl, d3⟩, d2⟩
        · exact absurd hs (by simp [Js.step])
end Go.Proofs.Qxb6603798a
