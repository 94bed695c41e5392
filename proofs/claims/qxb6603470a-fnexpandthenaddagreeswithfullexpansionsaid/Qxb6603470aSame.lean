/-
  THE PLAIN LAW, its end: the full line and expand's pieces stand for the same options.
-/
import Derived.Test.Qxb6603470aAdd
namespace Go.Proofs.Qxb6603470a
open Go.RowKit
set_option linter.unusedVariables false
set_option linter.unusedSimpArgs false

section
variable {T : Tab} {nm : List ByteArray} {rf : List Int}
/-- The options that pieces stand for. -/
def opts (T : Tab) (F : List SP) : List ByteArray := (F.flatMap (ev T false)).filterMap id
theorem opts_append (F G : List SP) : opts T (F ++ G) = opts T F ++ opts T G := by unfold opts; rw [List.flatMap_append, List.filterMap_append]

theorem full_ref {d : Nat} (hd : d < T.length) : hasR T.length ⟨⟨#[]⟩, ⟨#[]⟩, d, (T.getD d []).length⟩ = true := by
  rw [hasR, decide_eq_true_iff]; dsimp only; omega
theorem wf_piece (hw : WF T) {d : Nat} (hd : d < T.length) {p : SP} (h : T.getD d [] = [[p]]) : POK T d 0 p := by
  have := hw d hd 0 (by rw [h]; exact Nat.one_pos)
  rw [h] at this
  exact this.2 0 Nat.one_pos
theorem opts_one (hw : WF T) (hf : TabFit T) {opt : ByteArray} {G : List SP} (h : ExpP nm rf T opt G) : opts T (fullP nm rf T opt) = opts T G := by
  rcases h with ⟨h1, q, rfl⟩ | ⟨h1, h2⟩
  · unfold fullP
    rw [if_pos h1]
    unfold opts
    rw [List.flatMap_cons, List.flatMap_cons, ev_plain (by simp [hasR]), ev_plain (by simp [hasR])]
    rfl
  · unfold fullP
    rw [if_neg h1]
    rcases h2 with ⟨h2, rfl⟩ | ⟨d, hd, hdN, h3⟩
    · rw [if_pos h2]
    · rw [if_neg (by omega), hd]
      simp only [Int.toNat_natCast]
      have hr := full_ref hdN
      have hl : linesOf T ⟨⟨#[]⟩, ⟨#[]⟩, d, (T.getD d []).length⟩ = T.getD d [] := by
        unfold linesOf; dsimp only; simp only [Int.toNat_natCast, List.take_length]
      have he : opts T [⟨⟨#[]⟩, ⟨#[]⟩, d, (T.getD d []).length⟩] = (evLines T true (T.getD d [])).filterMap id := by
        unfold opts
        rw [List.flatMap_cons, ev_ref hw hf (fun _ => ⟨by dsimp only; omega, by dsimp only; simp only [Int.toNat_natCast]; omega⟩) hr, hl]
        simp
      rcases h3 with ⟨h3, rfl⟩ | ⟨p, h3, h4, rfl⟩ | ⟨h3, rfl⟩
      · rw [he, List.eq_nil_of_length_eq_zero h3]
        rfl
      · rw [he, h3]
        have hpk := wf_piece hw hdN h3
        have hpc : PcOK T p := fun h => ⟨by have := (hpk.2 h).1; omega, (hpk.2 h).2.1⟩
        unfold evLines evLine opts
        simp only [List.flatMap_cons, List.flatMap_nil, List.append_nil, List.filterMap_append]
        rw [ev_ref hw hf hpc h4 true, ev_ref hw hf hpc h4 false]
        simp
      · rfl

theorem opts_all (hw : WF T) (hf : TabFit T) {l : List ByteArray} {F : List SP} (h : ExpTo nm rf T l F) : opts T (l.flatMap (fullP nm rf T)) = opts T F := by
  induction h with
  | nil => rfl
  | snoc h1 h2 ih => rw [List.flatMap_append, opts_append, opts_append, ih, List.flatMap_cons, List.flatMap_nil, List.append_nil, opts_one hw hf h2]

theorem eat_line (F : List SP) : eat [] 0 (evLines T false [F]) = eat [] 0 ((opts T F).map some) := by
  rw [eat_flat]
  congr 2
  unfold evLines evLine opts
  simp

/-- THE LAW: both come to the same. -/
theorem same_all (hw : WF T) (hf : TabFit T) {op : List ByteArray} {F : List SP} (h : ExpTo nm rf T op F) : eat [] 0 (evLines T false [fullTo op nm rf T op.length]) = eat [] 0 (evLines T false [F]) := by
  rw [eat_line, eat_line]
  unfold fullTo
  rw [List.take_of_length_le (Nat.le_refl _), opts_all hw hf h]

theorem eq_size {s : ByteArray} (h : 0 < eqAt s) : 1 ≤ s.size := by have := (eqAt_range s).2; omega

theorem mem_fit {l : List ByteArray} (h : StrsFit l) {s : ByteArray} (hs : s ∈ l) : s.size ≤ 1048576 := by
  obtain ⟨k, hk, e⟩ := mem_getD (d := ByteArray.empty) hs
  rw [← e]; exact h.2 k hk

theorem full_top (hf : TabFit T) {op : List ByteArray} (h : StrsFit op) : TopOK T [fullTo op nm rf T op.length] := by
  intro L hL p hp
  rw [List.mem_singleton] at hL
  subst hL
  unfold fullTo at hp
  rw [List.take_of_length_le (Nat.le_refl _), List.mem_flatMap] at hp
  obtain ⟨s, hs, hp⟩ := hp
  unfold fullP at hp
  split at hp
  · rename_i hq
    rw [List.mem_singleton] at hp
    subst hp
    refine ⟨fun hr => ?_, fun _ => ⟨eq_size hq, mem_fit h hs⟩⟩
    simp [hasR] at hr
  · split at hp
    · cases hp
    · rename_i hn
      rw [List.mem_singleton] at hp
      subst hp
      have hrg := look_range nm rf T.length (tyOf s) nm.length
      refine ⟨fun hr => ⟨by dsimp only; omega, by dsimp only; omega⟩, fun hr => ?_⟩
      rw [hasR, decide_eq_false_iff_not] at hr
      dsimp only at hr
      omega

theorem full_len {op : List ByteArray} (h : op.length ≤ 1048576) : (fullTo op nm rf T op.length).length ≤ 1048576 := by
  unfold fullTo
  rw [List.take_of_length_le (Nat.le_refl _)]
  have : ∀ l : List ByteArray, (l.flatMap (fullP nm rf T)).length ≤ l.length := by
    intro l
    induction l with
    | nil => simp
    | cons a l ih =>
      rw [List.flatMap_cons, List.length_append, List.length_cons]
      have : (fullP nm rf T a).length ≤ 1 := by
        unfold fullP
        split
        · simp
        · split
          · simp
          · simp
      omega
  exact Nat.le_trans (this op) h

theorem exp_lok (hw : WF T) (hf : TabFit T) {l : List ByteArray} {F : List SP} (h : ExpTo nm rf T l F) : (∀ s ∈ l, s.size ≤ 1048576) → LOK T false (fuelOf T) [F] := by
  induction h with
  | nil =>
    intro _ L hL p hp
    rw [List.mem_singleton] at hL
    subst hL; cases hp
  | @snoc l F G opt h1 h2 ih =>
    intro hs L hL p hp
    rw [List.mem_singleton] at hL
    subst hL
    rcases List.mem_append.1 hp with hp | hp
    · exact ih (fun s h => hs s (List.mem_append_left _ h)) F (by simp) p hp
    · rcases h2 with ⟨h3, q, rfl⟩ | ⟨h3, h4⟩
      · rw [List.mem_singleton] at hp
        subst hp
        refine ⟨fun hr => ?_, fun _ => ⟨eq_size h3, hs opt (by simp)⟩⟩
        simp [hasR] at hr
      · rcases h4 with ⟨_, rfl⟩ | ⟨d, hd, hdN, h5⟩
        · cases hp
        · rcases h5 with ⟨_, rfl⟩ | ⟨p', h6, h7, rfl⟩ | ⟨h6, rfl⟩
          · cases hp
          · rw [List.mem_singleton] at hp
            subst hp
            have hpk := wf_piece hw hdN h6
            have hpc : PcOK T p := fun h => ⟨by have := (hpk.2 h).1; omega, (hpk.2 h).2.1⟩
            refine ⟨fun hr => ⟨(hpk.2 hr).1, (hpk.2 hr).2.1, rank_le hf hpc⟩, fun hr => ?_⟩
            rw [h7] at hr; cases hr
          · rw [List.mem_singleton] at hp
            subst hp
            have hr := full_ref hdN
            have hpc : PcOK T ⟨⟨#[]⟩, ⟨#[]⟩, d, (T.getD d []).length⟩ := fun _ => ⟨by dsimp only; omega, by dsimp only; simp only [Int.toNat_natCast]; omega⟩
            refine ⟨fun _ => ⟨by dsimp only; omega, by dsimp only; simp only [Int.toNat_natCast]; omega, rank_le hf hpc⟩, fun hr' => ?_⟩
            rw [hr] at hr'; cases hr'
end

theorem zexpand_any (v0 : Value) (ty : ByteArray) (mb : Nat) (op nm : List ByteArray) (rf : List Int) (T : List (List (List SP))) (P : Nat → Nat) (w : World) (h0 : StrsAt w (· < w.heap.size) v0 op) (hty : ty.size ≤ 1048576)
    (hmap : TypesAt w mb nm rf T.length P) (hmb : mb < w.heap.size) (htb : TblAt w (· < w.heap.size) T.length P T) (f0 : StrsFit op) (f3 : TabFit T) :
    Calls Try.prog 23 #[v0, .string ty, .map (some mb)] w fun e w' => ExpRes nm rf T T.length P op w e w' := by
  have HC : Hid (Calls Try.prog 39 #[v0, .string ty, .map (some mb)] w fun e w' => ExpRes nm rf T T.length P op w e w') := expand_any v0 ty mb op nm rf T P w h0 hty hmap hmb htb f0 f3
  clear h0 hmap htb f0 f3
  go_enter Try.func23, Try.ntmps23
  go_wp2_with fail
  refine HC.out.mono ?_
  rintro e w' ⟨h1, v, F, rfl, h2, h3⟩
  have H2 : Hid (ExpTo nm rf T op F ∧ PcsAt (bc T.length P) w' (fun b => w.heap.size ≤ b ∧ b < w'.heap.size) v F) := ⟨h2, h3⟩
  clear h2 h3 HC
  go_wp2_with fail
  go_ret
  exact ⟨h1, v, F, rfl, H2.out.1, H2.out.2⟩
end Go.Proofs.Qxb6603470a
