/-
  'Rows.FnClassEndReadsOnlyWhatFollowsSaid', PROVED. The frame is the given shell's; its wrap is the one that keeps the world's shape (strings.Index reads a variable of the library's own).
-/
import Derived.Test.Qxb6603118aRows
import Derived.WalkKit
import Derived.ProofKit
import Derived.OpenShut
import Derived.ShutString
import Derived.HandedShaped
import Derived.RegionTactic
import Derived.Laws.BytesArg
import Derived.Lib.SliceRun
import Derived.Test.Qxb6603118aClass
namespace Go.Proofs.Qxb6603118a.fnClassEndReadsOnlyWhatFollows
open Go.ChangeShapes Go.WideShapes Go.ChangeAt Go.RowKit
open Go.ChangeMaps (open_string shut_string)
set_option linter.unusedVariables false

theorem own : ownKnob Try.prog.godebug = none := by kernel_rfl

/-! ### STEP 1: THE WALK: the Go text returns true. -/
theorem conv1 (w : World) (a2 : Int) : ∃ bs : ByteArray, bs.size = 1 ∧ (convert 28 9 (.slice (some ⟨w.heap.size, 0, none⟩) 1 1)).run Try.prog ((w.alloc (.cells #[.int .u8 a2] 5)).drew) = .ok (.string bs) ((w.alloc (.cells #[.int .u8 a2] 5)).drew) :=
  ⟨strOfNums [a2], strOfNums_size _, run_convert_bytes_arg _ 28 5 Try.underlying28 Try.underlying5 w.heap.size 0 1 1 [a2] rfl (fun i hi => by
    obtain rfl : i = 0 := by omega
    simp [go_sem]) 9 Try.underlying9⟩

theorem re2_size (re bs : ByteArray) (n : Nat) (h : n < re.size) (hb : bs.size = 1) : (re.extract 0 n ++ bs ++ re.extract (n + 1) re.size).size = re.size := by
  simp [hb]; omega
theorem re2_same (re bs : ByteArray) (n : Nat) (h : n < re.size) (hb : bs.size = 1) : Cls.classEnd (re.extract 0 n ++ bs ++ re.extract (n + 1) re.size).data.toList n = Cls.classEnd re.data.toList n := by
  apply Cls.classEnd_same
  simp only [ByteArray.data_append, Array.toList_append, Lib.extract_data]
  rw [List.drop_append, List.drop_of_length_le (by simp [hb]; omega)]
  simp [hb]
  rw [show n - min n re.size = 0 by omega, List.drop_zero, List.take_of_length_le (by simp)]
theorem later {w : World} (o : Obj) {v : Value} (hm : w.cell? ⟨0, 0, none⟩ = some v) : (w.alloc o).cell? ⟨0, 0, none⟩ = some v :=
  Lib.cell?_alloc_some o hm

set_option maxHeartbeats 400000 in
theorem walk_in (a0 : ByteArray) (a1 : ByteArray) (a2 : Int) (n : Nat) (m : Int) (w : World)
   (w2 : (Lit.int .u8 a2).wf = true) (h0 : a0.size ≤ 524288) (h1 : a1.size ≤ 524288) (h2 : n < a1.size) (hm : w.cell? ⟨0, 0, none⟩ = some (.int .i64 m)) :
    Calls Try.prog 5 #[.string a0, .string a1, .int .u8 a2, .int .i64 n] w fun e w' => e = .returned (.bool true) ∧ Grown w w' := by
  have hb := (Cls.classEnd_bounds a1.data.toList n (by simpa using h2)).2
  have hsh : Cls.classEnd (a0.data.toList ++ a1.data.toList) (a0.size + n) = a0.size + Cls.classEnd a1.data.toList n := by
    have := Cls.classEnd_shift a1.data.toList n a0.data.toList
    simpa using this
  have hl : a1.data.toList.length = a1.size := by simp
  rw [hl] at hb
  clear hl
  obtain ⟨bs, hbs, kc⟩ := conv1 w a2
  have hn1 : (n : Int) + 1 ≤ (a1.size : Int) := by omega
  have hn2 : n ≤ a1.size := by omega
  go_enter Try.func5, Try.ntmps5
  go_wp2_with (go_at_call 16; go_in)
  refine (zzClassEnd_any _ _ m _ (by omega) (by omega) (by omega) hm).mono ?_
  rintro e w' ⟨rfl, rfl⟩
  go_wp2_with fail
  refine (zzClassEnd_any _ _ m _ (by omega) (by simp; omega) (by simp; omega) hm).mono ?_
  rintro e w' ⟨rfl, rfl⟩
  go_wp2_with fail
  go_region
  go_wp2_with fail
  have hsz := re2_size a1 bs n h2 hbs
  have hsame := re2_same a1 bs n h2 hbs
  generalize a1.extract 0 n ++ bs ++ a1.extract (n + 1) a1.size = re2 at *
  refine (zzClassEnd_any re2 _ m _ (by omega) (by omega) (by omega) (by simpa [go_sem] using later _ hm)).mono ?_
  rintro e w1 ⟨rfl, rfl⟩
  rw [Int.toNat_natCast, hsame]
  go_wp2_with fail
  go_ret
  exact ⟨rfl, by repeat (first | exact Grown.refl _ | apply Grown.drew | apply Grown.alloc)⟩

/-- The law, whatever the input. -/
theorem walk (a0 : ByteArray) (a1 : ByteArray) (a2 : Int) (a3 : Int) (w0 : a0.size ≤ maxLen) (w1 : a1.size ≤ maxLen) (w2 : (Lit.int .u8 a2).wf = true) (w3 : (Lit.int .i64 a3).wf = true) (w : World) (hm : ∃ m, w.cell? ⟨0, 0, none⟩ = some (.int .i64 m)) :
    Calls Try.prog 5 #[.string a0, .string a1, .int .u8 a2, .int .i64 a3] w fun e w' => e = .returned (.bool true) ∧ Grown w w' := by
  unfold maxLen at w0 w1
  obtain ⟨m, hm⟩ := hm
  by_cases hin : a0.size ≤ 524288 ∧ a1.size ≤ 524288 ∧ 0 ≤ a3 ∧ a3 < a1.size
  · obtain ⟨c0, c1, c2, c3⟩ := hin
    obtain ⟨n, rfl⟩ := Int.eq_ofNat_of_zero_le c2
    exact walk_in a0 a1 a2 n m w w2 c0 c1 (by omega) hm
  · clear hm w2 w3
    by_cases g0 : a0.size ≤ 524288
    · by_cases g1 : a1.size ≤ 524288
      · by_cases g2 : a3 < 0
        · go_enter Try.func5, Try.ntmps5
          go_wp2
          go_ret
          exact ⟨rfl, Grown.refl _⟩
        · have g3 : (a1.size : Int) ≤ a3 := by omega
          go_enter Try.func5, Try.ntmps5
          go_wp2
          go_ret
          exact ⟨rfl, Grown.refl _⟩
      · clear hin
        go_enter Try.func5, Try.ntmps5
        go_wp2
        all_goals (go_ret; exact ⟨rfl, Grown.refl _⟩)
    · clear hin
      go_enter Try.func5, Try.ntmps5
      go_wp2
      all_goals (go_ret; exact ⟨rfl, Grown.refl _⟩)

/-! ### THE ROW's STEP -/
set_option maxRecDepth 100000 in
theorem lifted (os : Os) (started : os.Started) (H : Type) (enc : TypeId × Value → H) :
    ReturnsInHanded {} Try.checked os 5 .any (Rows.fnClassEndReadsOnlyWhatFollowsSpec.pre6 enc Try.prog Try.f5 Rows.fnClassEndReadsOnlyWhatFollowsRow.domain false) (Rows.fnClassEndReadsOnlyWhatFollowsSpec.post enc Try.prog Try.f5 false true false false) := by
  refine returnsInHanded_of_change_shaped (C := Try.checked) own started (by kernel_rfl) Try.func5
    (ChangeSpec.witness6 (enc := enc) (C := Try.checked) false ⟨#[], #[.string ByteArray.empty, .string ByteArray.empty, .int .u8 0, .int .i64 0], []⟩ 8 (by kernel_rfl) (by kernel_rfl) (by kernel_rfl) (by kernel_rfl)) ?_
  intro W base args ds gs before hval0 hW hcnd _ hsh _
  have hval : ∀ (j : Nat) t v, Try.f5.params[j]? = some t → args[j]? = some v → Value.okWide Try.prog W .any base t v := hval0
  have hW' := hW
  obtain ⟨p, q, hA0, hV, rfl, hfz, hnd⟩ := hW
  have hA : DataW.TrodAll enc Try.prog W 0 (fun _ => true) true Try.f5.params.toList args.toList ds p := hA0
  rw [Try.params5] at hA hval
  obtain ⟨v0, vs0, d0, ds0, p0, q0, hargs, rfl, rfl, h0, r0⟩ := trodAll_cons hA
  obtain ⟨v1, vs1, d1, ds1, p1, q1, rfl, rfl, rfl, h1, r1⟩ := trodAll_cons r0
  obtain ⟨v2, vs2, d2, ds2, p2, q2, rfl, rfl, rfl, h2, r2⟩ := trodAll_cons r1
  obtain ⟨v3, vs3, d3, ds3, p3, q3, rfl, rfl, rfl, h3, r3⟩ := trodAll_cons r2
  obtain ⟨rfl, rfl, rfl⟩ := trodAll_nil r3
  obtain rfl : args = #[v0, v1, v2, v3] := by cases args; simp_all
  obtain ⟨rfl, rfl⟩ := trodVars_none hV
  obtain ⟨a0, rfl, rfl, rfl, w0⟩ := open_string Try.underlying9 (hval 0 9 v0 rfl rfl) h0
  obtain ⟨a1, rfl, rfl, rfl, w1⟩ := open_string Try.underlying9 (hval 1 9 v1 rfl rfl) h1
  obtain ⟨a2, rfl, rfl, rfl, w2⟩ := open_int Try.underlying5 (hval 2 5 v2 rfl rfl) h2
  obtain ⟨a3, rfl, rfl, rfl, w3⟩ := open_int Try.underlying3 (hval 3 3 v3 rfl rfl) h3
  clear hA0 hval0
  simp only [List.append_nil] at hW'
  refine (walk a0 a1 a2 a3 w0 w1 w2 w3 W (Try.laysM143.s1_3 W hsh)).mono fun e W' ⟨he, hg⟩ => ?_
  subst he
  exact ⟨_, rfl, post_of_same (pa := []) (pv := []) hW' (fun _ _ _ => (trodAll_cons_mk (shut_bool Try.underlying4 _) trodAll_mk0)) (fun sp _ => (trodAll_cons_mk (shut_string Try.underlying9 w0) (trodAll_cons_mk (shut_string Try.underlying9 w1) (trodAll_cons_mk (shut_int Try.underlying5 w2) (trodAll_cons_mk (shut_int Try.underlying3 w3) trodAll_mk0))))) (fun _ _ => rfl) rfl
    (hg.frame _) hg.2.1 (ok_one (by kernel_rfl) rfl (okWide_bool_mk Try.underlying4 _))⟩

theorem over : Rows.fnClassEndReadsOnlyWhatFollowsRow.holds Try.pinned (OpenSpec.ofChange Rows.fnClassEndReadsOnlyWhatFollowsSpec) :=
  OpenClaim.holds_of_wide 5 Try.f5 rfl rfl rfl rfl rfl rfl rfl ⟨rfl, rfl, rfl, rfl, rfl⟩ rfl rfl rfl rfl rfl (by kernel_rfl) Try.func5 (by kernel_rfl)
    (of_decide_eq_true (by kernel_rfl)) (by unfold Func.isWrapper; first | (rw [if_pos (by decide +kernel)]; kernel_rfl) | (rw [if_neg (by decide +kernel)]; exact ⟨rfl, rfl⟩))
    (fun os started H enc _ => lifted os started H enc)

/-- THE STATEMENT. -/
theorem proved : Rows.FnClassEndReadsOnlyWhatFollowsSaid :=
  over
#print axioms proved
end Go.Proofs.Qxb6603118a.fnClassEndReadsOnlyWhatFollows
