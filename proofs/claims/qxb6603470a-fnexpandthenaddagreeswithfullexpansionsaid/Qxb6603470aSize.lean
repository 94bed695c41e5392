/-
  THE WALKS of what reckons the sizes: addString (25), addStrings (7), addInts (28), addPieces (55), addLines (47), addTable (29), expandTotal (14).
-/
import Derived.Test.Qxb6603470aHeap
namespace Go.Proofs.Qxb6603470a
open Go.RowKit
set_option linter.unusedVariables false
set_option linter.unusedSimpArgs false

/-- The new total: within the limit only if the old one was, and p holds. -/
def Tot (t t' : Int) (p : Prop) : Prop := 0 ≤ t' ∧ t' ≤ 1048577 ∧ (t' ≤ 1048576 → t ≤ 1048576 ∧ p)

theorem addString_any (t : Int) (s : ByteArray) (w : World) (ht : 0 ≤ t) (ht2 : t ≤ 134217728) :
    Calls Try.prog 25 #[.int .i64 t, .string s] w fun e w' => w' = w ∧ ∃ t', e = .returned (.int .i64 t') ∧ Tot t t' (s.size ≤ 1048576) := by
  go_enter Try.func25, Try.ntmps25
  by_cases h1 : 1048576 < t
  · go_wp2
    go_ret
    exact ⟨rfl, _, rfl, by decide, by decide, fun h => by omega⟩
  · by_cases h2 : 1048576 < s.size
    · go_wp2
      go_ret
      exact ⟨rfl, _, rfl, by decide, by decide, fun h => by omega⟩
    · by_cases h3 : 1048576 < t + s.size
      · go_wp2
        go_ret
        exact ⟨rfl, _, rfl, by decide, by decide, fun h => by omega⟩
      · go_wp2
        go_ret
        exact ⟨rfl, _, rfl, by omega, by omega, fun h => by omega⟩

theorem addInts_any (t : Int) (a : Option Addr) (n c : Nat) (w : World) (ht : 0 ≤ t) (ht2 : t ≤ 134217728) (hn : n ≤ 9223372036854775807) :
    Calls Try.prog 28 #[.int .i64 t, .slice a n c] w fun e w' => w' = w ∧ ∃ t', e = .returned (.int .i64 t') ∧ Tot t t' (n ≤ 1048576) := by
  go_enter Try.func28, Try.ntmps28
  by_cases h1 : 1048576 < t
  · go_wp2
    go_ret
    exact ⟨rfl, _, rfl, by decide, by decide, fun h => by omega⟩
  · by_cases h2 : 1048576 < n
    · go_wp2
      go_ret
      exact ⟨rfl, _, rfl, by decide, by decide, fun h => by omega⟩
    · by_cases h3 : 1048576 < t + 8 * n
      · go_wp2
        go_ret
        exact ⟨rfl, _, rfl, by decide, by decide, fun h => by omega⟩
      · go_wp2
        go_ret
        exact ⟨rfl, _, rfl, by omega, by omega, fun h => by omega⟩

def StrsFit (ss : List ByteArray) : Prop := ss.length ≤ 1048576 ∧ ∀ i, i < ss.length → (ss.getD i ByteArray.empty).size ≤ 1048576

theorem addStrings_any (t : Int) (v : Value) (ss : List ByteArray) (w : World) (ht : 0 ≤ t) (ht2 : t ≤ 134217728) (B : Nat → Prop) (hv : StrsAt w B v ss) :
    Calls Try.prog 7 #[.int .i64 t, v] w fun e w' => w' = w ∧ ∃ t', e = .returned (.int .i64 t') ∧ Tot t t' (StrsFit ss) := by
  obtain ⟨a, c, rfl, hc, hn, hat⟩ := hv
  have HAT : Hid (At w B a ss.length ss.length (fun i => .string (ss.getD i ByteArray.empty))) := hat
  clear hat
  generalize hN : ss.length = n at *
  have HN : Hid (ss.length = n) := hN
  clear hN
  go_enter Try.func7, Try.ntmps7
  by_cases h1 : 1048576 < t
  · go_wp2
    go_ret
    exact ⟨rfl, _, rfl, by decide, by decide, fun h => by omega⟩
  · by_cases h2 : 1048576 < n
    · go_wp2
      go_ret
      exact ⟨rfl, _, rfl, by decide, by decide, fun h => by omega⟩
    · go_wp2
      go_loop [0, 5] (fun x i => ∃ (k : Nat) (T : Int), i = .int .i64 k ∧ k ≤ n ∧ x = .int .i64 T ∧ 0 ≤ T ∧ T ≤ 134217728 ∧ Hid (T ≤ 1048576 → ∀ j, j < k → (ss.getD j ByteArray.empty).size ≤ 1048576)) (fun _ i => n - (intOf i).toNat)
      case atStart => exact ⟨0, _, rfl, Nat.zero_le _, rfl, by omega, by omega, fun _ j hj => by omega⟩
      case round =>
        obtain ⟨k, T, rfl, hk, rfl, hT0, hT1, HT⟩ := hrel
        by_cases hlt : k < n
        · obtain ⟨b, o, rfl, hb, hcell⟩ := HAT.out (by omega)
          have hck := hcell k hlt
          clear hcell
          go_wp2_with (go_at_call 25; refine (addString_any T (ss.getD k ByteArray.empty) _ hT0 hT1).mono ?_; rintro e w' ⟨rfl, T', rfl, h5, h6, h7⟩; have HT' : Hid (T' ≤ 1048576 → T ≤ 1048576 ∧ (ss.getD k ByteArray.empty).size ≤ 1048576) := h7; clear h7)
          go_round
          case rel =>
            refine ⟨k + 1, T', by go_num, by omega, rfl, h5, by omega, fun h j hj => ?_⟩
            obtain ⟨q1, q2⟩ := HT'.out h
            by_cases e : j = k
            · subst e; exact q2
            · exact HT.out q1 j (by omega)
          case measure => simp [intOf]; omega
        · obtain rfl : k = n := by omega
          by_cases h3 : 1048576 < T
          · go_wp2
            go_ret
            exact ⟨rfl, _, rfl, by decide, by decide, fun h => by omega⟩
          · go_wp2
            go_ret
            refine ⟨rfl, _, rfl, by omega, by omega, fun h => ⟨by omega, ?_⟩⟩
            unfold StrsFit
            rw [HN.out]
            exact ⟨by omega, HT.out h⟩

def PcsFit (L : List SP) : Prop := L.length ≤ 1048576 ∧ ∀ i, i < L.length → (L.getD i default).o.size ≤ 1048576 ∧ (L.getD i default).q.size ≤ 1048576
def LnsFit (L : List (List SP)) : Prop := L.length ≤ 1048576 ∧ ∀ i, i < L.length → PcsFit (L.getD i [])
def TabFit (L : List (List (List SP))) : Prop := L.length ≤ 1048576 ∧ ∀ i, i < L.length → LnsFit (L.getD i [])

theorem addPieces_any (t : Int) (v : Value) (ss : List SP) (w : World) (ht : 0 ≤ t) (ht2 : t ≤ 134217728) (B : Nat → Prop) (hv : PcsAt pc w B v ss) :
    Calls Try.prog 55 #[.int .i64 t, v] w fun e w' => w' = w ∧ ∃ t', e = .returned (.int .i64 t') ∧ Tot t t' (PcsFit ss) := by
  obtain ⟨a, c, rfl, hc, hn, hat⟩ := hv
  have HAT : Hid (At w B a ss.length (ss.length * 4) (fun i => pc (ss.getD (i / 4) default) (i % 4))) := hat
  clear hat
  have HN : Hid (∃ n, n = ss.length) := ⟨_, rfl⟩
  obtain ⟨n, hN⟩ := HN.out
  clear HN
  have HN : Hid (n = ss.length) := hN
  rw [← hN] at hc hn ⊢
  clear hN
  go_enter Try.func55, Try.ntmps55
  by_cases h1 : 1048576 < t
  · go_wp2
    go_ret
    exact ⟨rfl, _, rfl, by decide, by decide, fun h => by omega⟩
  · by_cases h2 : 1048576 < n
    · go_wp2
      go_ret
      exact ⟨rfl, _, rfl, by decide, by decide, fun h => by omega⟩
    · go_wp2
      go_loop [0, 5] (fun x i => ∃ (k : Nat) (T : Int), i = .int .i64 k ∧ k ≤ n ∧ x = .int .i64 T ∧ 0 ≤ T ∧ T ≤ 134217728 ∧ Hid (T ≤ 1048576 → ∀ j, j < k → (ss.getD j default).o.size ≤ 1048576 ∧ (ss.getD j default).q.size ≤ 1048576)) (fun _ i => n - (intOf i).toNat)
      case atStart => exact ⟨0, _, rfl, Nat.zero_le _, rfl, by omega, by omega, fun _ j hj => by omega⟩
      case round =>
        obtain ⟨k, T, rfl, hk, rfl, hT0, hT1, HT⟩ := hrel
        by_cases hlt : k < n
        · obtain ⟨b, o, rfl, hb, hcell⟩ := HAT.out (by have := HN.out; omega)
          obtain ⟨c0, c1, c2, c3⟩ := at4 (a := none) (n := 0) (k := k) (by have := HN.out; omega) hcell
          simp only [pc] at c0 c1
          clear hcell c2 c3
          generalize hp : ss.getD k default = p at *
          have HP : Hid (ss.getD k default = p) := hp
          clear hp
          go_wp2_with fail
          refine (addString_any T p.o _ hT0 hT1).mono ?_
          rintro e w' ⟨rfl, T', rfl, h5, h6, h7⟩
          have HT' : Hid (T' ≤ 1048576 → T ≤ 1048576 ∧ p.o.size ≤ 1048576) := h7
          clear h7
          go_wp2_with fail
          refine (addString_any T' p.q _ h5 (by omega)).mono ?_
          rintro e w' ⟨rfl, T2, rfl, g5, g6, g7⟩
          have HT2 : Hid (T2 ≤ 1048576 → T' ≤ 1048576 ∧ p.q.size ≤ 1048576) := g7
          clear g7
          go_wp2_with fail
          go_round
          case rel =>
            refine ⟨k + 1, T2, by go_num, by omega, rfl, g5, by omega, fun h j hj => ?_⟩
            obtain ⟨q1, q2⟩ := HT2.out h
            obtain ⟨q3, q4⟩ := HT'.out q1
            by_cases e : j = k
            · subst e; rw [HP.out]; exact ⟨q4, q2⟩
            · exact HT.out q3 j (by omega)
          case measure => simp [intOf]; omega
        · obtain rfl : k = n := by omega
          by_cases h3 : 1048576 < T
          · go_wp2
            go_ret
            exact ⟨rfl, _, rfl, by decide, by decide, fun h => by omega⟩
          · go_wp2
            go_ret
            refine ⟨rfl, _, rfl, by omega, by omega, fun h => ⟨by omega, ?_⟩⟩
            unfold PcsFit
            rw [← HN.out]
            exact ⟨by omega, HT.out h⟩

theorem addLines_any (t : Int) (v : Value) (ss : List (List SP)) (w : World) (ht : 0 ≤ t) (ht2 : t ≤ 134217728) (B : Nat → Prop) (hv : LnsAt pc w B v ss) :
    Calls Try.prog 47 #[.int .i64 t, v] w fun e w' => w' = w ∧ ∃ t', e = .returned (.int .i64 t') ∧ Tot t t' (LnsFit ss) := by
  obtain ⟨a, c, V, rfl, hc, hn, hat, hel⟩ := hv
  have HAT : Hid (At w B a ss.length ss.length V) := hat
  clear hat
  have HEL : Hid (∀ j, j < ss.length → PcsAt pc w B (V j) (ss.getD j [])) := hel
  clear hel
  have HN : Hid (∃ n, n = ss.length) := ⟨_, rfl⟩
  obtain ⟨n, hN⟩ := HN.out
  clear HN
  have HN : Hid (n = ss.length) := hN
  rw [← hN] at hc hn ⊢
  clear hN
  go_enter Try.func47, Try.ntmps47
  by_cases h1 : 1048576 < t
  · go_wp2
    go_ret
    exact ⟨rfl, _, rfl, by decide, by decide, fun h => by omega⟩
  · by_cases h2 : 1048576 < n
    · go_wp2
      go_ret
      exact ⟨rfl, _, rfl, by decide, by decide, fun h => by omega⟩
    · go_wp2
      go_loop [0, 5] (fun x i => ∃ (k : Nat) (T : Int), i = .int .i64 k ∧ k ≤ n ∧ x = .int .i64 T ∧ 0 ≤ T ∧ T ≤ 134217728 ∧ Hid (T ≤ 1048576 → ∀ j, j < k → PcsFit (ss.getD j []))) (fun _ i => n - (intOf i).toNat)
      case atStart => exact ⟨0, _, rfl, Nat.zero_le _, rfl, by omega, by omega, fun _ j hj => by omega⟩
      case round =>
        obtain ⟨k, T, rfl, hk, rfl, hT0, hT1, HT⟩ := hrel
        by_cases hlt : k < n
        · obtain ⟨b, o, rfl, hb, hcell⟩ := HAT.out (by have := HN.out; omega)
          have hck := hcell k (by have := HN.out; omega)
          clear hcell
          have HV : Hid (PcsAt pc w B (V k) (ss.getD k [])) := HEL.out k (by have := HN.out; omega)
          obtain ⟨ak, nk, ck, hsh⟩ : ∃ a n c, V k = .slice a n c := by
            have := HV.out
            simp only [PcsAt] at this
            obtain ⟨a, c, e, _⟩ := this
            exact ⟨_, _, _, e⟩
          rw [hsh] at hck HV
          clear hsh
          go_wp2_with (go_at_call 55; refine (addPieces_any T _ (ss.getD k []) _ hT0 hT1 B HV.out).mono ?_; rintro e w' ⟨rfl, T', rfl, h5, h6, h7⟩; have HT' : Hid (T' ≤ 1048576 → T ≤ 1048576 ∧ PcsFit (ss.getD k [])) := h7; clear h7)
          go_round
          case rel =>
            refine ⟨k + 1, T', by go_num, by omega, rfl, h5, by omega, fun h j hj => ?_⟩
            obtain ⟨q1, q2⟩ := HT'.out h
            by_cases e : j = k
            · subst e; exact q2
            · exact HT.out q1 j (by omega)
          case measure => simp [intOf]; omega
        · obtain rfl : k = n := by omega
          by_cases h3 : 1048576 < T
          · go_wp2
            go_ret
            exact ⟨rfl, _, rfl, by decide, by decide, fun h => by omega⟩
          · go_wp2
            go_ret
            refine ⟨rfl, _, rfl, by omega, by omega, fun h => ⟨by omega, ?_⟩⟩
            unfold LnsFit
            rw [← HN.out]
            exact ⟨by omega, HT.out h⟩

theorem addTable_any (t : Int) (v : Value) (ss : List (List (List SP))) (w : World) (ht : 0 ≤ t) (ht2 : t ≤ 134217728) (B : Nat → Prop) (hv : TabAt w B v ss) :
    Calls Try.prog 29 #[.int .i64 t, v] w fun e w' => w' = w ∧ ∃ t', e = .returned (.int .i64 t') ∧ Tot t t' (TabFit ss) := by
  obtain ⟨a, c, V, rfl, hc, hn, hat, hel⟩ := hv
  have HAT : Hid (At w B a ss.length ss.length V) := hat
  clear hat
  have HEL : Hid (∀ j, j < ss.length → LnsAt pc w B (V j) (ss.getD j [])) := hel
  clear hel
  have HN : Hid (∃ n, n = ss.length) := ⟨_, rfl⟩
  obtain ⟨n, hN⟩ := HN.out
  clear HN
  have HN : Hid (n = ss.length) := hN
  rw [← hN] at hc hn ⊢
  clear hN
  go_enter Try.func29, Try.ntmps29
  by_cases h1 : 1048576 < t
  · go_wp2
    go_ret
    exact ⟨rfl, _, rfl, by decide, by decide, fun h => by omega⟩
  · by_cases h2 : 1048576 < n
    · go_wp2
      go_ret
      exact ⟨rfl, _, rfl, by decide, by decide, fun h => by omega⟩
    · go_wp2
      go_loop [0, 5] (fun x i => ∃ (k : Nat) (T : Int), i = .int .i64 k ∧ k ≤ n ∧ x = .int .i64 T ∧ 0 ≤ T ∧ T ≤ 134217728 ∧ Hid (T ≤ 1048576 → ∀ j, j < k → LnsFit (ss.getD j []))) (fun _ i => n - (intOf i).toNat)
      case atStart => exact ⟨0, _, rfl, Nat.zero_le _, rfl, by omega, by omega, fun _ j hj => by omega⟩
      case round =>
        obtain ⟨k, T, rfl, hk, rfl, hT0, hT1, HT⟩ := hrel
        by_cases hlt : k < n
        · obtain ⟨b, o, rfl, hb, hcell⟩ := HAT.out (by have := HN.out; omega)
          have hck := hcell k (by have := HN.out; omega)
          clear hcell
          have HV : Hid (LnsAt pc w B (V k) (ss.getD k [])) := HEL.out k (by have := HN.out; omega)
          obtain ⟨ak, nk, ck, hsh⟩ : ∃ a n c, V k = .slice a n c := by
            have := HV.out
            simp only [LnsAt] at this
            obtain ⟨a, c, V, e, _⟩ := this
            exact ⟨_, _, _, e⟩
          rw [hsh] at hck HV
          clear hsh
          go_wp2_with (go_at_call 47; refine (addLines_any T _ (ss.getD k []) _ hT0 hT1 B HV.out).mono ?_; rintro e w' ⟨rfl, T', rfl, h5, h6, h7⟩; have HT' : Hid (T' ≤ 1048576 → T ≤ 1048576 ∧ LnsFit (ss.getD k [])) := h7; clear h7)
          go_round
          case rel =>
            refine ⟨k + 1, T', by go_num, by omega, rfl, h5, by omega, fun h j hj => ?_⟩
            obtain ⟨q1, q2⟩ := HT'.out h
            by_cases e : j = k
            · subst e; exact q2
            · exact HT.out q1 j (by omega)
          case measure => simp [intOf]; omega
        · obtain rfl : k = n := by omega
          by_cases h3 : 1048576 < T
          · go_wp2
            go_ret
            exact ⟨rfl, _, rfl, by decide, by decide, fun h => by omega⟩
          · go_wp2
            go_ret
            refine ⟨rfl, _, rfl, by omega, by omega, fun h => ⟨by omega, ?_⟩⟩
            unfold TabFit
            rw [← HN.out]
            exact ⟨by omega, HT.out h⟩

theorem total_any (v0 v2 v3 v4 : Value) (op : List ByteArray) (ty : ByteArray) (nm : List ByteArray) (rf : List Int) (T : List (List (List SP))) (w : World) (B : Nat → Prop)
    (h0 : StrsAt w B v0 op) (h2 : StrsAt w B v2 nm) (h3 : IntsAt w B v3 rf) (h4 : TabAt w B v4 T) :
    Calls Try.prog 14 #[v0, .string ty, v2, v3, v4] w fun e w' => w' = w ∧ ∃ t', e = .returned (.int .i64 t') ∧ 0 ≤ t' ∧ (t' ≤ 1048576 → StrsFit op ∧ ty.size ≤ 1048576 ∧ StrsFit nm ∧ rf.length ≤ 1048576 ∧ TabFit T) := by
  obtain ⟨a0, c0, rfl, g0⟩ := h0
  obtain ⟨a2, c2, rfl, g2⟩ := h2
  obtain ⟨a3, c3, rfl, g3⟩ := h3
  obtain ⟨a4, c4, V4, rfl, g4⟩ := h4
  have G0 : Hid (StrsAt w B (.slice a0 op.length c0) op) := ⟨_, _, rfl, g0⟩
  have G2 : Hid (StrsAt w B (.slice a2 nm.length c2) nm) := ⟨_, _, rfl, g2⟩
  have G4 : Hid (TabAt w B (.slice a4 T.length c4) T) := ⟨_, _, _, rfl, g4⟩
  have hr := g3.2.1
  clear g0 g2 g3 g4
  go_enter Try.func14, Try.ntmps14
  go_wp2_with fail
  refine (addStrings_any 0 _ op _ (by decide) (by decide) B G0.out).mono ?_
  rintro e w1 ⟨rfl, t1, rfl, p1, p2, p3⟩
  have H1 : Hid (t1 ≤ 1048576 → StrsFit op) := fun h => (p3 h).2
  clear p3
  go_wp2_with fail
  refine (addString_any t1 ty _ p1 (by omega)).mono ?_
  rintro e w1 ⟨rfl, t2, rfl, q1, q2, q3⟩
  have H2 : Hid (t2 ≤ 1048576 → t1 ≤ 1048576 ∧ ty.size ≤ 1048576) := q3
  clear q3
  go_wp2_with fail
  refine (addStrings_any t2 _ nm _ q1 (by omega) B G2.out).mono ?_
  rintro e w1 ⟨rfl, t3, rfl, r1, r2, r3⟩
  have H3 : Hid (t3 ≤ 1048576 → t2 ≤ 1048576 ∧ StrsFit nm) := r3
  clear r3
  go_wp2_with fail
  refine (addInts_any t3 a3 rf.length c3 _ r1 (by omega) hr).mono ?_
  rintro e w1 ⟨rfl, t4, rfl, s1, s2, s3⟩
  have H4 : Hid (t4 ≤ 1048576 → t3 ≤ 1048576 ∧ rf.length ≤ 1048576) := s3
  clear s3
  go_wp2_with fail
  refine (addTable_any t4 _ T _ s1 (by omega) B G4.out).mono ?_
  rintro e w1 ⟨rfl, t5, rfl, u1, u2, u3⟩
  have H5 : Hid (t5 ≤ 1048576 → t4 ≤ 1048576 ∧ TabFit T) := u3
  clear u3
  go_wp2_with fail
  go_ret
  refine ⟨rfl, _, rfl, u1, fun h => ?_⟩
  obtain ⟨x5, y5⟩ := H5.out h
  obtain ⟨x4, y4⟩ := H4.out x5
  obtain ⟨x3, y3⟩ := H3.out x4
  obtain ⟨x2, y2⟩ := H2.out x3
  exact ⟨H1.out x2, y2, y3, y4, y5⟩
end Go.Proofs.Qxb6603470a
