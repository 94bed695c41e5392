/-
  PLAIN: a JSON text as a list of tokens; the level machine; what is reported. No Go in sight.
-/
namespace Go.Proofs.Qxb6603798a.Js

/-- The byte at i. -/
def ch (zs : List Int) (i : Nat) : Int := zs.getD i 0
def sp (c : Int) : Bool := c == 32 || c == 9 || c == 10 || c == 13
/-- A byte of a number or a literal: none of JSON's signs. -/
def Pl (c : Int) : Prop := c ≠ 34 ∧ c ≠ 91 ∧ c ≠ 93 ∧ c ≠ 123 ∧ c ≠ 125 ∧ c ≠ 44 ∧ c ≠ 58 ∧ c ≠ 32 ∧ c ≠ 9 ∧ c ≠ 10 ∧ c ≠ 13
/-- Behind a value: the end, or a sign that ends it. -/
def Dl (zs : List Int) (n e : Nat) : Prop := e = n ∨ (e < n ∧ (sp (ch zs e) = true ∨ ch zs e = 44 ∨ ch zs e = 93 ∨ ch zs e = 125))

/-- Blanks from p to q, and no more. -/
def Sps (zs : List Int) (n p q : Nat) : Prop := p ≤ q ∧ q ≤ n ∧ (∀ i, p ≤ i → i < q → sp (ch zs i) = true) ∧ (q < n → sp (ch zs q) = false)

/-- Inside a string: to just behind the closing quote. -/
def strE (zs : List Int) (n : Nat) : Nat → Nat → Option Nat
  | 0, _ => none
  | f + 1, q => if q < n then (if ch zs q = 34 then some (q + 1) else if ch zs q = 92 then strE zs n f (q + 2) else strE zs n f (q + 1)) else none
def Str (zs : List Int) (n q e : Nat) : Prop := ∃ f, strE zs n f q = some e

section
variable {zs : List Int} {n : Nat}
theorem str_quote {q : Nat} (h : q < n) (e : ch zs q = 34) : Str zs n q (q + 1) := ⟨1, by simp [strE, h, e]⟩
theorem str_bs {q e : Nat} (h : q < n) (e1 : ch zs q = 92) (hs : Str zs n (q + 2) e) : Str zs n q e := by
  obtain ⟨f, hf⟩ := hs
  exact ⟨f + 1, by simp [strE, h, e1, hf]⟩
theorem str_plain {q e : Nat} (h : q < n) (e1 : ch zs q ≠ 34) (e2 : ch zs q ≠ 92) (hs : Str zs n (q + 1) e) : Str zs n q e := by
  obtain ⟨f, hf⟩ := hs
  exact ⟨f + 1, by simp [strE, h, e1, e2, hf]⟩
/-- Read the other way. -/
theorem str_cases {q e : Nat} (hs : Str zs n q e) : q < n ∧ ((ch zs q = 34 ∧ e = q + 1) ∨ (ch zs q = 92 ∧ Str zs n (q + 2) e) ∨ (ch zs q ≠ 34 ∧ ch zs q ≠ 92 ∧ Str zs n (q + 1) e)) := by
  obtain ⟨f, hf⟩ := hs
  cases f with
  | zero => simp [strE] at hf
  | succ f =>
    unfold strE at hf
    by_cases h : q < n
    · rw [if_pos h] at hf
      refine ⟨h, ?_⟩
      by_cases e1 : ch zs q = 34
      · rw [if_pos e1] at hf
        exact .inl ⟨e1, (Option.some.inj hf).symm⟩
      · rw [if_neg e1] at hf
        by_cases e2 : ch zs q = 92
        · rw [if_pos e2] at hf; exact .inr (.inl ⟨e2, f, hf⟩)
        · rw [if_neg e2] at hf; exact .inr (.inr ⟨e1, e2, f, hf⟩)
    · rw [if_neg h] at hf; cases hf
theorem str_bound : ∀ (f q e : Nat), strE zs n f q = some e → q < e ∧ e ≤ n
  | 0, q, e => by simp [strE]
  | f + 1, q, e => by
    intro hf
    unfold strE at hf
    by_cases h : q < n
    · rw [if_pos h] at hf
      by_cases e1 : ch zs q = 34
      · rw [if_pos e1] at hf
        have := Option.some.inj hf; omega
      · rw [if_neg e1] at hf
        by_cases e2 : ch zs q = 92
        · rw [if_pos e2] at hf; have := str_bound f _ _ hf; omega
        · rw [if_neg e2] at hf; have := str_bound f _ _ hf; omega
    · rw [if_neg h] at hf; cases hf
theorem Str.bound {q e : Nat} (h : Str zs n q e) : q < e ∧ e ≤ n := by
  obtain ⟨f, hf⟩ := h
  exact str_bound f q e hf
end

/-- A level of the model's stack; a token; what is reported. The stack is kept TOP FIRST. -/
structure Lv where
  obj : Bool
  st : Int
  ns : Int
  ne : Int
  ix : Int
structure Tok where
  k : Nat
  i : Nat
  e : Nat
  x : Nat
structure Ms where
  start : Int
  en : Int
  name : Bool
  path : List Lv

/-- A token's bytes are as its kind says: 0 open, 1 close, 2 comma, 3 blank or colon, 4 name, 5 string, 6 scalar. -/
def G (zs : List Int) (n : Nat) (t : Tok) : Prop :=
  t.i < t.e ∧ t.e ≤ n ∧
  ((t.k = 0 ∧ (ch zs t.i = 123 ∨ ch zs t.i = 91) ∧ t.e = t.i + 1) ∨ (t.k = 1 ∧ (ch zs t.i = 125 ∨ ch zs t.i = 93) ∧ t.e = t.i + 1) ∨ (t.k = 2 ∧ ch zs t.i = 44 ∧ t.e = t.i + 1) ∨
   (t.k = 3 ∧ (ch zs t.i = 58 ∨ sp (ch zs t.i) = true) ∧ t.e = t.i + 1) ∨ ((t.k = 4 ∨ t.k = 5) ∧ ch zs t.i = 34 ∧ Str zs n (t.i + 1) t.e) ∨
   (t.k = 6 ∧ (∀ j, t.i ≤ j → j < t.e → Pl (ch zs j)) ∧ Dl zs n t.e))

/-- One behind the other, from p to q. -/
def Ch : Nat → Nat → List Tok → Prop
  | p, q, [] => p = q
  | p, q, t :: T => t.i = p ∧ Ch t.e q T
/-- Depth d ahead of them: they come to depth 0 just at their end. -/
def dep : Nat → List Tok → Prop
  | _, [] => False
  | d, t :: T => if t.k = 0 then dep (d + 1) T else if t.k = 1 then (if d = 1 then T = [] else dep (d - 1) T) else dep d T
/-- A whole array or object from i to x. -/
def Cont (zs : List Int) (n i x : Nat) : Prop := ∃ T, Ch i x T ∧ (∀ t ∈ T, G zs n t) ∧ dep 0 T

/-- The level machine: the stack, and whether its top waits for a name. -/
def step (zs : List Int) (s : List Lv × Bool) (t : Tok) : Option (List Lv × Bool) :=
  if t.k = 0 then (if s.2 then none else some (⟨ch zs t.i == 123, t.i, -1, -1, 0⟩ :: s.1, ch zs t.i == 123))
  else if t.k = 1 then (match s.1 with | [] => none | _ :: r => some (r, false))
  else if t.k = 2 then (match s.1 with | [] => none | l :: r => some (⟨l.obj, l.st, l.ns, l.ne, l.ix + 1⟩ :: r, l.obj))
  else if t.k = 3 then some s
  else if t.k = 4 then (match s.1 with | [] => none | l :: r => if s.2 then some (⟨l.obj, l.st, t.i, t.e, l.ix⟩ :: r, false) else none)
  else if s.2 then none else some s
/-- Is it reported at the offset? -/
def repT (off : Int) (s s' : List Lv × Bool) (t : Tok) : Option Ms :=
  if t.k = 0 then (if off = (t.i : Int) + 1 then some ⟨t.i, t.x, false, s.1⟩ else none)
  else if t.k = 4 then (if off = (t.i : Int) + 1 then some ⟨t.i, t.e, true, s'.1⟩ else none)
  else if t.k = 5 ∨ t.k = 6 then (if off = (t.e : Int) ∨ off = (t.e : Int) + 1 then some ⟨t.i, t.e, false, s.1⟩ else none)
  else none
def run (zs : List Int) : List Lv × Bool → List Tok → Option (List Lv × Bool)
  | s, [] => some s
  | s, t :: T => match step zs s t with | none => none | some s' => run zs s' T
def rep (zs : List Int) (off : Int) : List Lv × Bool → List Tok → Option Ms
  | _, [] => none
  | s, t :: T => match step zs s t with | none => none | some s' => (repT off s s' t).or (rep zs off s' T)

theorem ch_app : ∀ (T1 T2 : List Tok) (p q u : Nat), Ch p q T1 → Ch q u T2 → Ch p u (T1 ++ T2)
  | [], _, _, _, _, h1, h2 => by cases h1; exact h2
  | t :: T1, T2, p, q, u, h1, h2 => ⟨h1.1, ch_app T1 T2 _ _ _ h1.2 h2⟩
theorem run_app (zs : List Int) : ∀ (T1 T2 : List Tok) (s s1 : List Lv × Bool), run zs s T1 = some s1 → run zs s (T1 ++ T2) = run zs s1 T2
  | [], _, _, _, h => by cases h; rfl
  | t :: T1, T2, s, s1, h => by
    simp only [List.cons_append, run] at h ⊢
    cases hs : step zs s t with
    | none => rw [hs] at h; cases h
    | some s' => rw [hs] at h; exact run_app zs T1 T2 s' s1 h
theorem rep_app (zs : List Int) (off : Int) : ∀ (T1 T2 : List Tok) (s s1 : List Lv × Bool), run zs s T1 = some s1 → rep zs off s (T1 ++ T2) = (rep zs off s T1).or (rep zs off s1 T2)
  | [], _, _, _, h => by cases h; simp [rep]
  | t :: T1, T2, s, s1, h => by
    simp only [List.cons_append, run, rep] at h ⊢
    cases hs : step zs s t with
    | none => rw [hs] at h; cases h
    | some s' =>
      rw [hs] at h
      simp only [rep_app zs off T1 T2 s' s1 h, Option.or_assoc]

/-- A segment of tokens. -/
def Seg (zs : List Int) (n : Nat) (off : Int) (p q : Nat) (s s' : List Lv × Bool) (r : Option Ms) (T : List Tok) : Prop :=
  Ch p q T ∧ (∀ t ∈ T, G zs n t ∧ (t.k = 0 → Cont zs n t.i t.x)) ∧ (∀ d, 1 ≤ d → ∀ R, dep d R → dep d (T ++ R)) ∧ run zs s T = some s' ∧ rep zs off s T = r
def SegE (zs : List Int) (n : Nat) (off : Int) (p q : Nat) (s s' : List Lv × Bool) (r : Option Ms) : Prop := ∃ T, Seg zs n off p q s s' r T

section
variable {zs : List Int} {n : Nat} {off : Int}
theorem SegE.refl (p : Nat) (s : List Lv × Bool) : SegE zs n off p p s s none := ⟨[], rfl, by simp, fun _ _ _ h => h, rfl, rfl⟩
theorem SegE.trans {p q u : Nat} {s s1 s2 : List Lv × Bool} {r1 r2 : Option Ms} (h1 : SegE zs n off p q s s1 r1) (h2 : SegE zs n off q u s1 s2 r2) : SegE zs n off p u s s2 (r1.or r2) := by
  obtain ⟨T1, a1, b1, c1, d1, e1⟩ := h1
  obtain ⟨T2, a2, b2, c2, d2, e2⟩ := h2
  refine ⟨T1 ++ T2, ch_app _ _ _ _ _ a1 a2, ?_, ?_, ?_, ?_⟩
  · intro t ht
    rcases List.mem_append.1 ht with h | h
    · exact b1 t h
    · exact b2 t h
  · intro d hd R hR
    rw [List.append_assoc]; exact c1 d hd _ (c2 d hd R hR)
  · rw [run_app zs T1 T2 s s1 d1]; exact d2
  · rw [rep_app zs off T1 T2 s s1 d1, e1, e2]
/-- One token, no bracket. -/
theorem SegE.one {s s' : List Lv × Bool} (t : Tok) (hg : G zs n t) (h0 : t.k ≠ 0) (h1 : t.k ≠ 1) (hs : step zs s t = some s') : SegE zs n off t.i t.e s s' (repT off s s' t) := by
  refine ⟨[t], ⟨rfl, rfl⟩, ?_, ?_, ?_, ?_⟩
  · intro u hu
    obtain rfl : u = t := by simpa using hu
    exact ⟨hg, fun h => absurd h h0⟩
  · intro d _ R hR
    show (if t.k = 0 then _ else if t.k = 1 then _ else _)
    rw [if_neg h0, if_neg h1]; exact hR
  · simp [run, hs]
  · simp [rep, hs]
/-- Blanks. -/
theorem SegE.blanks {p q : Nat} (h : Sps zs n p q) (s : List Lv × Bool) : SegE zs n off p q s s none := by
  obtain ⟨h1, h2, h3, h4⟩ := h
  clear h4
  obtain ⟨m, rfl⟩ : ∃ m, q = p + m := ⟨q - p, by omega⟩
  clear h1
  induction m generalizing p with
  | zero => exact SegE.refl _ _
  | succ m ih =>
    have e1 : SegE zs n off p (p + 1) s s none := by
      have := SegE.one (off := off) (s := s) (s' := s) (zs := zs) (n := n) ⟨3, p, p + 1, 0⟩ ⟨by simp, by simp; omega, .inr (.inr (.inr (.inl ⟨rfl, .inr (h3 p (Nat.le_refl _) (by omega)), rfl⟩)))⟩ (by simp) (by simp) rfl
      exact this
    have e2 := ih (p := p + 1) (by omega) (fun i a b => h3 i (by omega) (by omega))
    have := e1.trans e2
    rw [show p + 1 + m = p + (m + 1) by omega] at this
    exact this
theorem SegE.colon {q : Nat} (h : q < n) (hc : ch zs q = 58) (s : List Lv × Bool) : SegE zs n off q (q + 1) s s none :=
  SegE.one (off := off) (s := s) (s' := s) ⟨3, q, q + 1, 0⟩ ⟨by simp, by simp; omega, .inr (.inr (.inr (.inl ⟨rfl, .inl hc, rfl⟩)))⟩ (by simp) (by simp) rfl
theorem SegE.comma {q : Nat} (h : q < n) (hc : ch zs q = 44) (l : Lv) (r : List Lv) (b : Bool) : SegE zs n off q (q + 1) (l :: r, b) (⟨l.obj, l.st, l.ns, l.ne, l.ix + 1⟩ :: r, l.obj) none :=
  SegE.one (off := off) (s := (l :: r, b)) (s' := (⟨l.obj, l.st, l.ns, l.ne, l.ix + 1⟩ :: r, l.obj)) ⟨2, q, q + 1, 0⟩ ⟨by simp, by simp; omega, .inr (.inr (.inl ⟨rfl, hc, rfl⟩))⟩ (by simp) (by simp) rfl
theorem SegE.name {q e : Nat} (hc : ch zs q = 34) (hs : Str zs n (q + 1) e) (l : Lv) (r : List Lv) :
    SegE zs n off q e (l :: r, true) (⟨l.obj, l.st, q, e, l.ix⟩ :: r, false) (if off = (q : Int) + 1 then some ⟨q, e, true, ⟨l.obj, l.st, q, e, l.ix⟩ :: r⟩ else none) :=
  SegE.one (off := off) (s := (l :: r, true)) (s' := (⟨l.obj, l.st, q, e, l.ix⟩ :: r, false)) ⟨4, q, e, 0⟩ ⟨by have := hs.bound; simp; omega, hs.bound.2, .inr (.inr (.inr (.inr (.inl ⟨.inl rfl, hc, hs⟩))))⟩ (by simp) (by simp) rfl
theorem SegE.str {q e : Nat} (hc : ch zs q = 34) (hs : Str zs n (q + 1) e) (s : List Lv) :
    SegE zs n off q e (s, false) (s, false) (if off = (e : Int) ∨ off = (e : Int) + 1 then some ⟨q, e, false, s⟩ else none) :=
  SegE.one (off := off) (s := (s, false)) (s' := (s, false)) ⟨5, q, e, 0⟩ ⟨by have := hs.bound; simp; omega, hs.bound.2, .inr (.inr (.inr (.inr (.inl ⟨.inr rfl, hc, hs⟩))))⟩ (by simp) (by simp) rfl
theorem SegE.scalar {q e : Nat} (h : q < e) (he : e ≤ n) (hp : ∀ j, q ≤ j → j < e → Pl (ch zs j)) (hd : Dl zs n e) (s : List Lv) :
    SegE zs n off q e (s, false) (s, false) (if off = (e : Int) ∨ off = (e : Int) + 1 then some ⟨q, e, false, s⟩ else none) :=
  SegE.one (off := off) (s := (s, false)) (s' := (s, false)) ⟨6, q, e, 0⟩ ⟨h, he, .inr (.inr (.inr (.inr (.inr ⟨rfl, hp, hd⟩))))⟩ (by simp) (by simp) rfl

/-- A whole array or object out of what stands between its brackets. -/
theorem SegE.cont {p q : Nat} {s : List Lv} {l : Lv} {b : Bool} {r : Option Ms} (hp : p < n) (ho : ch zs p = 123 ∨ ch zs p = 91)
    (hin : SegE zs n off (p + 1) q (⟨ch zs p == 123, p, -1, -1, 0⟩ :: s, ch zs p == 123) (l :: s, b) r) (hq : q < n) (hc : ch zs q = 125 ∨ ch zs q = 93) :
    SegE zs n off p (q + 1) (s, false) (s, false) ((if off = (p : Int) + 1 then some ⟨p, ((q + 1 : Nat) : Int), false, s⟩ else none).or r) := by
  obtain ⟨T, a1, b1, c1, d1, e1⟩ := hin
  have gc : G zs n ⟨1, q, q + 1, 0⟩ := ⟨by simp, by simp; omega, .inr (.inl ⟨rfl, hc, rfl⟩)⟩
  have go : ∀ x, G zs n ⟨0, p, p + 1, x⟩ := fun x => ⟨by simp, by simp; omega, .inl ⟨rfl, ho, rfl⟩⟩
  have hCh : Ch (p + 1) (q + 1) (T ++ [⟨1, q, q + 1, 0⟩]) := ch_app _ _ _ _ _ a1 ⟨rfl, rfl⟩
  have hcont : Cont zs n p (q + 1) := by
    refine ⟨⟨0, p, p + 1, 0⟩ :: (T ++ [⟨1, q, q + 1, 0⟩]), ⟨rfl, hCh⟩, ?_, ?_⟩
    · intro t ht
      rcases List.mem_cons.1 ht with rfl | ht
      · exact go 0
      · rcases List.mem_append.1 ht with h | h
        · exact (b1 t h).1
        · obtain rfl : t = _ := by simpa using h
          exact gc
    · show dep 1 (T ++ [⟨1, q, q + 1, 0⟩])
      exact c1 1 (Nat.le_refl _) _ (by simp [dep])
  refine ⟨⟨0, p, p + 1, q + 1⟩ :: (T ++ [⟨1, q, q + 1, 0⟩]), ⟨rfl, hCh⟩, ?_, ?_, ?_, ?_⟩
  · intro t ht
    rcases List.mem_cons.1 ht with rfl | ht
    · exact ⟨go _, fun _ => hcont⟩
    · rcases List.mem_append.1 ht with h | h
      · exact b1 t h
      · obtain rfl : t = _ := by simpa using h
        exact ⟨gc, fun h => absurd h (by simp)⟩
  · intro d hd R hR
    show dep (d + 1) ((T ++ [⟨1, q, q + 1, 0⟩]) ++ R)
    rw [List.append_assoc]
    refine c1 (d + 1) (by omega) _ ?_
    show (if (1 : Nat) = 0 then _ else if (1 : Nat) = 1 then (if d + 1 = 1 then _ else dep (d + 1 - 1) R) else _)
    rw [if_neg (by decide), if_pos rfl, if_neg (by omega), Nat.add_sub_cancel]
    exact hR
  · show run zs (⟨ch zs p == 123, p, -1, -1, 0⟩ :: s, ch zs p == 123) (T ++ [⟨1, q, q + 1, 0⟩]) = _
    rw [run_app zs _ _ _ _ d1]; rfl
  · show Option.or (repT off (s, false) _ ⟨0, p, p + 1, q + 1⟩) (rep zs off (⟨ch zs p == 123, p, -1, -1, 0⟩ :: s, ch zs p == 123) (T ++ [⟨1, q, q + 1, 0⟩])) = _
    rw [rep_app zs off _ _ _ _ d1, e1]
    have : rep zs off (l :: s, b) [⟨1, q, q + 1, 0⟩] = none := rfl
    rw [this, Option.or_none]; rfl
end
end Go.Proofs.Qxb6603798a.Js
