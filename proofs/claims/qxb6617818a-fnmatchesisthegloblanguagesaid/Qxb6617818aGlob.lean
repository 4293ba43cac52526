/-
  THE GLOB LANGUAGE, PLAINLY: parts of a pattern, the language of a list of parts, and the laws by which the one-pass matcher and the dynamic program decide it. No Go in sight. By an AI agent.
-/
import Derived.Test.Qxb6617818aPlain
namespace Go.Proofs.Qxb6617818a

/-- what matchByte computes of a pattern that is not empty -/
def mb (c : Int) : List Int → Bool × Nat
  | [] => (false, 1)
  | [x] => if x = 63 then (true, 1) else if x = 91 then mcl c [] else (x == c, 1)
  | x :: y :: r => if x = 63 then (true, 1) else if x = 91 then mcl c (y :: r) else if x = 92 then (y == c, 2) else (x == c, 1)

/-! ### the width does not hang on the byte -/
theorem clsL_width (c d : Int) : ∀ (l : List Int) (b b' : Bool), (clsL c l b).2 = (clsL d l b').2
  | [], b, b' => by simp [clsL]
  | [x], b, b' => by simp only [clsL]; split <;> rfl
  | [x, y], b, b' => by
    have h1 := clsL_width c d [y] (b || x == c) (b' || x == d)
    simp only [clsL] at h1 ⊢
    split
    · rfl
    · split
      · rfl
      · simp only [h1]
  | x :: y :: z :: r, b, b' => by
    have h1 := clsL_width c d (z :: r) (b || y == c) (b' || y == d)
    have h2 := clsL_width c d r (b || (decide (min x z ≤ c) && decide (c ≤ max x z))) (b' || (decide (min x z ≤ d) && decide (d ≤ max x z)))
    have h3 := clsL_width c d (y :: z :: r) (b || x == c) (b' || x == d)
    simp only [clsL]
    split
    · rfl
    · split
      · simp only [h1]
      · split
        · simp only [h2]
        · simp only [h3]
theorem mcl_width (c d : Int) (l : List Int) : (mcl c l).2 = (mcl d l).2 := by
  rcases l with _ | ⟨x, r⟩
  · rfl
  · simp only [mcl]
    split
    · simp only [clsL_width c d r false false]
    · simp only [clsL_width c d (x :: r) false false]
theorem mcl_bounds (c : Int) (l : List Int) : 1 ≤ (mcl c l).2 ∧ (mcl c l).2 ≤ l.length + 1 := by
  rcases l with _ | ⟨x, r⟩
  · simp [mcl]
  · have h1 := clsL_le c r false
    have h2 := clsL_le c (x :: r) false
    simp only [mcl]
    simp only [List.length_cons] at *
    split
    · constructor <;> simp only <;> omega
    · constructor <;> simp only <;> omega
theorem mb_width (c d : Int) (l : List Int) : (mb c l).2 = (mb d l).2 := by
  rcases l with _ | ⟨x, _ | ⟨y, r⟩⟩
  · rfl
  · simp only [mb]
    split
    · rfl
    · split
      · rfl
      · rfl
  · simp only [mb]
    split
    · rfl
    · split
      · exact mcl_width c d _
      · split <;> rfl
theorem mb_bounds (c : Int) (l : List Int) (h : l ≠ []) : 1 ≤ (mb c l).2 ∧ (mb c l).2 ≤ l.length := by
  rcases l with _ | ⟨x, _ | ⟨y, r⟩⟩
  · exact absurd rfl h
  · simp only [mb]
    split
    · simp
    · split
      · simp [mcl]
      · simp
  · have := mcl_bounds c (y :: r)
    simp only [mb]
    simp only [List.length_cons] at *
    split
    · simp
    · split
      · exact this
      · split
        · simp
        · simp

/-! ### the parts of a pattern: none: a star; some f: one byte on which f says yes -/
def toksF : Nat → List Int → List (Option (Int → Bool))
  | 0, _ => []
  | _ + 1, [] => []
  | f + 1, x :: r => if x = 42 then none :: toksF f r else some (fun c => (mb c (x :: r)).1) :: toksF f ((x :: r).drop (mb 0 (x :: r)).2)
def toks (p : List Int) : List (Option (Int → Bool)) := toksF p.length p

theorem toksF_enough : ∀ (f g : Nat) (p : List Int), p.length ≤ f → p.length ≤ g → toksF f p = toksF g p := by
  intro f
  induction f with
  | zero =>
    intro g p hf _
    have : p = [] := List.eq_nil_of_length_eq_zero (by omega)
    subst this
    cases g <;> rfl
  | succ f ih =>
    intro g p hf hg
    cases p with
    | nil => cases g <;> rfl
    | cons x r =>
      cases g with
      | zero => simp at hg
      | succ g =>
        simp only [toksF]
        have hb := mb_bounds 0 (x :: r) (by simp)
        simp only [List.length_cons] at hf hg
        split
        · rw [ih g r (by omega) (by omega)]
        · rw [ih g ((x :: r).drop (mb 0 (x :: r)).2) (by rw [List.length_drop, List.length_cons]; omega) (by rw [List.length_drop, List.length_cons]; omega)]
theorem toks_nil : toks [] = [] := rfl
theorem toks_star (r : List Int) : toks (42 :: r) = none :: toks r := by simp [toks, toksF]
theorem toks_one (x : Int) (r : List Int) (h : x ≠ 42) : toks (x :: r) = some (fun c => (mb c (x :: r)).1) :: toks ((x :: r).drop (mb 0 (x :: r)).2) := by
  have hb := mb_bounds 0 (x :: r) (by simp)
  simp only [toks, List.length_cons, toksF, if_neg h]
  rw [toksF_enough r.length ((x :: r).drop (mb 0 (x :: r)).2).length _ (by rw [List.length_drop, List.length_cons]; omega) (Nat.le_refl _)]

/-! ### the language -/
def Lang : List (Option (Int → Bool)) → List Int → Prop
  | [], n => n = []
  | none :: ts, n => ∃ j, j ≤ n.length ∧ Lang ts (n.drop j)
  | some f :: ts, n => ∃ x r, n = x :: r ∧ f x = true ∧ Lang ts r

theorem lang_one (f : Int → Bool) (ts : List (Option (Int → Bool))) (N : List Int) (n : Nat) (h : n < N.length) :
    Lang (some f :: ts) (N.drop n) ↔ f (N.getD n 0) = true ∧ Lang ts (N.drop (n + 1)) := by
  rw [drop_one N n h]
  simp only [Lang]
  constructor
  · rintro ⟨x, r, e, h1, h2⟩
    cases e
    exact ⟨h1, h2⟩
  · rintro ⟨h1, h2⟩
    exact ⟨_, _, rfl, h1, h2⟩
theorem lang_one_end (f : Int → Bool) (ts : List (Option (Int → Bool))) : ¬ Lang (some f :: ts) [] := by
  rintro ⟨x, r, e, _⟩
  cases e
theorem lang_star (ts : List (Option (Int → Bool))) (N : List Int) (n : Nat) (h : n ≤ N.length) :
    Lang (none :: ts) (N.drop n) ↔ ∃ m, n ≤ m ∧ m ≤ N.length ∧ Lang ts (N.drop m) := by
  simp only [Lang]
  constructor
  · rintro ⟨j, hj, hl⟩
    rw [List.length_drop] at hj
    rw [List.drop_drop] at hl
    exact ⟨n + j, by omega, by omega, hl⟩
  · rintro ⟨m, h1, h2, h3⟩
    refine ⟨m - n, by rw [List.length_drop]; omega, ?_⟩
    rw [List.drop_drop, show n + (m - n) = m from by omega]
    exact h3
theorem lang_star_end (ts : List (Option (Int → Bool))) : Lang (none :: ts) [] ↔ Lang ts [] := by
  simp only [Lang]
  constructor
  · rintro ⟨j, _, h⟩; simpa using h
  · intro h; exact ⟨0, by simp, by simpa using h⟩

/-- a run of single bytes ahead -/
theorem lang_singles (ts : List (Option (Int → Bool))) (N : List Int) : ∀ (fs : List (Int → Bool)) (n : Nat), n ≤ N.length →
    (Lang (fs.map some ++ ts) (N.drop n) ↔ n + fs.length ≤ N.length ∧ (∀ i, (hi : i < fs.length) → fs[i] (N.getD (n + i) 0) = true) ∧ Lang ts (N.drop (n + fs.length))) := by
  intro fs
  induction fs with
  | nil => intro n hn; simp [hn]
  | cons f fs ih =>
    intro n hn
    by_cases h : n < N.length
    · simp only [List.map_cons, List.cons_append]
      rw [lang_one f _ N n h, ih (n + 1) (by omega)]
      simp only [List.length_cons]
      constructor
      · rintro ⟨h1, h2, h3, h4⟩
        refine ⟨by omega, ?_, by rw [show n + (fs.length + 1) = n + 1 + fs.length from by omega]; exact h4⟩
        intro i hi
        cases i with
        | zero => simpa using h1
        | succ i => have := h3 i (by omega); rw [show n + (i + 1) = n + 1 + i from by omega]; simpa using this
      · rintro ⟨h1, h2, h3⟩
        refine ⟨by have := h2 0 (by omega); simpa using this, by omega, ?_, by rw [show n + 1 + fs.length = n + (fs.length + 1) from by omega]; exact h3⟩
        intro i hi
        have := h2 (i + 1) (by omega)
        rw [show n + 1 + i = n + (i + 1) from by omega]; simpa using this
    · have : n = N.length := by omega
      subst this
      simp only [List.map_cons, List.cons_append, List.drop_length]
      constructor
      · intro hl; exact absurd hl (lang_one_end f _)
      · rintro ⟨h1, _⟩; simp only [List.length_cons] at h1; omega

/-! ### the one-pass matcher -/
/-- no star met yet -/
def InvN (pat N : List Int) (p n : Nat) : Prop := Lang (toks pat) N ↔ Lang (toks (pat.drop p)) (N.drop n)
/-- the last star: behind it the pattern goes on at s; it takes from the name up to m -/
def InvS (pat N : List Int) (p n s m : Nat) : Prop :=
  s ≤ p ∧ m ≤ n ∧ (Lang (toks pat) N ↔ ∃ k, m ≤ k ∧ k ≤ N.length ∧ Lang (toks (pat.drop s)) (N.drop k)) ∧
  ∃ fs : List (Int → Bool), toks (pat.drop s) = fs.map some ++ toks (pat.drop p) ∧ fs.length = n - m ∧ ∀ i, (hi : i < fs.length) → fs[i] (N.getD (m + i) 0) = true

theorem tok_star {pat : List Int} {p : Nat} (h : p < pat.length) (hx : pat.getD p 0 = 42) : toks (pat.drop p) = none :: toks (pat.drop (p + 1)) := by
  rw [drop_one pat p h, hx, toks_star]
theorem tok_one {pat : List Int} {p : Nat} (h : p < pat.length) (hx : pat.getD p 0 ≠ 42) (c : Int) : toks (pat.drop p) = some (fun c => (mb c (pat.drop p)).1) :: toks (pat.drop (p + (mb c (pat.drop p)).2)) := by
  have e := drop_one pat p h
  rw [mb_width c 0, e, toks_one _ _ hx, ← e, List.drop_drop]

theorem invS_lang {pat N : List Int} {p n s m : Nat} (h : InvS pat N p n s m) (hn : n ≤ N.length) : Lang (toks (pat.drop s)) (N.drop m) ↔ Lang (toks (pat.drop p)) (N.drop n) := by
  obtain ⟨_, h2, _, fs, e, hl, hf⟩ := h
  rw [e, lang_singles _ N fs m (by omega), show m + fs.length = n from by omega]
  exact ⟨fun h => h.2.2, fun h => ⟨hn, hf, h⟩⟩

theorem n_star {pat N : List Int} {p n : Nat} (h : InvN pat N p n) (hp : p < pat.length) (hx : pat.getD p 0 = 42) (hn : n ≤ N.length) : InvS pat N (p + 1) n (p + 1) n := by
  refine ⟨Nat.le_refl _, Nat.le_refl _, ?_, [], by simp, by simp, fun i hi => absurd hi (by simp)⟩
  unfold InvN at h
  rw [h, tok_star hp hx, lang_star _ N n hn]
theorem s_star {pat N : List Int} {p n s m : Nat} (h : InvS pat N p n s m) (hp : p < pat.length) (hx : pat.getD p 0 = 42) (hn : n ≤ N.length) : InvS pat N (p + 1) n (p + 1) n := by
  refine ⟨Nat.le_refl _, Nat.le_refl _, ?_, [], by simp, by simp, fun i hi => absurd hi (by simp)⟩
  have hsl := invS_lang h hn
  obtain ⟨h1, h2, h3, fs, e, hl, hf⟩ := h
  rw [h3]
  rw [tok_star hp hx] at hsl e
  rw [lang_star _ N n hn] at hsl
  constructor
  · rintro ⟨k, hk1, hk2, hk3⟩
    rw [e, lang_singles _ N fs k hk2] at hk3
    obtain ⟨g1, _, g3⟩ := hk3
    rw [lang_star _ N _ g1] at g3
    obtain ⟨k', a, b, c⟩ := g3
    exact ⟨k', by omega, b, c⟩
  · intro hh
    exact ⟨m, Nat.le_refl _, by omega, hsl.2 hh⟩
theorem n_hit {pat N : List Int} {p n : Nat} {c : Int} (h : InvN pat N p n) (hp : p < pat.length) (hx : pat.getD p 0 ≠ 42) (hn : n < N.length) (hc : N.getD n 0 = c) (hh : (mb c (pat.drop p)).1 = true) : InvN pat N (p + (mb c (pat.drop p)).2) (n + 1) := by
  unfold InvN at *
  rw [h, tok_one hp hx c, lang_one _ _ N n hn, hc]
  simp only [hh, true_and]
theorem s_hit {pat N : List Int} {p n s m : Nat} {c : Int} (h : InvS pat N p n s m) (hp : p < pat.length) (hx : pat.getD p 0 ≠ 42) (hc : N.getD n 0 = c) (hh : (mb c (pat.drop p)).1 = true) : InvS pat N (p + (mb c (pat.drop p)).2) (n + 1) s m := by
  obtain ⟨h1, h2, h3, fs, e, hl, hf⟩ := h
  refine ⟨by omega, by omega, h3, fs ++ [fun c => (mb c (pat.drop p)).1], ?_, ?_, ?_⟩
  · rw [e, tok_one hp hx c]; simp
  · simp; omega
  · intro i hi
    by_cases g : i < fs.length
    · rw [List.getElem_append_left g]; exact hf i g
    · have : i = fs.length := by simp at hi; omega
      subst this
      rw [List.getElem_append_right (Nat.le_refl _), show m + fs.length = n from by omega, hc]
      simpa using hh
theorem miss_lang {pat N : List Int} {p n : Nat} {c : Int} (hn : n < N.length) (hc : N.getD n 0 = c) (h : ¬ p < pat.length ∨ (p < pat.length ∧ pat.getD p 0 ≠ 42 ∧ (mb c (pat.drop p)).1 = false)) : ¬ Lang (toks (pat.drop p)) (N.drop n) := by
  rcases h with h | ⟨hp, hx, hh⟩
  · rw [List.drop_of_length_le (by omega : pat.length ≤ p), toks_nil, drop_one N n hn]
    simp [Lang]
  · rw [tok_one hp hx c, lang_one _ _ N n hn, hc]
    simp only [hh, Bool.false_eq_true, false_and, not_false_iff]
theorem n_miss {pat N : List Int} {p n : Nat} (h : InvN pat N p n) (hl : ¬ Lang (toks (pat.drop p)) (N.drop n)) : ¬ Lang (toks pat) N := fun g => hl (h.1 g)
theorem s_miss {pat N : List Int} {p n s m : Nat} (h : InvS pat N p n s m) (hn : n < N.length) (hl : ¬ Lang (toks (pat.drop p)) (N.drop n)) : InvS pat N s (m + 1) s (m + 1) := by
  have hsl := invS_lang h (by omega)
  obtain ⟨h1, h2, h3, _⟩ := h
  refine ⟨Nat.le_refl _, Nat.le_refl _, ?_, [], by simp, by simp, fun i hi => absurd hi (by simp)⟩
  rw [h3]
  constructor
  · rintro ⟨k, a, b, g⟩
    refine ⟨k, ?_, b, g⟩
    rcases Nat.lt_or_ge m k with hh | hh
    · omega
    · have : k = m := by omega
      subst this
      exact absurd (hsl.1 g) hl
  · rintro ⟨k, a, b, g⟩
    exact ⟨k, by omega, b, g⟩
theorem n_end {pat N : List Int} {p : Nat} (h : InvN pat N p N.length) : Lang (toks pat) N ↔ Lang (toks (pat.drop p)) [] := by
  have := h
  unfold InvN at this
  rwa [List.drop_length] at this
theorem s_end {pat N : List Int} {p s m : Nat} (h : InvS pat N p N.length s m) : Lang (toks pat) N ↔ Lang (toks (pat.drop p)) [] := by
  have hsl := invS_lang h (Nat.le_refl _)
  rw [List.drop_length] at hsl
  obtain ⟨h1, h2, h3, fs, e, hl, hf⟩ := h
  rw [h3, ← hsl]
  constructor
  · rintro ⟨k, a, b, g⟩
    have hk := g
    rw [e, lang_singles _ N fs k b] at hk
    have : k = m := by have := hk.1; omega
    rw [← this]; exact g
  · intro g
    exact ⟨m, Nat.le_refl _, h2, g⟩
/-- the stars behind -/
theorem end_star {pat : List Int} {p : Nat} (hp : p < pat.length) (hx : pat.getD p 0 = 42) : Lang (toks (pat.drop p)) [] ↔ Lang (toks (pat.drop (p + 1))) [] := by
  rw [tok_star hp hx, lang_star_end]
theorem end_other {pat : List Int} {p : Nat} (hp : p < pat.length) (hx : pat.getD p 0 ≠ 42) : ¬ Lang (toks (pat.drop p)) [] := by
  rw [tok_one hp hx 0]; exact lang_one_end _ _
theorem end_end {pat : List Int} {p : Nat} (hp : pat.length ≤ p) : Lang (toks (pat.drop p)) [] := by
  rw [List.drop_of_length_le hp, toks_nil]; rfl

/-! ### a measure for the one-pass loop -/
def lexM (N a b c : Nat) : Nat := (a * (N + 2) + b) * (N + 2) + c
theorem lex_c {N a b c c' : Nat} (h : c' < c) : lexM N a b c' < lexM N a b c := by unfold lexM; omega
theorem lex_b {N a b b' c c' : Nat} (h : b' < b) (hc : c' ≤ N + 1) : lexM N a b' c' < lexM N a b c := by
  unfold lexM
  have h1 : (a * (N + 2) + b' + 1) * (N + 2) ≤ (a * (N + 2) + b) * (N + 2) := Nat.mul_le_mul_right _ (by omega)
  rw [Nat.add_mul] at h1
  omega
theorem lex_a {N a a' b b' c c' : Nat} (h : a' < a) (hb : b' ≤ N + 1) (hc : c' ≤ N + 1) : lexM N a' b' c' < lexM N a b c := by
  unfold lexM
  have h0 : (a' + 1) * (N + 2) ≤ a * (N + 2) := Nat.mul_le_mul_right _ (by omega)
  rw [Nat.add_mul] at h0
  have h1 : (a' * (N + 2) + b' + 1) * (N + 2) ≤ (a * (N + 2) + b) * (N + 2) := Nat.mul_le_mul_right _ (by omega)
  rw [Nat.add_mul] at h1
  omega

end Go.Proofs.Qxb6617818a
