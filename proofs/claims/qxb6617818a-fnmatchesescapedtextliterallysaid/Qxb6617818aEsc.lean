/-
  THE LANGUAGE OF A PATTERN THAT ESCAPES EVERY BYTE, PLAINLY. No Go in sight. By an AI agent.
-/
import Derived.Test.Qxb6617818aGlob
import Derived.Test.Qxb6617818aOrder
namespace Go.Proofs.Qxb6617818a

/-- each byte behind a backslash -/
def escB : List Int → List Int
  | [] => []
  | c :: r => 92 :: c :: escB r
theorem escB_length (l : List Int) : (escB l).length = 2 * l.length := by
  induction l with
  | nil => rfl
  | cons c r ih => simp only [escB, List.length_cons, ih]; omega
theorem escB_snoc (l : List Int) (c : Int) : escB (l ++ [c]) = escB l ++ [92, c] := by
  induction l with
  | nil => rfl
  | cons x r ih => simp [escB, ih]
/-- the pattern that zzEscaped builds -/
def escL (l : List Int) (lead tail : Bool) : List Int := (if lead then [42] else []) ++ escB l ++ (if tail then [42] else [])

def singles (l : List Int) : List (Int → Bool) := l.map fun c d => c == d
theorem toks_esc (l : List Int) (r : List Int) : toks (escB l ++ r) = (singles l).map some ++ toks r := by
  induction l with
  | nil => simp [escB, singles]
  | cons c l ih =>
    have e : escB (c :: l) ++ r = 92 :: c :: (escB l ++ r) := rfl
    rw [e, toks_one _ _ (by decide)]
    have e2 : (fun d => (mb d (92 :: c :: (escB l ++ r))).1) = fun d => c == d := by funext d; simp [mb]
    have e3 : (mb 0 (92 :: c :: (escB l ++ r))).2 = 2 := by simp [mb]
    rw [e2, e3]
    simp only [List.drop_succ_cons, List.drop_zero, ih, singles, List.map_cons, List.cons_append]

theorem singles_at (S : List Int) (i : Nat) (h : i < (singles S).length) (h' : i < S.length) : (singles S)[i] = fun d => S[i] == d := by simp [singles]

/-- S lies in T at place n -/
def occ (S T : List Int) (n : Nat) : Prop := n + S.length ≤ T.length ∧ ∀ i, i < S.length → S.getD i 0 = T.getD (n + i) 0

theorem lang_occ (S T : List Int) (n : Nat) (ts : List (Option (Int → Bool))) (h : n ≤ T.length) : Lang ((singles S).map some ++ ts) (T.drop n) ↔ occ S T n ∧ Lang ts (T.drop (n + S.length)) := by
  rw [lang_singles ts T (singles S) n h]
  have hl : (singles S).length = S.length := by simp [singles]
  constructor
  · rintro ⟨h1, h2, h3⟩
    rw [hl] at h1 h3
    refine ⟨⟨h1, fun i hi => ?_⟩, h3⟩
    have := h2 i (by rw [hl]; exact hi)
    rw [singles_at S i _ hi] at this
    have e : S[i] = T.getD (n + i) 0 := by simpa using this
    rw [← e]; simp [List.getD, hi]
  · rintro ⟨⟨h1, h2⟩, h3⟩
    refine ⟨by rw [hl]; exact h1, fun i hi => ?_, by rw [hl]; exact h3⟩
    rw [hl] at hi
    have := h2 i hi
    rw [singles_at S i _ hi, ← this]; simp [List.getD, hi]

theorem occ_ext (S T : List Int) (h : S.length = T.length) : occ S T 0 ↔ S = T := by
  constructor
  · rintro ⟨_, h2⟩
    apply List.ext_getElem h
    intro i h3 h4
    have := h2 i h3
    simpa [List.getD, h3, h4] using this
  · rintro rfl
    exact ⟨by omega, fun i _ => by rw [Nat.zero_add]⟩

theorem lang_nil_drop (T : List Int) (n : Nat) (h : n ≤ T.length) : Lang [] (T.drop n) ↔ n = T.length := by
  simp only [Lang]
  constructor
  · intro e
    have := congrArg List.length e
    rw [List.length_drop] at this
    simp at this; omega
  · intro e; rw [e, List.drop_length]
theorem lang_star_any (T : List Int) (n : Nat) (h : n ≤ T.length) : Lang [none] (T.drop n) := by
  rw [lang_star _ T n h]
  exact ⟨T.length, h, Nat.le_refl _, by rw [List.drop_length]; rfl⟩

theorem esc_exact (S T : List Int) : Lang (toks (escL S false false)) T ↔ S = T := by
  have e : escL S false false = escB S ++ [] := by simp [escL]
  rw [e, toks_esc, toks_nil]
  have := lang_occ S T 0 [] (Nat.zero_le _)
  rw [List.drop_zero, Nat.zero_add] at this
  rw [this]
  constructor
  · rintro ⟨h1, h2⟩
    rw [lang_nil_drop T _ (by have := h1.1; omega)] at h2
    exact (occ_ext S T h2).1 h1
  · rintro rfl
    exact ⟨(occ_ext S S rfl).2 rfl, by rw [List.drop_length]; rfl⟩
theorem esc_tail (S T : List Int) : Lang (toks (escL S false true)) T ↔ occ S T 0 := by
  have e : escL S false true = escB S ++ [42] := by simp [escL]
  rw [e, toks_esc, toks_star, toks_nil]
  have := lang_occ S T 0 [none] (Nat.zero_le _)
  rw [List.drop_zero, Nat.zero_add] at this
  rw [this]
  exact ⟨fun h => h.1, fun h => ⟨h, lang_star_any T _ (by have := h.1; omega)⟩⟩
theorem esc_lead (S T : List Int) : Lang (toks (escL S true false)) T ↔ S.length ≤ T.length ∧ occ S T (T.length - S.length) := by
  have e : escL S true false = 42 :: (escB S ++ []) := by simp [escL]
  rw [e, toks_star, toks_esc, toks_nil]
  have := lang_star ((singles S).map some ++ []) T 0 (Nat.zero_le _)
  rw [List.drop_zero] at this
  rw [this]
  constructor
  · rintro ⟨m, _, h2, h3⟩
    rw [lang_occ S T m [] h2] at h3
    obtain ⟨h4, h5⟩ := h3
    rw [lang_nil_drop T _ h4.1] at h5
    refine ⟨by omega, ?_⟩
    rw [← h5, Nat.add_sub_cancel]; exact h4
  · rintro ⟨h1, h2⟩
    refine ⟨T.length - S.length, Nat.zero_le _, by omega, ?_⟩
    rw [lang_occ S T _ [] (by omega)]
    refine ⟨h2, ?_⟩
    rw [lang_nil_drop T _ h2.1]
    omega
theorem esc_both (S T : List Int) : Lang (toks (escL S true true)) T ↔ ∃ j, occ S T j := by
  have e : escL S true true = 42 :: (escB S ++ [42]) := by simp [escL]
  rw [e, toks_star, toks_esc, toks_star, toks_nil]
  have := lang_star ((singles S).map some ++ [none]) T 0 (Nat.zero_le _)
  rw [List.drop_zero] at this
  rw [this]
  constructor
  · rintro ⟨m, _, h2, h3⟩
    rw [lang_occ S T m _ h2] at h3
    exact ⟨m, h3.1⟩
  · rintro ⟨j, hj⟩
    have := hj.1
    refine ⟨j, Nat.zero_le _, by omega, ?_⟩
    rw [lang_occ S T j _ (by omega)]
    exact ⟨hj, lang_star_any T _ hj.1⟩

/-! ### bytes as numbers -/
def ints (l : List UInt8) : List Int := l.map fun c => (c.toNat : Int)
theorem ints_length (l : List UInt8) : (ints l).length = l.length := by simp [ints]
theorem ints_inj (a b : List UInt8) : ints a = ints b ↔ a = b := by
  constructor
  · intro h
    have hl : a.length = b.length := by have := congrArg List.length h; simpa [ints] using this
    apply List.ext_getElem hl
    intro i h1 h2
    have := congrArg (fun l => l[i]?) h
    simp only [ints, List.getElem?_map, List.getElem?_eq_getElem h1, List.getElem?_eq_getElem h2, Option.map_some, Option.some.injEq] at this
    exact UInt8.toNat_inj.1 (by omega)
  · rintro rfl; rfl
theorem occ_cons (x : Int) (S T : List Int) (y : Int) : occ (x :: S) (y :: T) 0 ↔ x = y ∧ occ S T 0 := by
  constructor
  · rintro ⟨h1, h2⟩
    refine ⟨by have := h2 0 (by simp); simpa using this, by simp at h1; omega, fun i hi => ?_⟩
    have := h2 (i + 1) (by simp; omega)
    rw [Nat.zero_add] at this ⊢
    simpa using this
  · rintro ⟨rfl, h1, h2⟩
    refine ⟨by simp; omega, fun i hi => ?_⟩
    rw [Nat.zero_add]
    cases i with
    | zero => rfl
    | succ i =>
      have := h2 i (by simp at hi; omega)
      rw [Nat.zero_add] at this
      simpa using this
theorem pre_occ (a : List UInt8) : ∀ b, preL a b = true ↔ occ (ints a) (ints b) 0 := by
  induction a with
  | nil => intro b; simp [preL, occ, ints]
  | cons x r ih =>
    intro b
    cases b with
    | nil => simp [preL, occ, ints]
    | cons y t =>
      have e : ints (x :: r) = (x.toNat : Int) :: ints r := rfl
      have e2 : ints (y :: t) = (y.toNat : Int) :: ints t := rfl
      rw [e, e2, occ_cons, ← ih t]
      simp only [preL]
      by_cases h : x = y
      · subst h; simp
      · rw [if_neg h]
        have : ¬ (x.toNat : Int) = (y.toNat : Int) := fun g => h (UInt8.toNat_inj.1 (by omega))
        simp [this]
theorem occ_drop (S T : List Int) (n : Nat) (h : n ≤ T.length) : occ S (T.drop n) 0 ↔ occ S T n := by
  unfold occ
  rw [List.length_drop]
  constructor
  · rintro ⟨h1, h2⟩
    refine ⟨by omega, fun i hi => ?_⟩
    rw [h2 i hi]; simp [List.getD]
  · rintro ⟨h1, h2⟩
    refine ⟨by omega, fun i hi => ?_⟩
    rw [h2 i hi]; simp [List.getD]
theorem ints_drop (l : List UInt8) (n : Nat) : ints (l.drop n) = (ints l).drop n := by simp [ints, List.map_drop]

end Go.Proofs.Qxb6617818a
