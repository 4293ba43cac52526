/-
  THE DYNAMIC PROGRAM OVER A NAME's PREFIXES, PLAINLY. No Go in sight. By an AI agent.
-/
import Derived.Test.Qxb6617818aGlob
namespace Go.Proofs.Qxb6617818a

/-- a language of two lists of parts, one behind the other: a cut of the name -/
theorem lang_split (b : List (Option (Int → Bool))) : ∀ (a : List (Option (Int → Bool))) (n : List Int), Lang (a ++ b) n ↔ ∃ j, j ≤ n.length ∧ Lang a (n.take j) ∧ Lang b (n.drop j) := by
  intro a
  induction a with
  | nil =>
    intro n
    constructor
    · intro h; exact ⟨0, by omega, by simp [Lang], by simpa using h⟩
    · rintro ⟨j, hj, h1, h2⟩
      have : n.take j = [] := h1
      have hl := congrArg List.length this
      rw [List.length_take] at hl
      simp at hl
      rcases hl with hl | hl
      · subst hl; simpa using h2
      · subst hl; simpa using h2
  | cons u a ih =>
    intro n
    cases u with
    | none =>
      simp only [List.cons_append, Lang]
      constructor
      · rintro ⟨i, hi, h⟩
        obtain ⟨j, hj, h1, h2⟩ := (ih _).1 h
        rw [List.length_drop] at hj
        refine ⟨i + j, by omega, ⟨i, by rw [List.length_take]; omega, ?_⟩, by rw [← List.drop_drop]; exact h2⟩
        rw [List.drop_take, Nat.add_sub_cancel_left]; exact h1
      · rintro ⟨j, hj, ⟨i, hi, h1⟩, h2⟩
        rw [List.length_take] at hi
        refine ⟨i, by omega, (ih _).2 ⟨j - i, by rw [List.length_drop]; omega, ?_, ?_⟩⟩
        · rw [← List.drop_take]; exact h1
        · rw [List.drop_drop, show i + (j - i) = j from by omega]; exact h2
    | some f =>
      simp only [List.cons_append, Lang]
      constructor
      · rintro ⟨x, r, rfl, hx, h⟩
        obtain ⟨j, hj, h1, h2⟩ := (ih _).1 h
        exact ⟨j + 1, by simp; omega, ⟨x, r.take j, by simp, hx, h1⟩, by simpa using h2⟩
      · rintro ⟨j, hj, ⟨x, r, e, hx, h1⟩, h2⟩
        cases n with
        | nil => simp at e
        | cons y n =>
          cases j with
          | zero => simp at e
          | succ j =>
            simp only [List.take_succ_cons, List.cons.injEq] at e
            obtain ⟨rfl, rfl⟩ := e
            exact ⟨y, n, rfl, hx, (ih _).2 ⟨j, by simp at hj; omega, h1, by simpa using h2⟩⟩

theorem take_take_le (N : List Int) (j k : Nat) (h : j ≤ k) : (N.take k).take j = N.take j := by rw [List.take_take, Nat.min_eq_left h]

theorem lang_snoc_star (a : List (Option (Int → Bool))) (N : List Int) (k : Nat) (hk : k ≤ N.length) : Lang (a ++ [none]) (N.take k) ↔ ∃ j, j ≤ k ∧ Lang a (N.take j) := by
  rw [lang_split]
  constructor
  · rintro ⟨j, hj, h1, _⟩
    rw [List.length_take] at hj
    exact ⟨j, by omega, by rw [take_take_le N j k (by omega)] at h1; exact h1⟩
  · rintro ⟨j, hj, h1⟩
    refine ⟨j, by rw [List.length_take]; omega, by rw [take_take_le N j k hj]; exact h1, ?_⟩
    exact ⟨((N.take k).drop j).length, Nat.le_refl _, by rw [List.drop_length]; rfl⟩
theorem lang_snoc_one (a : List (Option (Int → Bool))) (f : Int → Bool) (N : List Int) (k : Nat) (hk : k + 1 ≤ N.length) : Lang (a ++ [some f]) (N.take (k + 1)) ↔ Lang a (N.take k) ∧ f (N.getD k 0) = true := by
  rw [lang_split]
  constructor
  · rintro ⟨j, hj, h1, x, r, e, hx, hr⟩
    rw [List.length_take] at hj
    have hl := congrArg List.length e
    have hr' : r = [] := hr
    subst hr'
    rw [List.length_drop, List.length_take] at hl
    simp at hl
    have hjk : j = k := by omega
    subst hjk
    rw [take_take_le N j (j + 1) (by omega)] at h1
    refine ⟨h1, ?_⟩
    have : (N.take (j + 1)).drop j = [N.getD j 0] := by
      rw [List.drop_take, Nat.add_sub_cancel_left, drop_one N j (by omega)]; rfl
    rw [this] at e
    cases e; exact hx
  · rintro ⟨h1, hx⟩
    refine ⟨k, by rw [List.length_take]; omega, by rw [take_take_le N k (k + 1) (by omega)]; exact h1, N.getD k 0, [], ?_, hx, rfl⟩
    rw [List.drop_take, Nat.add_sub_cancel_left, drop_one N k (by omega)]; rfl
theorem lang_snoc_zero (a : List (Option (Int → Bool))) (f : Int → Bool) : ¬ Lang (a ++ [some f]) [] := by
  rw [lang_split]
  rintro ⟨j, _, _, x, r, e, _⟩
  simp at e

/-- what a row of the table says -/
def DpRow (us : List (Option (Int → Bool))) (N : List Int) (c : List Bool) : Prop := c.length = N.length + 1 ∧ ∀ k, k ≤ N.length → (c.getD k false = true ↔ Lang us (N.take k))

theorem dp_start (N : List Int) (c : List Bool) (hl : c.length = N.length + 1) (h0 : c.getD 0 false = true) (h : ∀ k, 0 < k → c.getD k false = false) : DpRow [] N c := by
  refine ⟨hl, fun k hk => ?_⟩
  by_cases e : k = 0
  · subst e; rw [h0]; simp [Lang]
  · rw [h k (by omega)]
    simp only [Bool.false_eq_true, false_iff, Lang]
    intro g
    have := congrArg List.length g
    rw [List.length_take, List.length_nil] at this
    omega

/-- the star's row -/
def anyTo (c : List Bool) (k : Nat) : Bool := (c.take k).any id
theorem anyTo_succ (c : List Bool) (k : Nat) (h : k < c.length) : anyTo c (k + 1) = (anyTo c k || c.getD k false) := by
  unfold anyTo
  rw [List.take_succ_eq_append_getElem h, List.any_append]
  simp [List.getD, h]
theorem anyTo_iff (c : List Bool) (k : Nat) (h : k ≤ c.length) : anyTo c k = true ↔ ∃ j, j < k ∧ c.getD j false = true := by
  induction k with
  | zero => simp [anyTo]
  | succ k ih =>
    rw [anyTo_succ c k (by omega), Bool.or_eq_true, ih (by omega)]
    constructor
    · rintro (⟨j, a, b⟩ | hh)
      · exact ⟨j, by omega, b⟩
      · exact ⟨k, by omega, hh⟩
    · rintro ⟨j, a, b⟩
      by_cases e : j = k
      · subst e; exact .inr b
      · exact .inl ⟨j, by omega, b⟩
theorem dp_star {us : List (Option (Int → Bool))} {N : List Int} {c d : List Bool} (h : DpRow us N c) (hl : d.length = N.length + 1) (hd : ∀ k, k < N.length + 1 → d.getD k false = anyTo c (k + 1)) : DpRow (us ++ [none]) N d := by
  refine ⟨hl, fun k hk => ?_⟩
  rw [hd k (by omega), anyTo_iff c (k + 1) (by rw [h.1]; omega), lang_snoc_star us N k hk]
  constructor
  · rintro ⟨j, a, b⟩; exact ⟨j, by omega, (h.2 j (by omega)).1 b⟩
  · rintro ⟨j, a, b⟩; exact ⟨j, by omega, (h.2 j (by omega)).2 b⟩
theorem dp_one {us : List (Option (Int → Bool))} {N : List Int} {c d : List Bool} {f : Int → Bool} (h : DpRow us N c) (hl : d.length = N.length + 1) (h0 : d.getD 0 false = false) (hd : ∀ k, k < N.length → d.getD (k + 1) false = (c.getD k false && f (N.getD k 0))) : DpRow (us ++ [some f]) N d := by
  refine ⟨hl, fun k hk => ?_⟩
  cases k with
  | zero =>
    rw [h0]
    simp only [Bool.false_eq_true, false_iff, List.take_zero]
    exact lang_snoc_zero us f
  | succ k =>
    rw [hd k (by omega), Bool.and_eq_true, lang_snoc_one us f N k hk, h.2 k (by omega)]
theorem dp_end {us : List (Option (Int → Bool))} {N : List Int} {c : List Bool} (h : DpRow us N c) : c.getD N.length false = true ↔ Lang us N := by
  rw [h.2 N.length (Nat.le_refl _), List.take_length]

end Go.Proofs.Qxb6617818a
