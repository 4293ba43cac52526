/-
  PLAIN FUNCTIONS AND THEIR LAWS for the glob matcher: no Go in sight. By an AI agent.
-/
namespace Go.Proofs.Qxb6617818a

/-- Scan a class body: the bytes behind '[' (and behind '^'): whether c is named, OR 'b' already; how many bytes were used up, the closing ']' with them. -/
def clsL (c : Int) : List Int → Bool → Bool × Nat
  | [], b => (b, 0)
  | [x], b => if x = 93 then (b, 1) else (b || x == c, 1)
  | [x, y], b => if x = 93 then (b, 1) else if x = 92 then (b || y == c, 2) else ((clsL c [y] (b || x == c)).1, (clsL c [y] (b || x == c)).2 + 1)
  | x :: y :: z :: r, b =>
    if x = 93 then (b, 1)
    else if x = 92 then ((clsL c (z :: r) (b || y == c)).1, (clsL c (z :: r) (b || y == c)).2 + 2)
    else if y = 45 then ((clsL c r (b || (decide (min x z ≤ c) && decide (c ≤ max x z)))).1, (clsL c r (b || (decide (min x z ≤ c) && decide (c ≤ max x z)))).2 + 3)
    else ((clsL c (y :: z :: r) (b || x == c)).1, (clsL c (y :: z :: r) (b || x == c)).2 + 1)

/-- What matchClass computes of the bytes BEHIND the opening bracket. -/
def mcl (c : Int) : List Int → Bool × Nat
  | [] => (false, 1)
  | x :: r => if x = 94 then (!(clsL c r false).1, (clsL c r false).2 + 2) else ((clsL c (x :: r) false).1, (clsL c (x :: r) false).2 + 1)

theorem clsL_le (c : Int) : ∀ (l : List Int) (b : Bool), (clsL c l b).2 ≤ l.length
  | [], b => by simp [clsL]
  | [x], b => by simp only [clsL]; split <;> simp
  | [x, y], b => by
    simp only [clsL]
    split
    · simp
    · split
      · simp
      · split <;> simp
  | x :: y :: z :: r, b => by
    have h1 := clsL_le c (z :: r) (b || y == c)
    have h2 := clsL_le c r (b || (decide (min x z ≤ c) && decide (c ≤ max x z)))
    have h3 := clsL_le c (y :: z :: r) (b || x == c)
    simp only [clsL]
    simp only [List.length_cons] at *
    split
    · simp
    · split
      · simp; omega
      · split
        · simp; omega
        · simp; omega

/-- THE CARET's LAW, plainly. -/
theorem mcl_caret (c : Int) (r : List Int) (h : r.head? ≠ some 94) : mcl c (94 :: r) = (!(mcl c r).1, (mcl c r).2 + 1) ∧ 1 ≤ (mcl c r).2 ∧ (mcl c r).2 ≤ r.length + 1 := by
  rcases r with _ | ⟨x, r⟩
  · simp [mcl, clsL]
  · have hx : x ≠ 94 := by simpa using h
    have hle := clsL_le c (x :: r) false
    rw [show mcl c (x :: r) = ((clsL c (x :: r) false).1, (clsL c (x :: r) false).2 + 1) from by simp only [mcl, if_neg hx]]
    refine ⟨by simp only [mcl, if_true], by simp, by simpa using hle⟩

/-! ### the loop's steps, at an index: 'p.drop i' -/
theorem drop_one (p : List Int) (i : Nat) (h : i < p.length) : p.drop i = p.getD i 0 :: p.drop (i + 1) := by
  rw [List.drop_eq_getElem_cons h]
  simp [List.getD, h]

/-- where the scan from i with b comes to: the answer and the index behind the class -/
def clsAt (p : List Int) (c : Int) (i : Nat) (b : Bool) : Bool × Nat := ((clsL c (p.drop i) b).1, i + (clsL c (p.drop i) b).2)

theorem clsAt_end (p : List Int) (c : Int) (i : Nat) (b : Bool) (h : p.length ≤ i) : clsAt p c i b = (b, i) := by
  simp [clsAt, List.drop_of_length_le h, clsL]
theorem clsAt_close (p : List Int) (c : Int) (i : Nat) (b : Bool) (h : i < p.length) (hx : p.getD i 0 = 93) : clsAt p c i b = (b, i + 1) := by
  unfold clsAt
  rw [drop_one p i h, hx]
  rcases p.drop (i + 1) with _ | ⟨y, _ | ⟨z, r⟩⟩ <;> simp [clsL]
theorem clsAt_esc (p : List Int) (c : Int) (i : Nat) (b : Bool) (h : i + 1 < p.length) (hx : p.getD i 0 = 92) : clsAt p c i b = clsAt p c (i + 2) (b || p.getD (i + 1) 0 == c) := by
  unfold clsAt
  rw [drop_one p i (by omega), drop_one p (i + 1) h, hx]
  rcases p.drop (i + 1 + 1) with _ | ⟨z, r⟩
  · simp [clsL]
  · simp only [clsL]
    simp; omega
theorem clsAt_range (p : List Int) (c : Int) (i : Nat) (b : Bool) (h : i + 2 < p.length) (hx : p.getD i 0 ≠ 93) (hx' : p.getD i 0 ≠ 92) (hy : p.getD (i + 1) 0 = 45) :
    clsAt p c i b = clsAt p c (i + 3) (b || (decide (min (p.getD i 0) (p.getD (i + 2) 0) ≤ c) && decide (c ≤ max (p.getD i 0) (p.getD (i + 2) 0)))) := by
  unfold clsAt
  rw [drop_one p i (by omega), drop_one p (i + 1) (by omega), drop_one p (i + 1 + 1) (by omega), hy]
  simp only [clsL, if_neg hx, if_neg hx', if_true]
  simp only [Nat.add_assoc, Nat.reduceAdd]
  simp; omega
theorem clsAt_one (p : List Int) (c : Int) (i : Nat) (b : Bool) (h : i < p.length) (hx : p.getD i 0 ≠ 93) (h1 : ¬ (p.getD i 0 = 92 ∧ i + 1 < p.length)) (h2 : ¬ (i + 2 < p.length ∧ p.getD (i + 1) 0 = 45)) :
    clsAt p c i b = clsAt p c (i + 1) (b || p.getD i 0 == c) := by
  unfold clsAt
  rw [drop_one p i h]
  by_cases a1 : i + 1 < p.length
  · have hx' : p.getD i 0 ≠ 92 := fun e => h1 ⟨e, a1⟩
    rw [drop_one p (i + 1) a1]
    by_cases a2 : i + 2 < p.length
    · have hy : p.getD (i + 1) 0 ≠ 45 := fun e => h2 ⟨a2, e⟩
      rw [drop_one p (i + 1 + 1) a2]
      simp only [clsL, if_neg hx, if_neg hx', if_neg hy]
      simp only [Prod.mk.injEq, true_and]; omega
    · rw [List.drop_of_length_le (by omega : p.length ≤ i + 1 + 1)]
      simp only [clsL, if_neg hx, if_neg hx']
      simp only [Prod.mk.injEq, true_and]; omega
  · rw [List.drop_of_length_le (by omega : p.length ≤ i + 1)]
    simp only [clsL, if_neg hx]

end Go.Proofs.Qxb6617818a
