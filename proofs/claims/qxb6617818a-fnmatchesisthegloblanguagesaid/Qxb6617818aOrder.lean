/-
  PLAIN LAWS on the byte order of names and on prefix ranges: no Go in sight. By an AI agent.
-/
namespace Go.Proofs.Qxb6617818a

/-- byte order: -1, 0 or 1 -/
def cmpL : List UInt8 → List UInt8 → Int
  | [], [] => 0
  | [], _ :: _ => -1
  | _ :: _, [] => 1
  | x :: r, y :: t => if x.toNat < y.toNat then -1 else if y.toNat < x.toNat then 1 else cmpL r t

/-- does s begin t? -/
def preL : List UInt8 → List UInt8 → Bool
  | [], _ => true
  | _ :: _, [] => false
  | x :: r, y :: t => if x = y then preL r t else false

/-- the first name past all that begin with p: none if every byte of p is 255 -/
def succL : List UInt8 → Option (List UInt8)
  | [] => none
  | x :: r => match succL r with
    | some r' => some (x :: r')
    | none => if x = 255 then none else some [x + 1]

theorem cmpL_range (a : List UInt8) : ∀ b, cmpL a b = -1 ∨ cmpL a b = 0 ∨ cmpL a b = 1 := by
  induction a with
  | nil => intro b; cases b <;> simp [cmpL]
  | cons x r ih =>
    intro b
    cases b with
    | nil => simp [cmpL]
    | cons y t =>
      simp only [cmpL]
      split
      · simp
      · split
        · simp
        · exact ih t

theorem cmpL_self (a : List UInt8) : cmpL a a = 0 := by
  induction a with
  | nil => rfl
  | cons x r ih => simp [cmpL, ih]

theorem cmpL_zero (a : List UInt8) : ∀ b, cmpL a b = 0 ↔ a = b := by
  induction a with
  | nil => intro b; cases b <;> simp [cmpL]
  | cons x r ih =>
    intro b
    cases b with
    | nil => simp [cmpL]
    | cons y t =>
      simp only [cmpL, List.cons.injEq]
      have e : x = y ↔ x.toNat = y.toNat := UInt8.toNat_inj.symm
      rw [e]
      split
      · constructor
        · intro h; omega
        · intro h; omega
      · split
        · constructor
          · intro h; omega
          · intro h; omega
        · rw [ih t]
          constructor
          · intro h; exact ⟨by omega, h⟩
          · intro h; exact h.2

theorem cmpL_nil_le (a : List UInt8) : 0 ≤ cmpL a [] := by cases a <;> simp [cmpL]
theorem cmpL_swap (a : List UInt8) : ∀ b, cmpL a b = - cmpL b a := by
  induction a with
  | nil => intro b; cases b <;> simp [cmpL]
  | cons x r ih =>
    intro b
    cases b with
    | nil => simp [cmpL]
    | cons y t =>
      simp only [cmpL]
      split
      · rw [if_neg (by omega)]
      · split
        · rfl
        · exact ih t

theorem dropU (p : List UInt8) (i : Nat) (h : i < p.length) : p.drop i = p[i] :: p.drop (i + 1) := List.drop_eq_getElem_cons h
theorem cmpL_end (a b : List UInt8) (k : Nat) (h : ¬ (k < a.length ∧ k < b.length)) : cmpL (a.drop k) (b.drop k) = if a.length - k < b.length - k then -1 else if b.length - k < a.length - k then 1 else 0 := by
  by_cases h1 : k < a.length
  · have h2 : b.length ≤ k := by omega
    rw [List.drop_of_length_le h2, dropU a k h1]
    simp only [cmpL]
    rw [if_neg (by omega), if_pos (by omega)]
  · rw [List.drop_of_length_le (by omega : a.length ≤ k)]
    by_cases h2 : k < b.length
    · rw [dropU b k h2]
      simp only [cmpL]
      rw [if_pos (by omega)]
    · rw [List.drop_of_length_le (by omega : b.length ≤ k)]
      simp only [cmpL]
      rw [if_neg (by omega), if_neg (by omega)]
theorem cmpL_step (a b : List UInt8) (k : Nat) (h1 : k < a.length) (h2 : k < b.length) : cmpL (a.drop k) (b.drop k) = if a[k].toNat < b[k].toNat then -1 else if b[k].toNat < a[k].toNat then 1 else cmpL (a.drop (k + 1)) (b.drop (k + 1)) := by
  rw [dropU a k h1, dropU b k h2]
  simp only [cmpL]
theorem preL_step (s t : List UInt8) (k : Nat) (h1 : k < s.length) (h2 : k < t.length) : preL (s.drop k) (t.drop k) = if t[k].toNat = s[k].toNat then preL (s.drop (k + 1)) (t.drop (k + 1)) else false := by
  rw [dropU s k h1, dropU t k h2]
  simp only [preL]
  by_cases h : s[k] = t[k]
  · rw [if_pos h, if_pos (by rw [h])]
  · rw [if_neg h, if_neg (fun e => h (UInt8.toNat_inj.1 e.symm))]
theorem preL_end (s t : List UInt8) (k : Nat) (h : s.length ≤ k) : preL (s.drop k) (t.drop k) = true := by
  rw [List.drop_of_length_le h]; simp [preL]
theorem preL_long (s : List UInt8) : ∀ t, t.length < s.length → preL s t = false := by
  induction s with
  | nil => intro t h; simp at h
  | cons x r ih =>
    intro t h
    cases t with
    | nil => rfl
    | cons y t =>
      simp only [preL]
      split
      · exact ih t (by simpa using h)
      · rfl

theorem u8_succ (x : UInt8) (h : x ≠ 255) : (x + 1).toNat = x.toNat + 1 := by
  have hx : x.toNat ≠ 255 := fun e => h (UInt8.toNat_inj.1 e)
  have := x.toNat_lt
  rw [UInt8.toNat_add]
  show (x.toNat + 1) % 256 = _
  omega

theorem cmpL_lt {x y : UInt8} {r t : List UInt8} (h : x.toNat < y.toNat) : cmpL (x :: r) (y :: t) = -1 := by simp [cmpL, h]
theorem cmpL_gt {x y : UInt8} {r t : List UInt8} (h : y.toNat < x.toNat) : cmpL (x :: r) (y :: t) = 1 := by simp only [cmpL]; rw [if_neg (by omega), if_pos h]
theorem cmpL_eq {x : UInt8} {r t : List UInt8} : cmpL (x :: r) (x :: t) = cmpL r t := by simp [cmpL]
theorem preL_eq {x : UInt8} {r t : List UInt8} : preL (x :: r) (x :: t) = preL r t := by simp [preL]
theorem preL_ne {x y : UInt8} {r t : List UInt8} (h : x ≠ y) : preL (x :: r) (y :: t) = false := by simp [preL, h]

/-- (A): the range holds exactly the prefixed names -/
theorem range_pre (p : List UInt8) : ∀ n, preL p n = true ↔ (0 ≤ cmpL n p ∧ ∀ m, succL p = some m → cmpL n m < 0) := by
  induction p with
  | nil => intro n; simp [preL, succL, cmpL_nil_le]
  | cons x r ih =>
    intro n
    cases n with
    | nil => simp [preL, cmpL]
    | cons y t =>
      have iht := ih t
      have hy := y.toNat_lt
      by_cases hxy : x = y
      · subst hxy
        rw [preL_eq, cmpL_eq, iht]
        simp only [succL]
        rcases hs : succL r with _ | r'
        · by_cases hx : x = 255
          · simp [hx]
          · have hs1 := u8_succ x hx
            simp [hx, cmpL_lt (show x.toNat < (x + 1).toNat by omega)]
        · simp [cmpL_eq]
      · have hne : x.toNat ≠ y.toNat := fun h => hxy (UInt8.toNat_inj.1 h)
        rw [preL_ne hxy]
        simp only [Bool.false_eq_true, false_iff]
        rintro ⟨h1, h2⟩
        by_cases hlt : y.toNat < x.toNat
        · rw [cmpL_lt hlt] at h1; omega
        · have hgt : x.toNat < y.toNat := by omega
          simp only [succL] at h2
          rcases hs : succL r with _ | r'
          · have hx : x ≠ 255 := fun h => by rw [h] at hgt; have : (255 : UInt8).toNat = 255 := rfl; omega
            have hs1 := u8_succ x hx
            have h3 := h2 [x + 1] (by simp [hs, hx])
            by_cases h4 : (x + 1).toNat < y.toNat
            · rw [cmpL_gt h4] at h3; omega
            · have h5 : x + 1 = y := UInt8.toNat_inj.1 (by omega)
              rw [← h5, cmpL_eq] at h3
              have := cmpL_nil_le t
              omega
          · have h3 := h2 (x :: r') (by simp [hs])
            rw [cmpL_gt hgt] at h3; omega

/-- (B1): an extension's range ends no later -/
theorem nest (p : List UInt8) : ∀ q, preL p q = true → ∀ m, succL p = some m → ∃ m', succL q = some m' ∧ cmpL m' m ≤ 0 := by
  induction p with
  | nil => intro q _ m hm; simp [succL] at hm
  | cons x r ih =>
    intro q hq m hm
    cases q with
    | nil => simp [preL] at hq
    | cons y t =>
      simp only [preL] at hq
      split at hq
      · rename_i hxy
        subst hxy
        simp only [succL] at hm ⊢
        rcases hs : succL r with _ | r'
        · rw [hs] at hm
          simp only at hm
          split at hm
          · cases hm
          · rename_i hx
            cases hm
            have hs1 := u8_succ x hx
            rcases succL t with _ | t'
            · exact ⟨[x + 1], by simp [hx], by rw [cmpL_self]; omega⟩
            · exact ⟨x :: t', rfl, by simp only [cmpL]; rw [if_pos (by omega)]; omega⟩
        · rw [hs] at hm
          cases hm
          obtain ⟨m', h1, h2⟩ := ih t hq r' hs
          rw [h1]
          refine ⟨x :: m', rfl, ?_⟩
          simp only [cmpL]
          rw [if_neg (by omega), if_neg (by omega)]
          exact h2
      · cases hq

/-- (B2): neither extends the other: the lesser's range ends at or before the greater -/
theorem part (p : List UInt8) : ∀ q, preL p q = false → preL q p = false → cmpL p q < 0 → ∃ m, succL p = some m ∧ cmpL m q ≤ 0 := by
  induction p with
  | nil => intro q h; simp [preL] at h
  | cons x r ih =>
    intro q h1 h2 h3
    cases q with
    | nil => simp [preL] at h2
    | cons y t =>
      have e : x = y ↔ x.toNat = y.toNat := UInt8.toNat_inj.symm
      have hy := y.toNat_lt
      simp only [preL] at h1 h2
      simp only [cmpL] at h3
      simp only [succL]
      by_cases hxy : x = y
      · subst hxy
        simp only [if_true] at h1 h2
        rw [if_neg (by omega), if_neg (by omega)] at h3
        obtain ⟨m, hm, hc⟩ := ih t h1 h2 h3
        rw [hm]
        refine ⟨x :: m, rfl, ?_⟩
        simp only [cmpL]
        rw [if_neg (by omega), if_neg (by omega)]
        exact hc
      · have hne : x.toNat ≠ y.toNat := fun h => hxy (e.2 h)
        have hlt : x.toNat < y.toNat := by
          by_cases h : x.toNat < y.toNat
          · exact h
          · rw [if_neg h, if_pos (by omega)] at h3; omega
        rcases succL r with _ | r'
        · have hx : x ≠ 255 := fun h => by rw [h] at hlt; have : (255 : UInt8).toNat = 255 := rfl; omega
          have hs1 := u8_succ x hx
          refine ⟨[x + 1], by simp [hx], ?_⟩
          simp only [cmpL]
          by_cases h : (x + 1).toNat < y.toNat
          · rw [if_pos h]; omega
          · rw [if_neg h, if_neg (by omega)]
            cases t <;> simp [cmpL]
        · refine ⟨x :: r', rfl, ?_⟩
          simp only [cmpL]
          rw [if_pos hlt]; omega

/-- how the Go text finds it: e is the end behind the last byte that is not 255 -/
theorem succL_at (p : List UInt8) : ∀ e, e ≤ p.length → (∀ j, e ≤ j → j < p.length → p.getD j 0 = 255) → (0 < e → p.getD (e - 1) 0 ≠ 255) →
    succL p = if e = 0 then none else some (p.take (e - 1) ++ [p.getD (e - 1) 0 + 1]) := by
  induction p with
  | nil => intro e he _ _; simp at he; simp [succL, he]
  | cons x r ih =>
    intro e he h1 h2
    cases e with
    | zero =>
      have := ih 0 (Nat.zero_le _) (fun j _ hj => by have := h1 (j + 1) (by omega) (by simp; omega); simpa using this) (fun h => by omega)
      have hx : x = 255 := by have := h1 0 (by omega) (by simp); simpa using this
      simp [succL, this, hx]
    | succ e =>
      have := ih e (by simpa using he) (fun j hj hj2 => by have := h1 (j + 1) (by omega) (by simp; omega); simpa using this) (fun h => by
        have := h2 (by omega)
        cases e with
        | zero => omega
        | succ e => simpa using this)
      cases e with
      | zero =>
        have hx : x ≠ 255 := by have := h2 (by omega); simpa using this
        simp [succL, this, hx]
      | succ e => simp [succL, this]

end Go.Proofs.Qxb6617818a
