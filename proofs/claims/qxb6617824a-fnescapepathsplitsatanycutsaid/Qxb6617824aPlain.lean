/-
  THE PERCENT-ESCAPE OF A PATH, PLAINLY. No Go in sight. By an AI agent.
-/
namespace Go.Proofs.Qxb6617824a

/-- may the byte stand as it is? -/
def litN (n : Int) : Bool := (decide (65 ≤ n) && decide (n ≤ 90)) || (decide (97 ≤ n) && decide (n ≤ 122)) || (decide (48 ≤ n) && decide (n ≤ 57)) || n == 45 || n == 46 || n == 95 || n == 126 || n == 47
/-- the upper-case hexadecimal digit -/
def hexN (n : Int) : Int := if n < 10 then 48 + n else 55 + n
/-- one byte's escape, as numbers -/
def escN (n : Int) : List Int := if litN n then [n] else [37, hexN (n / 16), hexN (n % 16)]
def escL : List Int → List Int
  | [] => []
  | c :: r => escN c ++ escL r

theorem escL_append (a b : List Int) : escL (a ++ b) = escL a ++ escL b := by
  induction a with
  | nil => rfl
  | cons c r ih => simp [escL, ih]
theorem escL_snoc (a : List Int) (c : Int) : escL (a ++ [c]) = escL a ++ escN c := by rw [escL_append]; simp [escL]

/-- how many may not stand as they are -/
def cntN : List Int → Nat
  | [] => 0
  | c :: r => (if litN c then 0 else 1) + cntN r
theorem cntN_append (a b : List Int) : cntN (a ++ b) = cntN a + cntN b := by
  induction a with
  | nil => simp [cntN]
  | cons c r ih => simp only [List.cons_append, cntN, ih]; omega
theorem cntN_le (a : List Int) : cntN a ≤ a.length := by
  induction a with
  | nil => simp [cntN]
  | cons c r ih => simp only [cntN, List.length_cons]; split <;> omega
theorem escN_length (c : Int) : (escN c).length = 1 + 2 * (if litN c then 0 else 1) := by unfold escN; split <;> simp
theorem escL_length (a : List Int) : (escL a).length = a.length + 2 * cntN a := by
  induction a with
  | nil => rfl
  | cons c r ih => simp only [escL, List.length_append, escN_length, ih, List.length_cons, cntN]; omega
theorem escL_le (a : List Int) : (escL a).length ≤ 3 * a.length := by rw [escL_length]; have := cntN_le a; omega

theorem lit37 : litN 37 = false := by decide

/-- the value of an upper-case hexadecimal digit, or -1 -/
def hexV (c : Int) : Int := if 48 ≤ c ∧ c ≤ 57 then c - 48 else if 65 ≤ c ∧ c ≤ 70 then c - 55 else -1
theorem hexV_hexN (n : Int) (h0 : 0 ≤ n) (h1 : n ≤ 15) : hexV (hexN n) = n := by
  unfold hexN
  by_cases h : n < 10
  · rw [if_pos h]; unfold hexV; rw [if_pos (by omega)]; omega
  · rw [if_neg h]; unfold hexV; rw [if_neg (by omega), if_pos (by omega)]; omega
theorem hexN_bounds (n : Int) (h0 : 0 ≤ n) (h1 : n ≤ 15) : 48 ≤ hexN n ∧ hexN n ≤ 70 := by
  unfold hexN; split <;> omega

/-- every number is a byte -/
def Bytes (l : List Int) : Prop := ∀ n ∈ l, 0 ≤ n ∧ n ≤ 255
theorem Bytes.escN {c : Int} (h : 0 ≤ c ∧ c ≤ 255) : Bytes (escN c) := by
  intro n hn
  unfold Qxb6617824a.escN at hn
  split at hn
  · simp at hn; omega
  · have h1 := hexN_bounds (c / 16) (by omega) (by omega)
    have h2 := hexN_bounds (c % 16) (by omega) (by omega)
    simp at hn; omega
theorem Bytes.escL {a : List Int} (h : Bytes a) : Bytes (escL a) := by
  induction a with
  | nil => intro n hn; simp [Qxb6617824a.escL] at hn
  | cons c r ih =>
    intro n hn
    simp only [Qxb6617824a.escL, List.mem_append] at hn
    rcases hn with hn | hn
    · exact Bytes.escN (h c (by simp)) n hn
    · exact ih (fun m hm => h m (by simp [hm])) n hn

/-! ### bytes and numbers -/
def toN (l : List UInt8) : List Int := l.map fun c => (c.toNat : Int)
def ofN (l : List Int) : List UInt8 := l.map fun n => UInt8.ofNat n.toNat
theorem toN_bytes (l : List UInt8) : Bytes (toN l) := by
  intro n hn
  simp only [toN, List.mem_map] at hn
  obtain ⟨c, _, rfl⟩ := hn
  have := c.toNat_lt
  omega
theorem toN_ofN {l : List Int} (h : Bytes l) : toN (ofN l) = l := by
  unfold toN ofN
  rw [List.map_map]
  conv => rhs; rw [← List.map_id l]
  apply List.map_congr_left
  intro n hn
  have := h n hn
  simp only [Function.comp, id, UInt8.toNat_ofNat']
  omega
theorem ofN_toN (l : List UInt8) : ofN (toN l) = l := by
  unfold toN ofN
  rw [List.map_map]
  conv => rhs; rw [← List.map_id l]
  apply List.map_congr_left
  intro n _
  simp [Function.comp]
theorem ofN_append (a b : List Int) : ofN (a ++ b) = ofN a ++ ofN b := by simp [ofN]
theorem toN_append (a b : List UInt8) : toN (a ++ b) = toN a ++ toN b := by simp [toN]
theorem ofN_length (a : List Int) : (ofN a).length = a.length := by simp [ofN]
theorem toN_length (a : List UInt8) : (toN a).length = a.length := by simp [toN]

end Go.Proofs.Qxb6617824a
