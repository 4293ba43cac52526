/-
  THE WALK OF zzTokens. By an AI agent.
-/
import Derived.Test.Qxb6617818aSets
import Derived.Test.Qxb6617818aMatch
import Derived.Deep.CutBlock
namespace Go.Proofs.Qxb6617818a
open Go.RowKit

/-! ### zzClassSet of a list of bytes -/
theorem classSet_any (b off len cap : Nat) (x0 : Int) (r : List Int) (Q : Nat → Nat) (w : World) (hp : r.length + 1 = len) (hm : len ≤ 10000) (hQ : ∀ j, (x0 :: r).getD j 0 = (Q j : Int)) (hQb : ∀ j, Q j < 256) (hb : b < w.heap.size)
    (hc : ∀ j, j < len → w.cell? ⟨b, off + j, none⟩ = some (.int .u8 (Q j : Int))) :
    Calls Try.prog 30 #[.slice (some ⟨b, off, none⟩) len cap] w fun e w' => ∃ (f : Nat → Bool) (W : Nat), e = .returned (.tuple #[.agg (setA f), .int .i64 W]) ∧ (∀ c : Nat, c < 256 → f c = (mcl c r).1) ∧ W = (mcl 0 r).2 ∧ Below w.heap.size w w' := by
  have key : ∀ ng i0, _ → _ := fun ng i0 h1 => set_walk b off len cap (x0 :: r) Q ng i0 w (by exact hp) hQ hQb (by omega) hm hb hc h1
  rcases r with _ | ⟨x, r⟩
  · refine (key false 1 (.inr (.inr ⟨by simp at hp; omega, rfl, rfl⟩))).mono ?_
    rintro e w' ⟨f, W, rfl, hf, hW, hbl⟩
    refine ⟨f, W, rfl, fun c hc => ?_, ?_, hbl⟩
    · rw [hf c hc]; simp [clsAt, clsL, mcl]
    · rw [hW]; simp [clsAt, clsL, mcl]
  · have hx1 : (Q 1 : Int) = x := by rw [← hQ 1]; simp
    by_cases hx : x = 94
    · refine (key true 2 (.inl ⟨by simp at hp; omega, by omega, rfl, rfl⟩)).mono ?_
      rintro e w' ⟨f, W, rfl, hf, hW, hbl⟩
      refine ⟨f, W, rfl, fun c hc => ?_, ?_, hbl⟩
      · rw [hf c hc]; simp [clsAt, mcl, hx]
      · rw [hW]; simp [clsAt, mcl, hx]; omega
    · refine (key false 1 (.inr (.inl ⟨by simp at hp; omega, by omega, rfl, rfl⟩))).mono ?_
      rintro e w' ⟨f, W, rfl, hf, hW, hbl⟩
      refine ⟨f, W, rfl, fun c hc => ?_, ?_, hbl⟩
      · rw [hf c hc]; simp [clsAt, mcl, hx]
      · rw [hW]; simp [clsAt, mcl, hx]; omega

/-! ### a token in memory -/
def tokL (s : Bool) (f : Nat → Bool) : List Value := .bool s :: setL f
def tokA (s : Bool) (f : Nat → Bool) : Array Value := (tokL s f).toArray
theorem tokL_length (s : Bool) (f : Nat → Bool) : (tokL s f).length = 257 := by simp [tokL, setL_length]
theorem tokA_size (s : Bool) (f : Nat → Bool) : (tokA s f).size = 257 := by simp [tokA, tokL_length]
theorem info44 : (Try.prog.info? 44).map (fun i => (i.zero, i.size, i.bytes)) = some (some (.agg (tokA false noneF)), 257, 257) := by kernel_rfl
theorem zero44 : ∀ w, (zeroValue 44).run Try.prog w = .ok (.agg (tokA false noneF)) w := by
  have h : (Try.prog.info? 44).map (fun i => (i.zero, i.size)) = some (some (.agg (tokA false noneF)), 257) := by kernel_rfl
  exact (zero_of_info h).1
theorem size44 : (Try.prog.info? 44).map (·.size) = some 257 := by kernel_rfl

theorem tokA_zero (s : Bool) (f : Nat → Bool) : (tokA s f)[0]? = some (.bool s) := by simp [tokA, tokL]
theorem tokA_at (s : Bool) (f : Nat → Bool) (x : Nat) (h : x < 256) : (tokA s f)[1 + x]? = some (.bool (f x)) := by
  have : (tokL s f)[1 + x]? = (setL f)[x]? := by rw [Nat.add_comm]; simp [tokL]
  simp only [tokA, List.getElem?_toArray, this]
  simp [setL, h]
theorem tokA_star (s b : Bool) (f : Nat → Bool) : (tokA s f).setIfInBounds 0 (.bool b) = tokA b f := by simp [tokA, tokL]
theorem tokA_put (s : Bool) (f : Nat → Bool) (x : Nat) (b : Bool) : (tokA s f).setIfInBounds (1 + x) (.bool b) = tokA s (putF f x b) := by
  have e := congrArg Array.toList (setA_put f x b)
  rw [Array.toList_setIfInBounds] at e
  simp only [setA] at e
  apply Array.toList_inj.1
  rw [Array.toList_setIfInBounds]
  simp only [tokA, tokL]
  rw [Nat.add_comm, List.set_cons_succ, e]

/-- block g holds the token -/
def TokAt (w : World) (g : Nat) (s : Bool) (f : Nat → Bool) : Prop := w.heap[g]? = some (.cells (tokA s f) 44 (0, 0))
theorem TokAt.star {w : World} {g : Nat} {s : Bool} {f : Nat → Bool} (h : TokAt w g s f) : w.cell? ⟨g, 0, none⟩ = some (.bool s) := by rw [cell_of_row w g 0 _ 44 _ h, tokA_zero]
theorem TokAt.cell {w : World} {g : Nat} {s : Bool} {f : Nat → Bool} (h : TokAt w g s f) {x : Nat} (hx : x < 256) : w.cell? ⟨g, 1 + x, none⟩ = some (.bool (f x)) := by rw [cell_of_row w g (1 + x) _ 44 _ h, tokA_at s f x hx]
theorem TokAt.free {w : World} {g : Nat} {s : Bool} {f : Nat → Bool} (h : TokAt w g s f) (x : Nat) : w.frozen? ⟨g, x, none⟩ = false := frozen_of_row w g x _ 44 h
theorem TokAt.putStar {w : World} {g : Nat} {s : Bool} {f : Nat → Bool} (h : TokAt w g s f) (b : Bool) : TokAt (w.setCell ⟨g, 0, none⟩ (.bool b)) g b f := by
  unfold TokAt
  rw [heap_setCell_same w g 0 _ 44 _ h, tokA_star]
theorem TokAt.put {w : World} {g : Nat} {s : Bool} {f : Nat → Bool} (h : TokAt w g s f) (x : Nat) (b : Bool) : TokAt (w.setCell ⟨g, 1 + x, none⟩ (.bool b)) g s (putF f x b) := by
  unfold TokAt
  rw [heap_setCell_same w g (1 + x) _ 44 _ h, tokA_put]
theorem TokAt.lt {w : World} {g : Nat} {s : Bool} {f : Nat → Bool} (h : TokAt w g s f) : g < w.heap.size := (Array.getElem?_eq_some_iff.1 h).1
theorem TokAt.new (w : World) (s : Bool) (f : Nat → Bool) : TokAt (w.alloc (.cells (tokA s f) 44)) w.heap.size s f := heap_alloc_new w _
theorem TokAt.below {w w' : World} {g : Nat} {s : Bool} {f : Nat → Bool} (h : TokAt w g s f) (hb : Below w.heap.size w w') : TokAt w' g s f := (hb.block g h.lt).trans h

/-! ### the parts, read off the pattern -/
def CorrT (st : Bool) (f : Nat → Bool) : Option (Int → Bool) → Prop
  | none => st = true
  | some g => st = false ∧ ∀ c : Nat, c < 256 → f c = g c
def TokStep (p : List Int) (i i' : Nat) (st : Bool) (f : Nat → Bool) : Prop := ∃ u, toks (p.drop i) = u :: toks (p.drop i') ∧ CorrT st f u

theorem step_star {p : List Int} {Q : Nat → Nat} {len i : Nat} (hp : Hid (p.length = len)) (hP : Hid (∀ j, p.getD j 0 = (Q j : Int))) (hlt : i < len) (h : Q i = 42) (f : Nat → Bool) : TokStep p i (i + 1) true f :=
  ⟨none, tok_star (by rw [hp.out]; exact hlt) (by rw [hP.out, h]; rfl), rfl⟩
theorem step_of {p : List Int} {Q : Nat → Nat} {len i W : Nat} {f : Nat → Bool} (hp : Hid (p.length = len)) (hP : Hid (∀ j, p.getD j 0 = (Q j : Int))) (hlt : i < len) (h : Q i ≠ 42) (hW : (mb 0 (p.drop i)).2 = W) (hf : ∀ c : Nat, c < 256 → f c = (mb c (p.drop i)).1) : TokStep p i (i + W) false f := by
  have e := tok_one (pat := p) (p := i) (by rw [hp.out]; exact hlt) (by rw [hP.out]; omega) 0
  rw [hW] at e
  exact ⟨_, e, rfl, hf⟩
theorem drop_Q {p : List Int} {Q : Nat → Nat} {len i : Nat} (hp : Hid (p.length = len)) (hP : Hid (∀ j, p.getD j 0 = (Q j : Int))) (hlt : i < len) : p.drop i = (Q i : Int) :: p.drop (i + 1) := by
  rw [drop_one p i (by rw [hp.out]; exact hlt), hP.out]
theorem step_q {p : List Int} {Q : Nat → Nat} {len i : Nat} {f : Nat → Bool} (hp : Hid (p.length = len)) (hP : Hid (∀ j, p.getD j 0 = (Q j : Int))) (hlt : i < len) (h : Q i = 63) (hf : ∀ c : Nat, c < 256 → f c = true) : TokStep p i (i + 1) false f := by
  have e := drop_Q hp hP hlt
  rw [h] at e
  have e2 : p.drop i = 63 :: p.drop (i + 1) := e
  exact step_of hp hP hlt (by omega) (by rw [e2, mb_q]) (fun c hc => by rw [e2, mb_q, hf c hc])
theorem step_cls {p : List Int} {Q : Nat → Nat} {len i W : Nat} {f : Nat → Bool} (hp : Hid (p.length = len)) (hP : Hid (∀ j, p.getD j 0 = (Q j : Int))) (hlt : i < len) (h : Q i = 91) (hW : W = (mcl 0 (p.drop (i + 1))).2) (hf : ∀ c : Nat, c < 256 → f c = (mcl c (p.drop (i + 1))).1) : TokStep p i (i + W) false f := by
  have e := drop_Q hp hP hlt
  rw [h] at e
  have e2 : p.drop i = 91 :: p.drop (i + 1) := e
  exact step_of hp hP hlt (by omega) (by rw [e2, mb_cls, hW]) (fun c hc => by rw [e2, mb_cls, hf c hc])
theorem step_esc {p : List Int} {Q : Nat → Nat} {len i : Nat} (hp : Hid (p.length = len)) (hP : Hid (∀ j, p.getD j 0 = (Q j : Int))) (hlt : i + 1 < len) (h : Q i = 92) : TokStep p i (i + 2) false (putF noneF (Q (i + 1)) true) := by
  have e := drop_Q hp hP (show i < len by omega)
  rw [h, drop_Q hp hP hlt] at e
  have e2 : p.drop i = 92 :: (Q (i + 1) : Int) :: p.drop (i + 1 + 1) := e
  exact step_of hp hP (by omega) (by omega) (by rw [e2, mb_esc]) (fun c hc => by rw [e2, mb_esc, put_true]; simp [noneF])
theorem step_esc_end {p : List Int} {Q : Nat → Nat} {len i : Nat} (hp : Hid (p.length = len)) (hP : Hid (∀ j, p.getD j 0 = (Q j : Int))) (hlt : i < len) (hge : ¬ i + 1 < len) (h : Q i = 92) : TokStep p i (i + 1) false (putF noneF 92 true) := by
  have e := drop_Q hp hP hlt
  rw [h, List.drop_of_length_le (by rw [hp.out]; omega : p.length ≤ i + 1)] at e
  have e2 : p.drop i = [92] := e
  exact step_of hp hP hlt (by omega) (by rw [e2, mb_esc_end]) (fun c hc => by rw [e2, mb_esc_end, put_true]; simp [noneF])
theorem step_lit {p : List Int} {Q : Nat → Nat} {len i : Nat} (hp : Hid (p.length = len)) (hP : Hid (∀ j, p.getD j 0 = (Q j : Int))) (hlt : i < len) (h1 : Q i ≠ 42) (h2 : Q i ≠ 63) (h3 : Q i ≠ 91) (h4 : Q i ≠ 92) : TokStep p i (i + 1) false (putF noneF (Q i) true) := by
  have e := drop_Q hp hP hlt
  exact step_of hp hP hlt h1 (by rw [e, mb_lit _ _ _ (by omega) (by omega) (by omega)]) (fun c hc => by rw [e, mb_lit _ _ _ (by omega) (by omega) (by omega), put_true]; simp [noneF])

end Go.Proofs.Qxb6617818a
