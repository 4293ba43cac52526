/-
  THE PROOF OF 'Rows.FnTakesBalanceJoinedSelectorsSaid'. By an AI agent. No shell was given: the frame is turned from the shell of another law of this place (a law over slices) to this function's number and types.
-/
import Derived.Test.Qxb6618693aRows
import Derived.Test.Qxb6618693aLaw
import Derived.WalkKit
import Derived.ProofKit
import Derived.OpenShut
import Derived.ShutString
import Derived.ChangeOld
import Derived.Below
import Derived.Deep.Strs
namespace Go.Proofs.Qxb6618693a.fnTakesBalanceJoinedSelectors
open Go.ChangeShapes Go.WideShapes Go.ChangeAt Go.RowKit
open Go.ChangeMaps (open_string shut_string)
set_option linter.unusedVariables false

theorem own : ownKnob Try.prog.godebug = none := by kernel_rfl
theorem laidOut : laidOutB Try.prog = true := by kernel_rfl
theorem cells45 : Try.prog.cellsOf 45 = 2 := by kernel_rfl
theorem cells42 : Try.prog.cellsOf 42 = 1 := by kernel_rfl
theorem cells43 : Try.prog.cellsOf 43 = 1 := by kernel_rfl
theorem cells9 : Try.prog.cellsOf 9 = 1 := by kernel_rfl

section
variable {H : Type} {enc : TypeId × Value → H} {W : World}

/-- one selector's two cells, opened -/
theorem sel_open {fuel : Nat} {c0 c1 : Value} {x : DataW H × List MemPlace} (h : DataW.trod enc Try.prog W 0 (fun _ => true) true fuel 45 [c0, c1] = some x) :
    ∃ (Ka : Option Addr) (Kl Kc : Nat) (M : Option Addr) (S : Nat → ByteArray), c0 = .slice Ka Kl Kc ∧ c1 = .pointer M ∧ KindsAt W Ka Kl S ∧ Kl ≤ maxLen := by
  obtain ⟨y0, y1, n, _, _, h0, h1⟩ := trod_struct2 Try.underlying45 h
  have h0' : DataW.trod enc Try.prog W 0 (fun _ => true) true n 42 [c0] = some y0 := by simpa [cells42] using h0
  have h1' : DataW.trod enc Try.prog W 0 (fun _ => true) true n 43 [c1] = some y1 := by simpa [cells43] using h1
  obtain ⟨M, hM⟩ : ∃ M, c1 = .pointer M := by
    rcases DataW.trod_pointer Try.underlying43 h1' with ⟨hc, _⟩ | ⟨a, cs', y, m, _, hc, _⟩
    · exact ⟨none, by simpa using hc⟩
    · exact ⟨some a, by simpa using hc⟩
  rcases Deep.open_strs Try.underlying42 Try.underlying9 cells9 h0' with ⟨hc, _⟩ | ⟨a, len, cap, m, Sx, hc, _, hl, hm, hmm, _, hS⟩
  · exact ⟨none, 0, 0, M, fun _ => ByteArray.empty, by simpa using hc, hM, fun j hj => by omega, Nat.zero_le _⟩
  · refine ⟨some a, len, cap, M, Sx, by simpa using hc, hM, fun j hj => ?_, by omega⟩
    have hjm : j < m := by rw [hmm]; simp; omega
    obtain ⟨e, hs⟩ := hS j hjm
    have hsp : a.spot = none := by
      have := World.cell?_spot (hS 0 (by omega)).1
      simpa [Addr.add] using this
    obtain ⟨b, off, spot⟩ := a
    simp only at hsp
    subst hsp
    rw [add_plain] at e
    exact ⟨b, off, rfl, World.block_lt_of_cell? _ _ e, e, hs⟩

/-- the slice of selectors, opened -/
theorem sels_open {fuel : Nat} {a : Option Addr} {len cap : Nat} {x : DataW H × List MemPlace} (h : DataW.trod enc Try.prog W 0 (fun _ => true) true fuel 22 [.slice a len cap] = some x) :
    ∃ (Ka : Nat → Option Addr) (Kl Kc : Nat → Nat) (M : Nat → Option Addr) (S : Nat → Nat → ByteArray), SelsAt W a len Ka Kl Kc M S ∧ (a = none → len = 0) ∧ len ≤ maxLen := by
  rcases Deep.open_slice Try.underlying22 h with ⟨hc, _⟩ | ⟨ad, len', cap', m, n, D, Pl, hc, _, hl, hm, hmm, _, hx⟩
  · simp only [List.cons.injEq, Value.slice.injEq, and_true] at hc
    obtain ⟨rfl, rfl, rfl⟩ := hc
    exact ⟨fun _ => none, fun _ => 0, fun _ => 0, fun _ => none, fun _ _ => ByteArray.empty, fun i hi => by omega, fun _ => rfl, Nat.zero_le _⟩
  · simp only [List.cons.injEq, Value.slice.injEq, and_true] at hc
    obtain ⟨rfl, rfl, rfl⟩ := hc
    have each : ∀ i, i < len → ∃ q : Option Addr × Nat × Nat × Option Addr × (Nat → ByteArray), ∃ b off, ad = ⟨b, off, none⟩ ∧ b < W.heap.size ∧ W.cell? ⟨b, off + i * 2, none⟩ = some (.slice q.1 q.2.1 q.2.2.1) ∧ W.cell? ⟨b, off + i * 2 + 1, none⟩ = some (.pointer q.2.2.2.1) ∧ KindsAt W q.1 q.2.1 q.2.2.2.2 ∧ q.2.1 ≤ maxLen := by
      intro i hi
      have hm0 : 0 < m := by rw [hmm]; simp; omega
      have him : i < m := by rw [hmm]; simp; omega
      have hsp : ad.spot = none := by
        obtain ⟨cs', hcs, _⟩ := hx 0 hm0
        rw [cells45] at hcs
        obtain ⟨_, hlen, hcell⟩ := World.cells?_some hcs
        have := hcell 0 (by omega)
        rw [List.getElem?_eq_getElem (by omega)] at this
        have := World.cell?_spot this
        simpa [Addr.add] using this
      obtain ⟨cs', hcs, ht⟩ := hx i him
      rw [cells45] at hcs
      obtain ⟨_, hlen, hcell⟩ := World.cells?_some hcs
      obtain ⟨c0, c1, rfl⟩ : ∃ c0 c1, cs' = [c0, c1] := by
        match cs', hlen with
        | [c0, c1], _ => exact ⟨c0, c1, rfl⟩
      obtain ⟨Ka, Kl, Kc, M, S, rfl, rfl, hk, hkl⟩ := sel_open ht
      obtain ⟨b, off, spot⟩ := ad
      simp only at hsp
      subst hsp
      have e0 := hcell 0 (by omega)
      have e1 := hcell 1 (by omega)
      rw [add_plain, add_plain] at e0 e1
      simp only [List.getElem?_cons_zero, List.getElem?_cons_succ, Nat.add_zero] at e0 e1
      exact ⟨(Ka, Kl, Kc, M, S), b, off, rfl, World.block_lt_of_cell? _ _ e0, e0, e1, hk, hkl⟩
    obtain ⟨f, hf⟩ := Deep.choose_lt each
    refine ⟨fun i => (f i).1, fun i => (f i).2.1, fun i => (f i).2.2.1, fun i => (f i).2.2.2.1, fun i => (f i).2.2.2.2, fun i hi => ?_, (fun h => by cases h), by omega⟩
    obtain ⟨b, off, rfl, rest⟩ := hf i hi
    exact ⟨b, off, rfl, rest⟩
end

theorem walk (a0 : Bool) (a1 : Option Addr) (len1 cap1 : Nat) (a2 : Int) (a3 a4 a5 a6 : ByteArray) (W : World) (w1 : ∃ (Ka : Nat → Option Addr) (Kl Kc : Nat → Nat) (M : Nat → Option Addr) (S : Nat → Nat → ByteArray), SelsAt W a1 len1 Ka Kl Kc M S ∧ (a1 = none → len1 = 0) ∧ len1 ≤ maxLen) (w3 : a3.size ≤ maxLen) (w4 : a4.size ≤ maxLen) (w5 : a5.size ≤ maxLen) (w6 : a6.size ≤ maxLen) :
    Calls Try.prog 3 #[.bool a0, .slice a1 len1 cap1, .int .i64 a2, .string a3, .string a4, .string a5, .string a6] W fun e W' => e = .returned (.bool true) ∧ Below W.heap.size W W' := by
  obtain ⟨Ka, Kl, Kc, M, S, hs, ha, hl⟩ := w1
  by_cases h : 1048576 < len1
  · exact law_long a0 a1 len1 cap1 a2 a3 a4 a5 a6 W hl h
  · exact law_main a0 a1 len1 cap1 a2 a3 a4 a5 a6 Ka Kl Kc M S W (by omega) ha w3 w4 w5 w6 hs

/-! ### the row's step -/
set_option maxRecDepth 100000 in
theorem lifted (os : Os) (started : os.Started) (H : Type) (enc : TypeId × Value → H) :
    ReturnsInHanded {} Try.checked os 3 .any (Rows.fnTakesBalanceJoinedSelectorsSpec.pre6 enc Try.prog Try.f3 Rows.fnTakesBalanceJoinedSelectorsRow.domain false) (Rows.fnTakesBalanceJoinedSelectorsSpec.post enc Try.prog Try.f3 false true false false) := by
  refine returnsInHanded_of_change (C := Try.checked) own started (by kernel_rfl) Try.func3
    (ChangeSpec.witness6 (enc := enc) (C := Try.checked) false ⟨#[], #[.bool false, .slice none 0 0, .int .i64 0, .string ByteArray.empty, .string ByteArray.empty, .string ByteArray.empty, .string ByteArray.empty], []⟩ 8 (by kernel_rfl) (by kernel_rfl) (by kernel_rfl) (by kernel_rfl)) ?_
  intro W base args ds gs before hval0 hW hcnd _
  have hval : ∀ (j : Nat) t v, Try.f3.params[j]? = some t → args[j]? = some v → Value.okWide Try.prog W .any base t v := hval0
  have hW' := hW
  obtain ⟨p, q, hA0, hV, rfl, hfz, hnd⟩ := hW
  have hA : DataW.TrodAll enc Try.prog W 0 (fun _ => true) true Try.f3.params.toList args.toList ds p := hA0
  rw [Try.params3] at hA hval
  obtain ⟨v0, vs0, d0, ds0, p0, q0, hargs, rfl, rfl, h0, r0⟩ := trodAll_cons hA
  obtain ⟨v1, vs1, d1, ds1, p1, q1, rfl, rfl, rfl, h1, r1⟩ := trodAll_cons r0
  obtain ⟨v2, vs2, d2, ds2, p2, q2, rfl, rfl, rfl, h2, r2⟩ := trodAll_cons r1
  obtain ⟨v3, vs3, d3, ds3, p3, q3, rfl, rfl, rfl, h3, r3⟩ := trodAll_cons r2
  obtain ⟨v4, vs4, d4, ds4, p4, q4, rfl, rfl, rfl, h4, r4⟩ := trodAll_cons r3
  obtain ⟨v5, vs5, d5, ds5, p5, q5, rfl, rfl, rfl, h5, r5⟩ := trodAll_cons r4
  obtain ⟨v6, vs6, d6, ds6, p6, q6, rfl, rfl, rfl, h6, r6⟩ := trodAll_cons r5
  obtain ⟨rfl, rfl, rfl⟩ := trodAll_nil r6
  obtain rfl : args = #[v0, v1, v2, v3, v4, v5, v6] := by cases args; simp_all
  obtain ⟨rfl, rfl⟩ := trodVars_none hV
  obtain ⟨a0, rfl, rfl, rfl⟩ := open_bool Try.underlying4 (hval 0 4 v0 rfl rfl) h0
  obtain ⟨a1, len1, cap1, rfl⟩ := okWide_slice Try.underlying22 (hval 1 22 v1 rfl rfl)
  have k1 := h1
  have lt1 : ∀ x ∈ p1, x.block < W.heap.size := by obtain ⟨m, hm⟩ := k1; exact DataW.trod_lt m _ _ _ hm
  have w1 : ∃ (Ka : Nat → Option Addr) (Kl Kc : Nat → Nat) (M : Nat → Option Addr) (S : Nat → Nat → ByteArray), SelsAt W a1 len1 Ka Kl Kc M S ∧ (a1 = none → len1 = 0) ∧ len1 ≤ maxLen := by
    obtain ⟨fuel, hf⟩ := h1
    exact sels_open (by simpa [Value.cells] using hf)
  obtain ⟨a2, rfl, rfl, rfl, w2⟩ := open_int Try.underlying3 (hval 2 3 v2 rfl rfl) h2
  obtain ⟨a3, rfl, rfl, rfl, w3⟩ := open_string Try.underlying9 (hval 3 9 v3 rfl rfl) h3
  obtain ⟨a4, rfl, rfl, rfl, w4⟩ := open_string Try.underlying9 (hval 4 9 v4 rfl rfl) h4
  obtain ⟨a5, rfl, rfl, rfl, w5⟩ := open_string Try.underlying9 (hval 5 9 v5 rfl rfl) h5
  obtain ⟨a6, rfl, rfl, rfl, w6⟩ := open_string Try.underlying9 (hval 6 9 v6 rfl rfl) h6
  clear hA0 hval0
  refine (walk a0 a1 len1 cap1 a2 a3 a4 a5 a6 W w1 w3 w4 w5 w6).mono fun e W' ⟨he, bel⟩ => ?_
  subst he
  exact ⟨_, rfl, _, _, _, [], _, [], hW', trodAll_mk1 (shut_bool Try.underlying4 _), (trodAll_cons_mk (shut_bool Try.underlying4 _) (trodAll_cons_mk (Below.trod laidOut (by kernel_rfl) (of_decide_eq_true (by kernel_rfl)) k1 bel lt1) (trodAll_cons_mk (shut_int Try.underlying3 w2) (trodAll_cons_mk (shut_string Try.underlying9 w3) (trodAll_cons_mk (shut_string Try.underlying9 w4) (trodAll_cons_mk (shut_string Try.underlying9 w5) (trodAll_cons_mk (shut_string Try.underlying9 w6) trodAll_mk0))))))), rfl, bel.frame _, fun h => by cases h⟩

theorem over : Rows.fnTakesBalanceJoinedSelectorsRow.holds Try.pinned (OpenSpec.ofChange Rows.fnTakesBalanceJoinedSelectorsSpec) :=
  OpenClaim.holds_of_wide 3 Try.f3 rfl rfl rfl rfl rfl rfl rfl ⟨rfl, rfl, rfl, rfl, rfl⟩ rfl rfl rfl rfl rfl (by kernel_rfl) Try.func3 (by kernel_rfl)
    (of_decide_eq_true (by kernel_rfl)) (by unfold Func.isWrapper; first | (rw [if_pos (by decide +kernel)]; kernel_rfl) | (rw [if_neg (by decide +kernel)]; exact ⟨rfl, rfl⟩))
    (fun os started H enc _ => lifted os started H enc)

/-- THE STATEMENT -/
theorem proved : Rows.FnTakesBalanceJoinedSelectorsSaid := over
#print axioms proved
end Go.Proofs.Qxb6618693a.fnTakesBalanceJoinedSelectors
