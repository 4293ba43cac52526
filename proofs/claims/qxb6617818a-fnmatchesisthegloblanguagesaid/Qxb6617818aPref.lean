/-
  THE WALK OF kv.PrefixRange. By an AI agent.
-/
import Derived.Test.Qxb6617818aCmp
import Derived.Laws.BytesArg
namespace Go.Proofs.Qxb6617818a
open Go.RowKit

theorem Try.info5 : (Try.prog.info? 5).map (fun i => (i.zero, i.size, i.bytes)) = some (some (.int .u8 0), 1, 1) := by kernel_rfl

theorem cells2 {w : World} {b off len n : Nat} {P : Nat → Int} (hn : n ≤ len) (hb : b < w.heap.size) (hc : ∀ j, j < len → w.cell? ⟨b, off + j, none⟩ = some (.int .u8 (P j))) :
    ∀ o1 o2, ∀ j u, (((List.range n).map P).map (Value.int .u8))[j]? = some u → ((w.alloc o1).alloc o2).cell? ((⟨b, off, none⟩ : Addr).add j) = some u := by
  intro o1 o2 j u hu
  have hj : j < n := by
    have := (List.getElem?_eq_some_iff.1 hu).1
    simpa using this
  have h1 : (w.alloc o1).heap.size = w.heap.size + 1 := by show (w.heap.push o1).size = _; simp
  rw [Addr.add_lit, World.cell?_alloc_past _ _ _ (by rw [h1]; omega), World.cell?_alloc_past _ _ _ hb, hc j (by omega), ← hu]
  simp [hj]

theorem own_shape {w w1 : World} {v : Value} {n : Nat} {xs : List Value} {a0 a1 a2 a3 b0 b1 b2 b3 : Value} (h : w1.ownsRow (w.heap.size + 2) 5 1 v n xs) (hn : ¬ v = .slice none 0 0)
    (hg : ((w.alloc (.cells #[a0, a1, a2, a3] 34)).alloc (.cells #[b0, b1, b2, b3] 34)).grownBy w1 (Value.slice none 0 0).ownBlock) :
    ∃ g cap, v = .slice (some ⟨g, 0, none⟩) n cap ∧ w.heap.size + 2 ≤ g ∧
      (w1.cell? ⟨w.heap.size, 0, none⟩ = some a0 ∧ w1.cell? ⟨w.heap.size, 1, none⟩ = some a1 ∧ w1.cell? ⟨w.heap.size, 2, none⟩ = some a2 ∧ w1.cell? ⟨w.heap.size, 3, none⟩ = some a3 ∧
       w1.cell? ⟨w.heap.size + 1, 0, none⟩ = some b0 ∧ w1.cell? ⟨w.heap.size + 1, 1, none⟩ = some b1 ∧ w1.cell? ⟨w.heap.size + 1, 2, none⟩ = some b2 ∧ w1.cell? ⟨w.heap.size + 1, 3, none⟩ = some b3 ∧
       (∀ i, w1.frozen? ⟨w.heap.size, i, none⟩ = false) ∧ ∀ i, w1.frozen? ⟨w.heap.size + 1, i, none⟩ = false) := by
  obtain ⟨g, cap, hv, hb⟩ : ∃ g cap, v = .slice (some ⟨g, 0, none⟩) n cap ∧ w.heap.size + 2 ≤ g := by
    rcases h.2 with ⟨h', _⟩ | ⟨g', cap', cur, h', hb, _⟩
    · exact absurd h' hn
    · exact ⟨g', cap', h', hb⟩
  have s1 : ∀ o : Obj, (w.alloc o).heap.size = w.heap.size + 1 := fun o => by show (w.heap.push o).size = _; simp
  have s2 : ((w.alloc (.cells #[a0, a1, a2, a3] 34)).alloc (.cells #[b0, b1, b2, b3] 34)).heap.size = w.heap.size + 2 := by show ((w.heap.push _).push _).size = _; simp
  have kA := hg.block w.heap.size (by rw [s2]; omega) (by simp [Value.ownBlock])
  have kB := hg.block (w.heap.size + 1) (by rw [s2]; omega) (by simp [Value.ownBlock])
  have eA : ∀ i, w1.cell? ⟨w.heap.size, i, none⟩ = #[a0, a1, a2, a3][i]? := fun i => by
    rw [World.cell?_of_block (w := (w.alloc (.cells #[a0, a1, a2, a3] 34)).alloc (.cells #[b0, b1, b2, b3] 34)) (a := ⟨w.heap.size, i, none⟩) kA, World.cell?_alloc_past _ _ _ (by rw [s1]; omega), World.cell?_alloc_at _ _ _ _ rfl]
  have eB : ∀ i, w1.cell? ⟨w.heap.size + 1, i, none⟩ = #[b0, b1, b2, b3][i]? := fun i => by
    rw [World.cell?_of_block (w := (w.alloc (.cells #[a0, a1, a2, a3] 34)).alloc (.cells #[b0, b1, b2, b3] 34)) (a := ⟨w.heap.size + 1, i, none⟩) kB, World.cell?_alloc_at _ _ _ _ (s1 _).symm]
  have fA : ∀ i, w1.frozen? ⟨w.heap.size, i, none⟩ = false := fun i => by
    rw [World.frozen?_of_block (w := (w.alloc (.cells #[a0, a1, a2, a3] 34)).alloc (.cells #[b0, b1, b2, b3] 34)) (a := ⟨w.heap.size, i, none⟩) kA, World.frozen?_alloc_past _ _ _ (by rw [s1]; omega), World.frozen?_alloc_at _ _ _ _ rfl]
  have fB : ∀ i, w1.frozen? ⟨w.heap.size + 1, i, none⟩ = false := fun i => by
    rw [World.frozen?_of_block (w := (w.alloc (.cells #[a0, a1, a2, a3] 34)).alloc (.cells #[b0, b1, b2, b3] 34)) (a := ⟨w.heap.size + 1, i, none⟩) kB, World.frozen?_alloc_at _ _ _ _ (s1 _).symm]
  exact ⟨g, cap, hv, hb, eA 0, eA 1, eA 2, eA 3, eB 0, eB 1, eB 2, eB 3, fA, fB⟩

theorem row_cells' {w : World} {base g n cap : Nat} {l : List Int} (h : w.ownsRow base 5 1 (.slice (some ⟨g, 0, none⟩) n cap) n (l.map (Value.int .u8))) : ∀ j, j < n → w.cell? ⟨g, 0 + j, none⟩ = some (.int .u8 (l.getD j 0)) := by
  intro j hj
  have hl : l.length = n := by have := h.1; simpa using this
  rw [Nat.zero_add, h.cellAt j (by omega)]
  simp [List.getD, show j < l.length by omega]
theorem conv_own {w : World} {base g n cap : Nat} {l : List Int} (h : w.ownsRow base 5 1 (.slice (some ⟨g, 0, none⟩) n cap) n (l.map (Value.int .u8))) :
    (convert 22 9 (.slice (some ⟨g, 0, none⟩) n cap)).run Try.prog w = .ok (.string (strOfNums l)) w :=
  run_convert_bytes_arg w 22 5 Try.underlying22 Try.underlying5 g 0 n cap l (by have := h.1; simpa using this) (row_cells' h) 9 Try.underlying9
theorem conv_stored {w : World} {base g m cap : Nat} {P : Nat → Int} (h : w.ownsRow base 5 1 (.slice (some ⟨g, 0, none⟩) (m + 1) cap) (m + 1) (((List.range (m + 1)).map P).map (Value.int .u8))) :
    (convert 22 9 (.slice (some ⟨g, 0, none⟩) (m + 1) cap)).run Try.prog (w.setCell ⟨g, m, none⟩ (.int .u8 (P m + 1))) = .ok (.string (strOfNums ((List.range m).map P ++ [P m + 1]))) (w.setCell ⟨g, m, none⟩ (.int .u8 (P m + 1))) := by
  have h2 := h.stored m (.int .u8 (P m + 1))
  refine conv_own (base := base) ?_
  have e : ((List.range m).map P ++ [P m + 1]).map (Value.int .u8) = ((((List.range (m + 1)).map P).map (Value.int .u8)).set m (.int .u8 (P m + 1))) := by
    rw [List.range_succ]
    simp
  rw [e]
  exact h2.1

theorem bl2 {w : World} (o1 o2 : Obj) : Below w.heap.size w ((w.alloc o1).alloc o2) := ((Below.refl _ _).alloc (Nat.le_refl _) _).alloc (by show _ ≤ (w.heap.push o1).size; simp) _

set_option maxRecDepth 100000 in
set_option maxHeartbeats 1000000 in
theorem pref_walk (b off len cap : Nat) (P : Nat → Int) (S : ByteArray) (w : World) (hl : len ≤ 4096) (hlc : len ≤ cap) (hb : 0 < len → b < w.heap.size)
    (hc : ∀ j, j < len → w.cell? ⟨b, off + j, none⟩ = some (.int .u8 (P j))) (hr : ∀ j, 0 ≤ P j ∧ P j ≤ 255)
    (hconv : ∀ o, (convert 22 9 (.slice (some ⟨b, off, none⟩) len cap)).run Try.prog (w.alloc o) = .ok (.string S) (w.alloc o)) :
    Calls Try.prog 20 #[.slice (some ⟨b, off, none⟩) len cap] w fun e w' => ∃ E : Nat, E ≤ len ∧ (∀ j, E ≤ j → j < len → P j = 255) ∧ (0 < E → P (E - 1) ≠ 255) ∧ Below w.heap.size w w' ∧
      ((E = 0 ∧ e = .returned (.agg #[.int .i64 2, .string S, .int .i64 1, .string ⟨#[]⟩])) ∨ (0 < E ∧ e = .returned (.agg #[.int .i64 2, .string S, .int .i64 3, .string (strOfNums (((List.range (E - 1)).map P) ++ [P (E - 1) + 1]))]))) := by
  obtain ⟨i0, hi, hz0, hz1, hz2⟩ := info_parts Try.info5
  go_enter Try.func20, Try.ntmps20
  go_wp2_with fail
  go_loop [4] (fun s4 => ∃ E : Nat, E ≤ len ∧ s4 = .int .i64 E ∧ Hid (∀ j, E ≤ j → j < len → P j = 255)) (fun s4 => (intOf s4).toNat)
  case atStart => exact ⟨len, Nat.le_refl _, rfl, fun j h1 h2 => absurd h2 (by omega)⟩
  case round =>
    obtain ⟨E, hE, rfl, HE⟩ := hrel
    by_cases h0 : 0 < E
    · have i0' : (0 : Int) < (E : Int) := by omega
      obtain ⟨m, rfl⟩ : ∃ m, E = m + 1 := ⟨E - 1, by omega⟩
      have hbw := hb (by omega)
      have cE := hc m (by omega)
      have hm : m < len := by omega
      have hm' : ((m + 1 : Nat) : Int) - 1 = (m : Int) := by omega
      by_cases h255 : P m = 255
      · have t1 : (P m == 255) = true := by simp [h255]
        have HN : Hid (∀ j, m ≤ j → j < len → P j = 255) := fun j h1 h2 => by
          by_cases e : j = m
          · rw [e]; exact h255
          · exact HE.out j (by omega) h2
        clear h255
        go_wp2_with fail
        go_round
        case rel => exact ⟨m, by omega, by go_num, HN⟩
        case measure => simp [intOf]
      · have t1 : (P m == 255) = false := by simp [h255]
        have H255 : Hid (P m ≠ 255) := h255
        clear h255
        have hrm := hr m
        have hr254 : P m ≤ 254 := by have := H255.out; omega
        have Hcs : Hid _ := cells2 (n := m + 1) (by omega) hbw hc
        have Hc : Hid _ := hc
        clear hc
        go_wp2_with (at_builtin; go_must (refine wpList_append_own _ rfl (.const (.slice none 0 0)) (.tmp 29) 22 rfl (w.heap.size + 2) 5 i0 (.int .u8 0) 1 1 Try.underlying22 hi hz0 hz1 hz2 rfl (by decide) _ _ _ rfl (World.ownsRow_nil _ _ _ _) ⟨b, off, none⟩ (m + 1) _ (((List.range (m + 1)).map P).map (Value.int .u8)) rfl (by simp) (Hcs.out _ _) (ints_oneCell _ _) (by unfold maxLen; omega) (by omega) (by simp) ?_))
        intro v1 w1 own1 gr1 hnn
        have own1' : w1.ownsRow (w.heap.size + 2) 5 1 v1 (m + 1) ((((List.range (m + 1)).map P)).map (Value.int .u8)) := by
          have e : (((List.range (m + 1)).map P)).map (Value.int .u8) = List.map (Value.int IntKind.u8 ∘ P) (List.range m) ++ [Value.int IntKind.u8 (P m)] := by simp [List.range_succ]
          rw [e]; exact own1
        obtain ⟨g, cap1, rfl, hg, hB⟩ := own_shape own1' hnn gr1
        have cg := own1'.cellAt m (by omega)
        have fg := own1'.frozenAt m
        obtain ⟨cA0, cA1, cA2, cA3, cB0, cB1, cB2, cB3, fA, fB⟩ := hB
        have hgA : w.heap.size ≠ g := by omega
        have hgB : w.heap.size + 1 ≠ g := by omega
        rw [show (List.map (Value.int .u8) ((List.range (m + 1)).map P))[m]? = some (.int .u8 (P m)) from by simp] at cg
        have hcv := conv_stored own1'
        have HG : Hid _ := gr1
        clear own1 own1' gr1 hnn
        go_wp2_with fail
        refine bodyPost_ret (v := .agg #[.int .i64 2, .string S, .int .i64 3, .string (strOfNums (((List.range m).map P) ++ [P m + 1]))]) ?_ rfl ?_
        · simp [results, Try.results20, go_sem, cA0, cA1, cA2, cA3]
        · refine ⟨m + 1, hE, HE.out, fun _ => H255.out, ?_, .inr ⟨by omega, rfl⟩⟩
          exact ((((((((bl2 _ _).grown HG.out (by simp; omega) (fun k h => by cases h)).setCell (by simp; omega) _).setCell (by simp) _).setCell (by simp) _).setCell (by simp) _).setCell (by simp) _).setCell (by simp) _).setCell (by simp) _
    · obtain rfl : E = 0 := by omega
      go_wp2_with fail
      refine bodyPost_ret (v := .agg #[.int .i64 2, .string S, .int .i64 1, .string ⟨#[]⟩]) ?_ rfl ?_
      · simp [results, Try.results20, go_sem]
      · refine ⟨0, hE, HE.out, fun h => by omega, ?_, .inl ⟨rfl, rfl⟩⟩
        exact bl2 _ _

/-- a nil prefix -/
theorem pref_nil (w : World) : Calls Try.prog 20 #[.slice none 0 0] w fun e w' => e = .returned (.agg #[.int .i64 2, .string ByteArray.empty, .int .i64 1, .string ⟨#[]⟩]) ∧ Below w.heap.size w w' := by
  have hconv : ∀ o, (convert 22 9 (.slice none 0 0)).run Try.prog (w.alloc o) = .ok (.string ByteArray.empty) (w.alloc o) := fun o => run_convert_bytes_nil _ 22 5 Try.underlying22 Try.underlying5 0 0 9 Try.underlying9
  go_enter Try.func20, Try.ntmps20
  go_wp2_with fail
  go_loop [4] (fun s4 => s4 = .int .i64 0) (fun _ => 0)
  case atStart => rfl
  case round =>
    subst hrel
    go_wp2_with fail
    refine bodyPost_ret (v := .agg #[.int .i64 2, .string ByteArray.empty, .int .i64 1, .string ⟨#[]⟩]) ?_ rfl ?_
    · simp [results, Try.results20, go_sem]
    · exact ⟨rfl, bl2 _ _⟩

end Go.Proofs.Qxb6617818a
