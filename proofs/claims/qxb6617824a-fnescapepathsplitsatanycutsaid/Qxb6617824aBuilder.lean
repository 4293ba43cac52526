/-
  strings.Builder's copyCheck AND WriteByte OVER THIS PROGRAM: walked here, after the shelf's own walk (Derived/Shelf/Strings/Builder1.lean), at this dump's numbers: the shelf's laying fell at copyCheck, whose body has another last arm in this dump. By an AI agent.
-/
import Derived.Test.Qxb6617824aRows
import Derived.Test.Qxb6617824aShelf
import Derived.WalkKit
import Derived.WalkSpells
import Derived.WalkLawsBesides
import Derived.Lib.Builder
import Derived.Laws.Externs
namespace Go.Proofs.Qxb6617824a
open Go.RowKit

theorem sizeBuilder : (Try.prog.info? 31).map (·.size) = some 2 := by kernel_rfl
theorem liesBuilder : liesAt Try.prog Try.prog.depth 31 (2 / Try.prog.cellsOf 31) 0 31 1 = true := by kernel_rfl
theorem infoByte : (Try.prog.info? 5).map (fun i => (i.zero, i.size, i.bytes)) = some (some (.int .u8 0), 1, 1) := by kernel_rfl

/-- the builder's address turned to the bare pointer type, and back: as it is -/
theorem conv_to (b : Nat) (w : World) (hsh : w.shape? b = some (31, 2)) :
    (convert 28 38 (.pointer (some ⟨b, 0, none⟩))).run Try.prog w = .ok (.pointer (some ⟨b, 0, none⟩)) w := by
  obtain ⟨j, hj, hjs⟩ := Option.map_eq_some_iff.1 sizeBuilder
  simp only [convert, Sem.run_bind, run_underlying Try.underlying28, run_underlying Try.underlying38, Result.andThen]
  change Sem.run Try.prog (_ >>= _) w = _
  simp [run_underlying Try.underlying28, run_underlying Try.underlying38, Conv.seenAt, viewAt, cellsIn, hsh, sizeOf, typeInfo, hj, hjs]
theorem conv_from (b : Nat) (w : World) (hsh : w.shape? b = some (31, 2)) :
    (convert 38 28 (.pointer (some ⟨b, 0, none⟩))).run Try.prog w = .ok (.pointer (some ⟨b, 0, none⟩)) w := by
  obtain ⟨j, hj, hjs⟩ := Option.map_eq_some_iff.1 sizeBuilder
  simp only [convert, Sem.run_bind, run_underlying Try.underlying28, run_underlying Try.underlying38, Result.andThen]
  change Sem.run Try.prog (_ >>= _) w = _
  simp [run_underlying Try.underlying28, run_underlying Try.underlying38, Conv.seenAt, viewAt, variablesAt, liesBuilder, hsh, sizeOf, typeInfo, hj, hjs]

set_option maxHeartbeats 1000000 in
set_option maxRecDepth 100000 in
theorem copyCheck_used (b : Nat) (w : World) (h0 : w.cell? ⟨b, 0, none⟩ = some (.pointer (some ⟨b, 0, none⟩))) :
    Calls Try.prog 14 #[.pointer (some ⟨b, 0, none⟩)] w fun e w' => e = .returned (.tuple #[]) ∧ w = w' := by
  obtain ⟨j, hj, _⟩ := Option.map_eq_some_iff.1 sizeBuilder
  have hne := fun wx => Lib.run_neq_ptr_same (P := Try.prog) wx ⟨b, 0, none⟩ Try.underlying28 hj
  go_enter Try.func14, Try.ntmps14
  go_wp2
  go_end0
  exact ⟨rfl, rfl⟩

set_option maxHeartbeats 1000000 in
set_option maxRecDepth 100000 in
theorem copyCheck_fresh (b : Nat) (w : World) (h0 : w.cell? ⟨b, 0, none⟩ = some (.pointer none)) (hsh : w.shape? b = some (31, 2)) (hfz : w.frozen? ⟨b, 0, none⟩ = false) :
    Calls Try.prog 14 #[.pointer (some ⟨b, 0, none⟩)] w fun e w' => e = .returned (.tuple #[]) ∧ w.setCell ⟨b, 0, none⟩ (.pointer (some ⟨b, 0, none⟩)) = w' := by
  obtain ⟨j, hj, _⟩ := Option.map_eq_some_iff.1 sizeBuilder
  have hne := fun wx => Lib.run_neq_ptr_same (P := Try.prog) wx ⟨b, 0, none⟩ Try.underlying28 hj
  have hto := conv_to b w hsh
  have hfrom := conv_from b w hsh
  go_enter Try.func14, Try.ntmps14
  go_wp2
  rw [run_callFunc_extern Try.func15 (by kernel_rfl) (by kernel_rfl) (by kernel_rfl) (e := Extern.AbiNoEscape.same) (by kernel_rfl)]
  rw [Lib.run_noEscape]
  simp only [Result.andThen]
  rw [Oper.upon_value]
  go_wp2
  go_end0
  exact ⟨rfl, rfl⟩

theorem copyCheck_any (B b : Nat) (bs : List Value) (w : World) (h : Lib.IsBuilder 31 5 B b bs w) :
    Calls Try.prog 14 #[.pointer (some ⟨b, 0, none⟩)] w fun e w' => e = .returned (.tuple #[]) ∧ (Lib.BuilderAt 31 5 B b (.pointer (some ⟨b, 0, none⟩)) bs w' ∧ Below B w w') := by
  rcases h with h | h
  · refine (copyCheck_fresh b w h.cell0 h.shape h.frozen0).mono ?_
    rintro e w' ⟨rfl, rfl⟩
    exact ⟨rfl, h.used _, (Below.refl B w).setCell (p := ⟨b, 0, none⟩) h.1 _⟩
  · refine (copyCheck_used b w h.cell0).mono ?_
    rintro e w' ⟨rfl, rfl⟩
    exact ⟨rfl, h, Below.refl B _⟩

set_option maxHeartbeats 2000000 in
set_option maxRecDepth 100000 in
theorem writeByte_any (B b : Nat) (bs : List Value) (c : Int) (w : World) (h : Lib.IsBuilder 31 5 B b bs w) (hlen : bs.length + 1 ≤ 140737488355328) (hBw : B ≤ w.heap.size) :
    Calls Try.prog 12 #[.pointer (some ⟨b, 0, none⟩), .int .u8 c] w fun e w' => e = .returned .nilIface ∧ (Lib.BuilderAt 31 5 B b (.pointer (some ⟨b, 0, none⟩)) (bs ++ [.int .u8 c]) w' ∧ Below B w w') := by
  obtain ⟨i0, hi, hz0, hz1, hz2⟩ := info_parts infoByte
  go_enter Try.func12, Try.ntmps12
  go_wp2_with (go_at_call 14; refine (copyCheck_any B b bs _ h).mono ?_)
  rintro e w1 ⟨rfl, h1, hb1⟩
  obtain ⟨hB, v, hbk, hown, hne⟩ := h1
  have c0 : w1.cell? ⟨b, 0, none⟩ = some (.pointer (some ⟨b, 0, none⟩)) := by rw [Lib.cell_of_heap hbk]; rfl
  have c1 : w1.cell? ⟨b, 1, none⟩ = some v := by rw [Lib.cell_of_heap hbk]; rfl
  have sz1 := hb1.size
  have hlt : b < w1.heap.size := by
    rcases Nat.lt_or_ge b w1.heap.size with h' | h'
    · exact h'
    · simp [Array.getElem?_eq_none h'] at hbk
  go_wp2_with (at_builtin; go_must (refine wpList_append_own _ rfl (.tmp 11) (.tmp 13) 29 rfl B 5 i0 (.int .u8 0) 1 1 Try.underlying29 hi hz0 hz1 hz2 rfl (by decide) _ _ _ rfl (hown.alloc _) ⟨w1.heap.size, 0, none⟩ 1 1 [.int .u8 c] rfl rfl (cell_one_new _ _ _) (ints_oneCell _ [c]) (by unfold maxLen; omega) (by omega) (by simp; omega) ?_))
  intro v' w2 hown' hgrow _
  have hb2 : w2.heap[b]? = some (.cells #[.pointer (some ⟨b, 0, none⟩), v] 31 (0, 0)) := by
    rw [hgrow.block b (by simp; omega) (fun e => hne e.symm), Lib.alloc_old w1 _ b hlt]
    exact hbk
  have d0 : w2.cell? ⟨b, 0, none⟩ = some (.pointer (some ⟨b, 0, none⟩)) := by rw [Lib.cell_of_heap hb2]; rfl
  have d1 : w2.cell? ⟨b, 1, none⟩ = some v := by rw [Lib.cell_of_heap hb2]; rfl
  have f1 : w2.frozen? ⟨b, 1, none⟩ = false := Lib.frozen_of_heap hb2 1
  have bl2 : Below B w w2 := (hb1.alloc (by omega) _).grown hgrow (by simp; omega) (fun k hk => (hown.lt k hk).1)
  have hres : Lib.BuilderAt 31 5 B b (.pointer (some ⟨b, 0, none⟩)) (bs ++ [.int .u8 c]) (w2.setCell ⟨b, 1, none⟩ v') := Lib.BuilderAt.put hB hb2 (by simpa using hown') (by decide)
  obtain ⟨g, cap, rfl⟩ : ∃ g cap, v' = .slice (some ⟨g, 0, none⟩) (bs.length + 1) cap := by
    rcases hown'.2 with ⟨_, h0⟩ | ⟨g, cap, cur, hv, _⟩
    · omega
    · exact ⟨g, cap, hv⟩
  have HR : Hid (Lib.BuilderAt 31 5 B b (.pointer (some ⟨b, 0, none⟩)) (bs ++ [.int .u8 c]) (w2.setCell ⟨b, 1, none⟩ (.slice (some ⟨g, 0, none⟩) (bs.length + 1) cap))) := hres
  have HB2 : Hid (Below B w w2) := bl2
  clear hres bl2 hown' hgrow hown hbk hb2
  go_wp2
  go_ret
  exact ⟨rfl, HR.out, HB2.out.setCell (p := ⟨b, 1, none⟩) hB _⟩

end Go.Proofs.Qxb6617824a
