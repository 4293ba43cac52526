/-
  THE WALK OF FnMatchClassCaretNegates. By an AI agent.
-/
import Derived.Test.Qxb6617818aClass
namespace Go.Proofs.Qxb6617818a
open Go.RowKit

theorem Try.info5 : (Try.prog.info? 5).map (fun i => (i.zero, i.size, i.bytes)) = some (some (.int .u8 0), 1, 1) := by kernel_rfl

theorem bytes17_yes (a : Option Addr) (len cap : Nat) (c : Int) (w : World) (h : len ≤ 1048576) :
    Calls Try.prog 17 #[.slice a len cap, .int .u8 c] w fun e w' => e = .returned (.bool true) ∧ w = w' := by
  go_enter Try.func17, Try.ntmps17
  go_wp2
  go_ret
  exact ⟨rfl, rfl⟩

theorem bytes17_no (a : Option Addr) (len cap : Nat) (c : Int) (w : World) (h : 1048576 < len) :
    Calls Try.prog 17 #[.slice a len cap, .int .u8 c] w fun e w' => e = .returned (.bool false) ∧ w = w' := by
  go_enter Try.func17, Try.ntmps17
  go_wp2
  go_ret
  exact ⟨rfl, rfl⟩

theorem zzMatchClass_any (b off len cap : Nat) (x0 : Int) (r : List Int) (c : Int) (w : World) (hp : r.length + 1 = len) (hm : len ≤ 100000)
    (hc : ∀ j, j < len → w.cell? ⟨b, off + j, none⟩ = some (.int .u8 ((x0 :: r).getD j 0))) :
    Calls Try.prog 18 #[.slice (some ⟨b, off, none⟩) len cap, .int .u8 c] w fun e w' => e = .returned (.tuple #[.bool (mcl c r).1, .int .i64 (mcl c r).2]) ∧ ∃ n, w' = w.drewN n := by
  go_enter Try.func18, Try.ntmps18
  go_wp2_with (go_at_call 26; go_must (refine (matchClass_any b off len cap x0 r c w hp hm hc).mono ?_; rintro e w' ⟨rfl, n, rfl⟩))
  go_ret2
  exact ⟨rfl, _, rfl⟩

/-- too long: true -/
theorem caret_long (a : Option Addr) (len cap : Nat) (c : Int) (w : World) (h : 4096 < len) :
    Calls Try.prog 5 #[.slice a len cap, .int .u8 c] w fun e w' => e = .returned (.bool true) ∧ Below w.heap.size w w' := by
  by_cases h2 : len ≤ 1048576
  · go_enter Try.func5, Try.ntmps5
    go_wp2_with (go_at_call 17; refine (bytes17_yes _ _ _ _ _ h2).mono ?_; rintro e w' ⟨rfl, rfl⟩)
    go_ret
    exact ⟨rfl, Below.refl _ _⟩
  · go_enter Try.func5, Try.ntmps5
    go_wp2_with (go_at_call 17; refine (bytes17_no _ _ _ _ _ (by omega)).mono ?_; rintro e w' ⟨rfl, rfl⟩)
    go_ret
    exact ⟨rfl, Below.refl _ _⟩

/-- it begins with a caret: true -/
theorem caret_caret (b off len cap : Nat) (c : Int) (w : World) (h : len ≤ 4096) (h0 : 0 < len) (hc : w.cell? ⟨b, off, none⟩ = some (.int .u8 94)) :
    Calls Try.prog 5 #[.slice (some ⟨b, off, none⟩) len cap, .int .u8 c] w fun e w' => e = .returned (.bool true) ∧ Below w.heap.size w w' := by
  go_enter Try.func5, Try.ntmps5
  go_wp2_with (go_at_call 17; refine (bytes17_yes _ _ _ _ _ (by omega)).mono ?_; rintro e w' ⟨rfl, rfl⟩)
  go_ret
  exact ⟨rfl, Below.refl _ _⟩

theorem cells_later {w w' : World} {a : Option Addr} {r : List Value} (hb : Below w.heap.size w w') (h : ∀ ad, a = some ad → ∀ j u, r[j]? = some u → w.cell? (ad.add j) = some u) :
    ∀ ad, a = some ad → ∀ j u, r[j]? = some u → w'.cell? (ad.add j) = some u := fun ad ha j u hu => cell_later hb (h ad ha j u hu)

theorem row_cells {w : World} {base g n cap : Nat} {l : List Int} (h : w.ownsRow base 5 1 (.slice (some ⟨g, 0, none⟩) n cap) n (l.map (Value.int .u8))) : ∀ j, j < n → w.cell? ⟨g, 0 + j, none⟩ = some (.int .u8 (l.getD j 0)) := by
  intro j hj
  have hl : l.length = n := by have := h.1; simpa using this
  rw [Nat.zero_add, h.cellAt j (by omega)]
  simp [List.getD, show j < l.length by omega]

theorem ret_bool {x y : Bool} (h : x = y) : Ending.returned (.bool x) = .returned (.bool y) := by rw [h]

/-- the main way -/
theorem caret_main (a : Option Addr) (len cap : Nat) (r : List Int) (c : Int) (w : World) (h : len ≤ 4096) (hr : Hid (r.length = len)) (hn : Hid (a = none → len = 0 ∧ cap = 0))
    (hhd : Hid (r.head? ≠ some 94)) (hcells : Hid (∀ ad, a = some ad → ∀ j u, (r.map (Value.int .u8))[j]? = some u → w.cell? (ad.add j) = some u))
    (hcar : (¬ (0 : Int) < (len : Int)) ∨ (∃ b off x, a = some ⟨b, off, none⟩ ∧ 0 < len ∧ w.cell? ⟨b, off, none⟩ = some (.int .u8 x) ∧ (x == 94) = false)) :
    Calls Try.prog 5 #[.slice a len cap, .int .u8 c] w fun e w' => e = .returned (.bool true) ∧ Below w.heap.size w w' := by
  obtain ⟨i0, hi, hz0, hz1, hz2⟩ := info_parts Try.info5
  rcases hcar with h0 | ⟨b, off, x, rfl, h0, hcx, hx94⟩
  all_goals
    go_enter Try.func5, Try.ntmps5
    go_wp2_with (first | (go_at_call 17; refine (bytes17_yes _ _ _ _ _ (by omega)).mono ?_; rintro e w' ⟨rfl, rfl⟩) | (at_make; go_must (refine wpList_make_own _ rfl (.const (.int .i64 0)) (.tmp 29) 22 rfl w.heap.size 5 i0 (.int .u8 0) 1 Try.underlying22 hi hz0 hz1 _ _ _ (len + 1) rfl rfl (by omega) (by rw [hz2]; omega) (by unfold maxLen; omega) (Nat.le_refl _) ?_)))
    intro w1 own1 gr1
    have bl1 : Below w.heap.size w w1 := (Below.refl _ _).grown gr1 (Nat.le_refl _) (fun k h => by cases h)
    have sz1 := bl1.size
    have lt1 : w.heap.size < w1.heap.size := (own1.lt _ rfl).2
    go_wp2_with (at_builtin; go_must (refine wpList_append_fits _ rfl (.tmp 31) (.tmp 32) 22 rfl w.heap.size 5 i0 1 Try.underlying22 hi hz1 w.heap.size 0 (len + 1) [] rfl (own1.alloc _) ⟨w1.heap.size, 0, none⟩ 1 1 [.int .u8 91] rfl rfl (cell_one_new _ _ _) (ints_oneCell _ [91]) (by omega) ?_))
    intro w2 own2 gr2
    have bl2 : Below w.heap.size w w2 := (bl1.alloc sz1 _).grown gr2 (by simp; omega) (fun k h => by cases h; exact Nat.le_refl _)
    have sz2 := bl2.size
    clear own1 gr1 gr2
    go_wp2_with (at_builtin; go_must (refine wpList_append_fits_any _ rfl (.tmp 34) (.tmp 35) 22 rfl w.heap.size 5 i0 1 Try.underlying22 hi hz1 w.heap.size 1 (len + 1) [.int .u8 91] rfl own2 _ len cap (r.map (Value.int .u8)) rfl (by rw [List.length_map, hr.out, Nat.mul_one]) hn.out (cells_later bl2 hcells.out) (ints_oneCell _ _) (by omega) ?_))
    intro w3 own3 gr3
    have bl3 : Below w.heap.size w w3 := bl2.grown gr3 sz2 (fun k h => by cases h; exact Nat.le_refl _)
    have sz3 := bl3.size
    have lt3 : w.heap.size < w3.heap.size := (own3.lt _ rfl).2
    clear own2 gr3
    go_wp2_with (at_make; go_must (refine wpList_make_own _ rfl (.const (.int .i64 0)) (.tmp 39) 22 rfl w.heap.size 5 i0 (.int .u8 0) 1 Try.underlying22 hi hz0 hz1 _ _ _ (len + 2) rfl rfl (by omega) (by rw [hz2]; omega) (by unfold maxLen; omega) sz3 ?_))
    intro w4 own4 gr4
    have bl4 : Below w.heap.size w w4 := bl3.grown gr4 sz3 (fun k h => by cases h)
    have sz4 := bl4.size
    have ow4 := own3.kept gr4 (.inr (by simp [Value.ownBlock]))
    clear own3 gr4
    go_wp2_with (at_builtin; go_must (refine wpList_append_fits _ rfl (.tmp 41) (.tmp 42) 22 rfl w.heap.size 5 i0 1 Try.underlying22 hi hz1 w3.heap.size 0 (len + 2) [] rfl (own4.alloc _) ⟨w4.heap.size, 0, none⟩ 1 1 [.int .u8 91] rfl rfl (cell_one_new _ _ _) (ints_oneCell _ [91]) (by omega) ?_))
    intro w5 own5 gr5
    have bl5 : Below w.heap.size w w5 := (bl4.alloc sz4 _).grown gr5 (by simp; omega) (fun k h => by cases h; exact sz3)
    have sz5 := bl5.size
    have ow5 := (ow4.alloc _).kept gr5 (.inr (by simp [Value.ownBlock]; omega))
    clear own4 gr5 ow4
    go_wp2_with (at_builtin; go_must (refine wpList_append_fits _ rfl (.tmp 44) (.tmp 45) 22 rfl w.heap.size 5 i0 1 Try.underlying22 hi hz1 w3.heap.size 1 (len + 2) [.int .u8 91] rfl (own5.alloc _) ⟨w5.heap.size, 0, none⟩ 1 1 [.int .u8 94] rfl rfl (cell_one_new _ _ _) (ints_oneCell _ [94]) (by omega) ?_))
    intro w6 own6 gr6
    have bl6 : Below w.heap.size w w6 := (bl5.alloc sz5 _).grown gr6 (by simp; omega) (fun k h => by cases h; exact sz3)
    have sz6 := bl6.size
    have ow6 := (ow5.alloc _).kept gr6 (.inr (by simp [Value.ownBlock]; omega))
    clear own5 gr6 ow5
    go_wp2_with (at_builtin; go_must (refine wpList_append_fits_any _ rfl (.tmp 47) (.tmp 48) 22 rfl w.heap.size 5 i0 1 Try.underlying22 hi hz1 w3.heap.size 2 (len + 2) [.int .u8 91, .int .u8 94] rfl own6 _ len cap (r.map (Value.int .u8)) rfl (by rw [List.length_map, hr.out, Nat.mul_one]) hn.out (cells_later bl6 hcells.out) (ints_oneCell _ _) (by omega) ?_))
    intro w7 own7 gr7
    have bl7 : Below w.heap.size w w7 := bl6.grown gr7 sz6 (fun k h => by cases h; exact sz3)
    have sz7 := bl7.size
    have ow7 := ow6.kept gr7 (.inr (by simp [Value.ownBlock]; omega))
    clear own6 gr7 ow6
    obtain ⟨hm2, hm1, hm3⟩ := mcl_caret c r hhd.out
    have K1 := zzMatchClass_any w.heap.size 0 (1 + len) (len + 1) 91 r c w7 (by rw [hr.out]; omega) (by omega) (row_cells (l := 91 :: r) ow7)
    have K2 : ∀ n, _ := fun n => zzMatchClass_any w3.heap.size 0 (2 + len) (len + 2) 91 (94 :: r) c (w7.drewN n) (by rw [List.length_cons, hr.out]; omega) (by omega) (fun j hj => (World.cell?_drewN _ _ _).trans (row_cells (l := 91 :: 94 :: r) own7 j hj))
    rw [hm2] at K2
    rw [hr.out] at hm3
    clear hm2 own7 ow7
    generalize (mcl c r).1 = B at *
    generalize (mcl c r).2 = N at *
    have HK1 : Hid _ := K1
    have HK2 : Hid _ := K2
    clear K1 K2
    cases B
    all_goals
      go_wp2_with fail
      go_must (refine Calls.mono (Hid.out HK1) ?_)
      rintro e w8 ⟨rfl, n8, rfl⟩
      go_wp2_with fail
      go_must (refine Calls.mono (Hid.out HK2 _) ?_)
      rintro e w9 ⟨rfl, n9, rfl⟩
      go_wp2_with fail
      go_ret
      exact ⟨ret_bool (decide_eq_true (by omega)), ⟨bl7.os, bl7.tape, bl7.output, bl7.size, bl7.block⟩⟩

end Go.Proofs.Qxb6617818a
