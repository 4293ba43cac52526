/-
  THE WALKS OF zzEscaped, zzHasSuffix, zzContains AND OF FnMatchesEscapedTextLiterally. By an AI agent.
-/
import Derived.Test.Qxb6617818aMatch
import Derived.Test.Qxb6617818aEsc
import Derived.Test.Qxb6617818aCmp
import Derived.Lib.IndexBytes
namespace Go.Proofs.Qxb6617818a
open Go.RowKit

theorem Try.info5' : (Try.prog.info? 5).map (fun i => (i.zero, i.size, i.bytes)) = some (some (.int .u8 0), 1, 1) := by kernel_rfl

theorem bytes11_yes (s t : ByteArray) (w : World) (h : s.size ≤ 4096) (h' : t.size ≤ 4096) :
    Calls Try.prog 11 #[.string s, .string t] w fun e w' => e = .returned (.bool true) ∧ w = w' := by
  go_enter Try.func11, Try.ntmps11
  go_wp2
  go_ret
  exact ⟨rfl, rfl⟩
theorem bytes11_any (s t : ByteArray) (w : World) (hm : s.size ≤ maxLen) (hm' : t.size ≤ maxLen) :
    Calls Try.prog 11 #[.string s, .string t] w fun e w' => (∃ b, e = .returned (.bool b)) ∧ w = w' := by
  unfold maxLen at hm hm'
  go_enter Try.func11, Try.ntmps11
  go_wp2
  all_goals
    go_ret
    exact ⟨⟨_, rfl⟩, rfl⟩
theorem esc_long (s t : ByteArray) (w : World) (hm : s.size ≤ maxLen) (hm' : t.size ≤ maxLen) (h : 4096 < s.size ∨ 4096 < t.size) :
    Calls Try.prog 4 #[.string s, .string t] w fun e w' => e = .returned (.bool true) ∧ Below w.heap.size w w' := by
  have HK : Hid (Calls Try.prog 11 #[.string s, .string t] w fun e w' => (∃ b, e = .returned (.bool b)) ∧ w = w') := bytes11_any s t w hm hm'
  rcases h with h | h
  · have hd : decide ((4096 : Int) < (s.size : Int)) = true := decide_eq_true (by omega)
    go_enter Try.func4, Try.ntmps4
    go_wp2_with fail
    refine Calls.mono (Hid.out HK) ?_
    rintro e w' ⟨⟨b, rfl⟩, rfl⟩
    cases b
    all_goals
      go_wp2_with fail
      go_ret
      exact ⟨rfl, Below.refl _ _⟩
  · have hd : decide ((4096 : Int) < (t.size : Int)) = true := decide_eq_true (by omega)
    by_cases h1 : 4096 < s.size
    all_goals
      go_enter Try.func4, Try.ntmps4
      go_wp2_with fail
      refine Calls.mono (Hid.out HK) ?_
      rintro e w' ⟨⟨b, rfl⟩, rfl⟩
      cases b
      all_goals
        go_wp2_with fail
        go_ret
        exact ⟨rfl, Below.refl _ _⟩

/-! ### zzEscaped -/
theorem nums_take_succ (s : ByteArray) (k : Nat) (h : k < s.size) : (nums s).take (k + 1) = (nums s).take k ++ [(s[k].toNat : Int)] := by
  rw [List.take_succ_eq_append_getElem (by rw [nums_length]; exact h)]
  have := nums_getD s k h
  simp only [List.getD, List.getElem?_eq_getElem (show k < (nums s).length by rw [nums_length]; exact h), Option.getD_some] at this
  rw [this]

def escHead (lead : Bool) : List Int := if lead then [42] else []

set_option maxRecDepth 100000 in
set_option maxHeartbeats 2000000 in
theorem escaped_any (s : ByteArray) (lead tail : Bool) (w : World) (hs : s.size ≤ 4096) :
    Calls Try.prog 12 #[.string s, .bool lead, .bool tail] w fun e w' => ∃ n, n ≤ 2 * s.size + 2 ∧ e = .returned (.slice (some ⟨w.heap.size, 0, none⟩) n (2 * s.size + 2)) ∧
      w'.ownsRow w.heap.size 5 1 (.slice (some ⟨w.heap.size, 0, none⟩) n (2 * s.size + 2)) n ((escL (nums s) lead tail).map (Value.int .u8)) ∧ Below w.heap.size w w' := by
  obtain ⟨i0, hi, hz0, hz1, hz2⟩ := info_parts Try.info5'
  cases lead
  · go_enter Try.func12, Try.ntmps12
    go_wp2_with (at_make; go_must (refine wpList_make_own _ rfl (.const (.int .i64 0)) (.tmp 12) 22 rfl w.heap.size 5 i0 (.int .u8 0) 1 Try.underlying22 hi hz0 hz1 _ _ _ (2 * s.size + 2) rfl rfl (by omega) (by rw [hz2]; omega) (by unfold maxLen; omega) (Nat.le_refl _) ?_))
    intro w1 own1 gr1
    have bl1 : Below w.heap.size w w1 := (Below.refl _ _).grown gr1 (Nat.le_refl _) (fun k h => by cases h)
    go_wp2_with fail
    go_loopw [7, 8] (fun s7 s8 wr => ∃ (k n : Nat) (X : List Int), k ≤ s.size ∧ n ≤ 2 * k + 1 ∧ s8 = .int .i64 k ∧ s7 = .slice (some ⟨w.heap.size, 0, none⟩) n (2 * s.size + 2) ∧
        Hid (X = escHead false ++ escB ((nums s).take k)) ∧ wr.ownsRow w.heap.size 5 1 (.slice (some ⟨w.heap.size, 0, none⟩) n (2 * s.size + 2)) n (X.map (Value.int .u8)) ∧ Below w.heap.size w wr) (fun _ s8 _ => s.size - (intOf s8).toNat)
    case atStart => exact ⟨0, 0, [], by omega, by omega, rfl, rfl, by simp [Hid, escHead, escB], by simpa using own1, bl1⟩
    case round =>
      obtain ⟨k, n, X, hk, hn, rfl, rfl, HX, own, bl⟩ := hrel
      have szr := bl.size
      by_cases hlt : k < s.size
      · have i1 : (k : Int) < (s.size : Int) := by omega
        go_wp2_with (at_builtin; go_must (refine wpList_append_fits _ rfl (.tmp 24) (.tmp 25) 22 rfl w.heap.size 5 i0 1 Try.underlying22 hi hz1 w.heap.size n (2 * s.size + 2) (X.map (Value.int .u8)) rfl (own.alloc _) ⟨wr.heap.size, 0, none⟩ 1 1 [.int .u8 92] rfl rfl (cell_one_new _ _ _) (ints_oneCell _ [92]) (by omega) ?_))
        intro w2 own2 gr2
        have bl2 : Below w.heap.size w w2 := (bl.alloc szr _).grown gr2 (by simp; omega) (fun k h => by cases h; exact Nat.le_refl _)
        have sz2 := bl2.size
        have own2' : w2.ownsRow w.heap.size 5 1 (.slice (some ⟨w.heap.size, 0, none⟩) (n + 1) (2 * s.size + 2)) (n + 1) ((X ++ [92]).map (Value.int .u8)) := by rw [List.map_append]; exact own2
        clear own own2 gr2
        generalize hY : X ++ [92] = Y at own2'
        have HY : Hid (X ++ [92] = Y) := hY
        clear hY
        go_wp2_with (at_builtin; go_must (refine wpList_append_fits _ rfl (.tmp 27) (.tmp 31) 22 rfl w.heap.size 5 i0 1 Try.underlying22 hi hz1 w.heap.size (n + 1) (2 * s.size + 2) (Y.map (Value.int .u8)) rfl (own2'.alloc _) ⟨w2.heap.size, 0, none⟩ 1 1 [.int .u8 (s[k].toNat : Int)] rfl rfl (cell_one_new _ _ _) (ints_oneCell _ [(s[k].toNat : Int)]) (by omega) ?_))
        intro w3 own3 gr3
        have bl3 : Below w.heap.size w w3 := (bl2.alloc sz2 _).grown gr3 (by simp; omega) (fun k h => by cases h; exact Nat.le_refl _)
        have own3' : w3.ownsRow w.heap.size 5 1 (.slice (some ⟨w.heap.size, 0, none⟩) (n + 1 + 1) (2 * s.size + 2)) (n + 1 + 1) ((Y ++ [(s[k].toNat : Int)]).map (Value.int .u8)) := by rw [List.map_append]; exact own3
        have HZ : Hid (Y ++ [(s[k].toNat : Int)] = escHead false ++ escB ((nums s).take (k + 1))) := by
          rw [← HY.out, HX.out, nums_take_succ s k hlt, escB_snoc]; simp [Hid]
        generalize Y ++ [(s[k].toNat : Int)] = Z at own3' HZ
        clear own3 gr3 own2'
        go_wp2_with fail
        go_roundw
        case rel => exact ⟨k + 1, n + 1 + 1, Z, by omega, by omega, by go_num, rfl, HZ, own3', bl3⟩
        case measure => simp [intOf]; omega
      · have hke : k = s.size := by omega
        have HX' : Hid (X = escHead false ++ escB (nums s)) := by rw [HX.out, List.take_of_length_le (by rw [nums_length]; omega)]; exact rfl
        clear hke
        cases tail
        · go_wp2_with fail
          go_ret
          exact ⟨n, by omega, rfl, by rw [show escL (nums s) false false = X from by rw [HX'.out]; simp [escL, escHead]]; exact own, bl⟩
        · go_wp2_with (at_builtin; go_must (refine wpList_append_fits _ rfl (.tmp 34) (.tmp 35) 22 rfl w.heap.size 5 i0 1 Try.underlying22 hi hz1 w.heap.size n (2 * s.size + 2) (X.map (Value.int .u8)) rfl (own.alloc _) ⟨wr.heap.size, 0, none⟩ 1 1 [.int .u8 42] rfl rfl (cell_one_new _ _ _) (ints_oneCell _ [42]) (by omega) ?_))
          intro w2 own2 gr2
          have bl2 : Below w.heap.size w w2 := (bl.alloc szr _).grown gr2 (by simp; omega) (fun k h => by cases h; exact Nat.le_refl _)
          have own2' : w2.ownsRow w.heap.size 5 1 (.slice (some ⟨w.heap.size, 0, none⟩) (n + 1) (2 * s.size + 2)) (n + 1) ((X ++ [42]).map (Value.int .u8)) := by rw [List.map_append]; exact own2
          clear own2 gr2
          go_wp2_with fail
          go_ret
          exact ⟨n + 1, by omega, rfl, by rw [show escL (nums s) false true = X ++ [42] from by rw [HX'.out]; simp [escL, escHead]]; exact own2', bl2⟩
  · go_enter Try.func12, Try.ntmps12
    go_wp2_with (at_make; go_must (refine wpList_make_own _ rfl (.const (.int .i64 0)) (.tmp 12) 22 rfl w.heap.size 5 i0 (.int .u8 0) 1 Try.underlying22 hi hz0 hz1 _ _ _ (2 * s.size + 2) rfl rfl (by omega) (by rw [hz2]; omega) (by unfold maxLen; omega) (Nat.le_refl _) ?_))
    intro w1 own1 gr1
    have bl1 : Below w.heap.size w w1 := (Below.refl _ _).grown gr1 (Nat.le_refl _) (fun k h => by cases h)
    have sz1 := bl1.size
    go_wp2_with (at_builtin; go_must (refine wpList_append_fits _ rfl (.tmp 15) (.tmp 16) 22 rfl w.heap.size 5 i0 1 Try.underlying22 hi hz1 w.heap.size 0 (2 * s.size + 2) [] rfl (own1.alloc _) ⟨w1.heap.size, 0, none⟩ 1 1 [.int .u8 42] rfl rfl (cell_one_new _ _ _) (ints_oneCell _ [42]) (by omega) ?_))
    intro w2 own2 gr2
    have bl2 : Below w.heap.size w w2 := (bl1.alloc sz1 _).grown gr2 (by simp; omega) (fun k h => by cases h; exact Nat.le_refl _)
    clear own1 gr1 gr2
    go_wp2_with fail
    go_loopw [7, 8] (fun s7 s8 wr => ∃ (k n : Nat) (X : List Int), k ≤ s.size ∧ n ≤ 2 * k + 1 ∧ s8 = .int .i64 k ∧ s7 = .slice (some ⟨w.heap.size, 0, none⟩) n (2 * s.size + 2) ∧
        Hid (X = escHead true ++ escB ((nums s).take k)) ∧ wr.ownsRow w.heap.size 5 1 (.slice (some ⟨w.heap.size, 0, none⟩) n (2 * s.size + 2)) n (X.map (Value.int .u8)) ∧ Below w.heap.size w wr) (fun _ s8 _ => s.size - (intOf s8).toNat)
    case atStart => exact ⟨0, 1, [42], by omega, by omega, rfl, rfl, by simp [Hid, escHead, escB], by simpa using own2, bl2⟩
    case round =>
      obtain ⟨k, n, X, hk, hn, rfl, rfl, HX, own, bl⟩ := hrel
      have szr := bl.size
      by_cases hlt : k < s.size
      · have i1 : (k : Int) < (s.size : Int) := by omega
        go_wp2_with (at_builtin; go_must (refine wpList_append_fits _ rfl (.tmp 24) (.tmp 25) 22 rfl w.heap.size 5 i0 1 Try.underlying22 hi hz1 w.heap.size n (2 * s.size + 2) (X.map (Value.int .u8)) rfl (own.alloc _) ⟨wr.heap.size, 0, none⟩ 1 1 [.int .u8 92] rfl rfl (cell_one_new _ _ _) (ints_oneCell _ [92]) (by omega) ?_))
        intro w2 own2 gr2
        have bl2 : Below w.heap.size w w2 := (bl.alloc szr _).grown gr2 (by simp; omega) (fun k h => by cases h; exact Nat.le_refl _)
        have sz2 := bl2.size
        have own2' : w2.ownsRow w.heap.size 5 1 (.slice (some ⟨w.heap.size, 0, none⟩) (n + 1) (2 * s.size + 2)) (n + 1) ((X ++ [92]).map (Value.int .u8)) := by rw [List.map_append]; exact own2
        clear own own2 gr2
        generalize hY : X ++ [92] = Y at own2'
        have HY : Hid (X ++ [92] = Y) := hY
        clear hY
        go_wp2_with (at_builtin; go_must (refine wpList_append_fits _ rfl (.tmp 27) (.tmp 31) 22 rfl w.heap.size 5 i0 1 Try.underlying22 hi hz1 w.heap.size (n + 1) (2 * s.size + 2) (Y.map (Value.int .u8)) rfl (own2'.alloc _) ⟨w2.heap.size, 0, none⟩ 1 1 [.int .u8 (s[k].toNat : Int)] rfl rfl (cell_one_new _ _ _) (ints_oneCell _ [(s[k].toNat : Int)]) (by omega) ?_))
        intro w3 own3 gr3
        have bl3 : Below w.heap.size w w3 := (bl2.alloc sz2 _).grown gr3 (by simp; omega) (fun k h => by cases h; exact Nat.le_refl _)
        have own3' : w3.ownsRow w.heap.size 5 1 (.slice (some ⟨w.heap.size, 0, none⟩) (n + 1 + 1) (2 * s.size + 2)) (n + 1 + 1) ((Y ++ [(s[k].toNat : Int)]).map (Value.int .u8)) := by rw [List.map_append]; exact own3
        have HZ : Hid (Y ++ [(s[k].toNat : Int)] = escHead true ++ escB ((nums s).take (k + 1))) := by
          rw [← HY.out, HX.out, nums_take_succ s k hlt, escB_snoc]; simp [Hid]
        generalize Y ++ [(s[k].toNat : Int)] = Z at own3' HZ
        clear own3 gr3 own2'
        go_wp2_with fail
        go_roundw
        case rel => exact ⟨k + 1, n + 1 + 1, Z, by omega, by omega, by go_num, rfl, HZ, own3', bl3⟩
        case measure => simp [intOf]; omega
      · have hke : k = s.size := by omega
        have HX' : Hid (X = escHead true ++ escB (nums s)) := by rw [HX.out, List.take_of_length_le (by rw [nums_length]; omega)]; exact rfl
        clear hke
        cases tail
        · go_wp2_with fail
          go_ret
          exact ⟨n, by omega, rfl, by rw [show escL (nums s) true false = X from by rw [HX'.out]; simp [escL, escHead]]; exact own, bl⟩
        · go_wp2_with (at_builtin; go_must (refine wpList_append_fits _ rfl (.tmp 34) (.tmp 35) 22 rfl w.heap.size 5 i0 1 Try.underlying22 hi hz1 w.heap.size n (2 * s.size + 2) (X.map (Value.int .u8)) rfl (own.alloc _) ⟨wr.heap.size, 0, none⟩ 1 1 [.int .u8 42] rfl rfl (cell_one_new _ _ _) (ints_oneCell _ [42]) (by omega) ?_))
          intro w2 own2 gr2
          have bl2 : Below w.heap.size w w2 := (bl.alloc szr _).grown gr2 (by simp; omega) (fun k h => by cases h; exact Nat.le_refl _)
          have own2' : w2.ownsRow w.heap.size 5 1 (.slice (some ⟨w.heap.size, 0, none⟩) (n + 1) (2 * s.size + 2)) (n + 1) ((X ++ [42]).map (Value.int .u8)) := by rw [List.map_append]; exact own2
          clear own2 gr2
          go_wp2_with fail
          go_ret
          exact ⟨n + 1, by omega, rfl, by rw [show escL (nums s) true true = X ++ [42] from by rw [HX'.out]; simp [escL, escHead]]; exact own2', bl2⟩

/-! ### zzHasSuffix, zzContains -/
def SufEnd (t s : ByteArray) (w : World) (e : Ending) (w' : World) : Prop := ∃ B : Bool, e = .returned (.bool B) ∧ (B = true ↔ (nums s).length ≤ (nums t).length ∧ occ (nums s) (nums t) ((nums t).length - (nums s).length)) ∧ ∃ n, w' = w.drewN n
theorem suf_step {s t : ByteArray} {o k : Nat} (hk : k < s.size) (hkt : o + k < t.size) (H : Hid (∀ i, i < k → (nums s).getD i 0 = (nums t).getD (o + i) 0)) (he : t[o + k].toNat = s[k].toNat) : Hid (∀ i, i < k + 1 → (nums s).getD i 0 = (nums t).getD (o + i) 0) := by
  intro i hi
  by_cases h : i < k
  · exact H.out i h
  · have : i = k := by omega
    subst this
    rw [nums_getD s i hk, nums_getD t (o + i) hkt, he]

set_option maxRecDepth 100000 in
set_option maxHeartbeats 1000000 in
theorem hasSuffix_any (t s : ByteArray) (w : World) (hs : s.size ≤ 100000) (ht : t.size ≤ 100000) :
    Calls Try.prog 15 #[.string t, .string s] w fun e w' => SufEnd t s w e w' := by
  have hN : Hid ((nums s).length = s.size ∧ (nums t).length = t.size) := ⟨nums_length s, nums_length t⟩
  by_cases hlong : t.size < s.size
  · go_enter Try.func15, Try.ntmps15
    go_wp2
    go_ret
    exact ⟨false, rfl, by simp only [hN.out.1, hN.out.2, Bool.false_eq_true, false_iff]; rintro ⟨h, _⟩; omega, 0, rfl⟩
  · obtain ⟨o, ho⟩ : ∃ o, o + s.size = t.size := ⟨t.size - s.size, by omega⟩
    have hoff : (t.size : Int) - (s.size : Int) = (o : Int) := by omega
    have Ho : Hid (o + s.size = t.size) := ho
    have hol : o ≤ 100000 := by omega
    have hot : (o : Int) + (s.size : Int) ≤ (t.size : Int) := by omega
    clear ho
    go_enter Try.func15, Try.ntmps15
    go_wp2_with fail
    go_loopw [6] (fun s6 wr => ∃ k : Nat, k ≤ s.size ∧ s6 = .int .i64 k ∧ Hid (∀ i, i < k → (nums s).getD i 0 = (nums t).getD (o + i) 0) ∧ ∃ nd, wr = w.drewN nd) (fun s6 _ => s.size - (intOf s6).toNat)
    case atStart => exact ⟨0, by omega, rfl, fun i hi => absurd hi (by omega), 0, rfl⟩
    case round =>
      obtain ⟨k, hk1, rfl, HF, nd, rfl⟩ := hrel
      by_cases hks : k < s.size
      · have hkt : o + k < t.size := by omega
        have i1 : (k : Int) < (s.size : Int) := by omega
        have i2 : (o : Int) + (k : Int) < (t.size : Int) := by omega
        have i3 : 0 ≤ (o : Int) + (k : Int) := by omega
        have hto : ((o : Int) + (k : Int)).toNat = o + k := by omega
        have hwr : IntKind.i64.wrap ((o : Int) + (k : Int)) = ((o + k : Nat) : Int) := by rw [IntKind.wrap_i64]; omega
        by_cases he : t[o + k].toNat = s[k].toNat
        · have hi1 : ((t[o + k].toNat : Int) != (s[k].toNat : Int)) = false := by rw [he]; simp
          have HS := suf_step hks hkt HF he
          clear he
          go_wp2_with fail
          go_quiet (fail)
          go_wp2_with fail
          go_roundw
          case rel => exact ⟨k + 1, by omega, by go_num, HS, _, rfl⟩
          case measure => simp [intOf]; omega
        · have hi1 : ((t[o + k].toNat : Int) != (s[k].toNat : Int)) = true := by rw [bne_iff_ne]; omega
          have HS : Hid (¬ occ (nums s) (nums t) o) := fun h => he (by
            have := h.2 k (by rw [hN.out.1]; exact hks)
            rw [nums_getD s k hks, nums_getD t (o + k) hkt] at this; omega)
          clear he
          go_wp2_with fail
          go_quiet (fail)
          go_wp2_with fail
          go_ret
          exact ⟨false, rfl, by simp only [hN.out.1, hN.out.2, Bool.false_eq_true, false_iff]; rintro ⟨h, g⟩; exact HS.out (by rw [show t.size - s.size = o from by have := Ho.out; omega] at g; exact g), _, by first | rfl | (simp only [World.drewN_drewN]; rfl)⟩
      · have HS : Hid (occ (nums s) (nums t) o) := ⟨by rw [hN.out.1, hN.out.2, Ho.out]; exact Nat.le_refl _, fun i hi => HF.out i (by rw [hN.out.1] at hi; omega)⟩
        go_wp2_with fail
        go_ret
        exact ⟨true, rfl, by simp only [hN.out.1, hN.out.2, true_iff]; exact ⟨by omega, by rw [show t.size - s.size = o from by have := Ho.out; omega]; exact HS.out⟩, _, rfl⟩

def ContEnd (t s : ByteArray) (w : World) (e : Ending) (w' : World) : Prop := ∃ B : Bool, e = .returned (.bool B) ∧ (B = true ↔ ∃ j, occ (nums s) (nums t) j) ∧ ∃ n, w' = w.drewN n
theorem nums_ints (s : ByteArray) : nums s = ints s.data.toList := rfl
theorem extract_drop (t : ByteArray) (k : Nat) : (t.extract k t.size).data.toList = t.data.toList.drop k := Lib.extract_to_end t k
theorem pre_at (t s : ByteArray) (k : Nat) (h : k ≤ t.size) : preL s.data.toList (t.extract k t.size).data.toList = true ↔ occ (nums s) (nums t) k := by
  rw [pre_occ, extract_drop, ints_drop, ← nums_ints, ← nums_ints, occ_drop _ _ _ (by rw [nums_length]; exact h)]

set_option maxRecDepth 100000 in
set_option maxHeartbeats 1000000 in
theorem contains_any (t s : ByteArray) (w : World) (hs : s.size ≤ 100000) (ht : t.size ≤ 100000) :
    Calls Try.prog 16 #[.string t, .string s] w fun e w' => ContEnd t s w e w' := by
  have hN : Hid ((nums s).length = s.size ∧ (nums t).length = t.size) := ⟨nums_length s, nums_length t⟩
  go_enter Try.func16, Try.ntmps16
  go_wp2_with fail
  go_loopw [5] (fun s5 wr => ∃ k : Nat, k ≤ t.size + 1 ∧ s5 = .int .i64 k ∧ Hid (∀ j, j < k → ¬ occ (nums s) (nums t) j) ∧ ∃ nd, wr = w.drewN nd) (fun s5 _ => t.size + 1 - (intOf s5).toNat)
  case atStart => exact ⟨0, by omega, rfl, fun i hi => absurd hi (by omega), 0, rfl⟩
  case round =>
    obtain ⟨k, hk1, rfl, HF, nd, rfl⟩ := hrel
    by_cases hks : k + s.size ≤ t.size
    · have i1 : (k : Int) + (s.size : Int) ≤ (t.size : Int) := by omega
      have hkt : k ≤ t.size := by omega
      obtain ⟨B, hB, HK⟩ : ∃ B : Bool, Hid (B = true ↔ occ (nums s) (nums t) k) ∧ Hid (∀ wx, Calls Try.prog 14 #[.string (t.extract k t.size), .string s] wx fun e w' => e = .returned (.bool B) ∧ ∃ n, w' = wx.drewN n) :=
        ⟨_, pre_at t s k hkt, fun wx => hasPrefix_any (t.extract k t.size) s wx hs (by rw [ByteArray.size_extract]; omega)⟩
      cases B
      · have HS : Hid (∀ j, j < k + 1 → ¬ occ (nums s) (nums t) j) := fun j hj => by
          by_cases h : j < k
          · exact HF.out j h
          · have : j = k := by omega
            subst this
            exact fun g => by have := hB.out.2 g; cases this
        go_wp2_with fail
        refine (HK.out _).mono ?_
        rintro e w2 ⟨rfl, n2, rfl⟩
        go_wp2_with fail
        go_roundw
        case rel => exact ⟨k + 1, by omega, by go_num, HS, _, by first | rfl | (simp only [World.drewN_drewN]; rfl)⟩
        case measure => simp [intOf]; omega
      · have HS : Hid (occ (nums s) (nums t) k) := hB.out.1 rfl
        go_wp2_with fail
        refine (HK.out _).mono ?_
        rintro e w2 ⟨rfl, n2, rfl⟩
        go_wp2_with fail
        go_ret
        exact ⟨true, rfl, by simp only [true_iff]; exact ⟨k, HS.out⟩, _, by first | rfl | (simp only [World.drewN_drewN]; rfl)⟩
    · have i1 : ¬ (k : Int) + (s.size : Int) ≤ (t.size : Int) := by omega
      have HS : Hid (¬ ∃ j, occ (nums s) (nums t) j) := by
        rintro ⟨j, hj⟩
        have := hj.1
        rw [hN.out.1, hN.out.2] at this
        exact HF.out j (by omega) hj
      go_wp2_with fail
      go_ret
      exact ⟨false, rfl, by simp only [Bool.false_eq_true, false_iff]; exact HS.out, _, rfl⟩

/-! ### the law -/
theorem escaped_gen (s : ByteArray) (lead tail : Bool) (w : World) (hs : s.size ≤ 4096) :
    Calls Try.prog 12 #[.string s, .bool lead, .bool tail] w fun e w' => ∃ g n, n ≤ 2 * s.size + 2 ∧ e = .returned (.slice (some ⟨g, 0, none⟩) n (2 * s.size + 2)) ∧
      Hid (w'.ownsRow w.heap.size 5 1 (.slice (some ⟨g, 0, none⟩) n (2 * s.size + 2)) n ((escL (nums s) lead tail).map (Value.int .u8))) ∧ Below w.heap.size w w' :=
  (escaped_any s lead tail w hs).mono fun _ _ ⟨n, h1, h2, h3, h4⟩ => ⟨_, n, h1, h2, h3, h4⟩

theorem zzMatches_own {w : World} {base g n cap : Nat} {pat : List Int} (t : ByteArray) (own : w.ownsRow base 5 1 (.slice (some ⟨g, 0, none⟩) n cap) n (pat.map (Value.int .u8))) (hn : n ≤ 10000) (hnc : n ≤ cap) (ht : t.size ≤ 4096) :
    Calls Try.prog 9 #[.slice (some ⟨g, 0, none⟩) n cap, .string t] w fun e w' => MatchEnd pat t w e w' := by
  have hl : pat.length = n := by have := own.1; simpa using this
  have HK : Hid (Calls Try.prog 24 #[.slice (some ⟨g, 0, none⟩) n cap, .string t] w fun e w' => MatchEnd pat t w e w') := by
    refine matches_any g 0 n cap pat (fun j => pat.getD j 0) t w hl (fun _ => rfl) hn hnc (by omega) ?_
    intro j hj
    rw [Nat.zero_add, own.cellAt j (by omega)]
    simp [List.getD, show j < pat.length by omega]
  clear own hl
  go_enter Try.func9, Try.ntmps9
  go_wp2_with fail
  refine Calls.mono (Hid.out HK) ?_
  rintro e w1 ⟨B, rfl, hB, k, rfl⟩
  have HB : Hid (B = true ↔ Lang (toks pat) (nums t)) := hB
  clear hB
  go_wp2_with fail
  go_ret
  exact ⟨B, rfl, HB.out, k, rfl⟩

theorem bool_iff {a b : Bool} {P Q : Prop} (ha : a = true ↔ P) (hb : b = true ↔ Q) (h : P ↔ Q) : a = b := by
  rw [Bool.eq_iff_iff, ha, hb, h]

theorem cmp_iff (s t : ByteArray) {c : Int} (h : cmpL s.data.toList t.data.toList = c) : (c == 0) = true ↔ nums s = nums t := by
  rw [← h, beq_iff_eq, cmpL_zero, nums_ints, nums_ints, ints_inj]

set_option maxRecDepth 100000 in
set_option maxHeartbeats 2000000 in
theorem esc_main (s t : ByteArray) (w : World) (hs : s.size ≤ 4096) (ht : t.size ≤ 4096) :
    Calls Try.prog 4 #[.string s, .string t] w fun e w' => e = .returned (.bool true) ∧ Below w.heap.size w w' := by
  obtain ⟨c, hcc⟩ : ∃ c, cmpL s.data.toList t.data.toList = c := ⟨_, rfl⟩
  have HC : Hid (cmpL s.data.toList t.data.toList = c) := hcc
  have HP : Hid (∀ wx, Calls Try.prog 14 #[.string t, .string s] wx fun e w' => e = .returned (.bool (preL s.data.toList t.data.toList)) ∧ ∃ n, w' = wx.drewN n) := fun wx => hasPrefix_any t s wx (by omega) (by omega)
  have HPo : Hid (preL s.data.toList t.data.toList = true ↔ occ (nums s) (nums t) 0) := pre_occ _ _
  generalize preL s.data.toList t.data.toList = PB at HP HPo
  clear hcc
  go_enter Try.func4, Try.ntmps4
  go_wp2_with fail
  refine (bytes11_yes s t _ hs ht).mono ?_
  rintro e w0 ⟨rfl, rfl⟩
  go_wp2_with fail
  refine (escaped_gen s false false _ hs).mono ?_
  rintro e w1 ⟨g1, n1, hn1, rfl, own1, bl1⟩
  have sz1 := bl1.size
  go_wp2_with fail
  refine (zzMatches_own t own1.out (by omega) hn1 ht).mono ?_
  rintro e w1' ⟨B1, rfl, hB1, k1, rfl⟩
  obtain rfl : B1 = (c == 0) := bool_iff hB1 (cmp_iff s t HC.out) (esc_exact _ _)
  clear hB1 own1
  go_wp2_with fail
  refine (by have := cmp_any s t (w1.drewN k1) (by omega) (by omega); rw [HC.out] at this; exact this : Calls Try.prog 13 #[.string s, .string t] (w1.drewN k1) fun e w' => e = .returned (.int .i64 c) ∧ ∃ n, w' = (w1.drewN k1).drewN n).mono ?_
  rintro e w2 ⟨rfl, k2, rfl⟩
  go_wp2_with fail
  -- the second: a star behind
  refine (escaped_gen s false true _ hs).mono ?_
  rintro e w3 ⟨g2, n2, hn2, rfl, own2, bl2⟩
  have BL2 : Hid (Below w.heap.size w w3) := (below_drewN bl1 _).trans (bl2.mono sz1)
  have sz2 := BL2.out.size
  clear bl1 bl2
  go_wp2_with fail
  refine (zzMatches_own t own2.out (by omega) hn2 ht).mono ?_
  rintro e w3' ⟨B2, rfl, hB2, k3, rfl⟩
  obtain rfl : B2 = PB := bool_iff hB2 HPo.out (esc_tail _ _)
  clear hB2 own2
  go_wp2_with fail
  refine (HP.out _).mono ?_
  rintro e w4 ⟨rfl, k4, rfl⟩
  go_wp2_with fail
  -- the third: a star ahead
  refine (escaped_gen s true false _ hs).mono ?_
  rintro e w5 ⟨g3, n3, hn3, rfl, own3, bl3⟩
  have BL3 : Hid (Below w.heap.size w w5) := (below_drewN BL2.out _).trans (bl3.mono sz2)
  have sz3 := BL3.out.size
  clear bl3
  go_wp2_with fail
  refine (zzMatches_own t own3.out (by omega) hn3 ht).mono ?_
  rintro e w5' ⟨B3, rfl, hB3, k5, rfl⟩
  have HB3 : Hid (B3 = true ↔ Lang (toks (escL (nums s) true false)) (nums t)) := hB3
  clear hB3 own3
  go_wp2_with fail
  refine (hasSuffix_any t s _ (by omega) (by omega)).mono ?_
  rintro e w6 ⟨B3', rfl, hB3', k6, rfl⟩
  obtain rfl : B3' = B3 := bool_iff hB3' HB3.out (esc_lead _ _).symm
  clear hB3'
  go_wp2_with fail
  -- the fourth: both
  refine (escaped_gen s true true _ hs).mono ?_
  rintro e w7 ⟨g4, n4, hn4, rfl, own4, bl4⟩
  have BL4 : Hid (Below w.heap.size w w7) := (below_drewN BL3.out _).trans (bl4.mono sz3)
  clear bl4
  go_wp2_with fail
  refine (zzMatches_own t own4.out (by omega) hn4 ht).mono ?_
  rintro e w7' ⟨B4, rfl, hB4, k7, rfl⟩
  have HB4 : Hid (B4 = true ↔ Lang (toks (escL (nums s) true true)) (nums t)) := hB4
  clear hB4 own4
  go_wp2_with fail
  refine (contains_any t s _ (by omega) (by omega)).mono ?_
  rintro e w8 ⟨B4', rfl, hB4', k8, rfl⟩
  obtain rfl : B4' = B4 := bool_iff hB4' HB4.out (esc_both _ _).symm
  clear hB4'
  go_wp2_with fail
  go_ret
  exact ⟨rfl, by first | exact below_drewN BL4.out _ | exact below_drewN (below_drewN BL4.out _) _⟩

end Go.Proofs.Qxb6617818a
