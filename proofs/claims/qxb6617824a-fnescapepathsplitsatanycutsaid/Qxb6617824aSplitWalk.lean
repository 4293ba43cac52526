/-
  THE WALKS OF zzCountEscaped AND OF FnEscapePathSplitsAtAnyCut. By an AI agent.
-/
import Derived.Test.Qxb6617824aCanonWalk
namespace Go.Proofs.Qxb6617824a
open Go.RowKit

theorem bytes9_yes (a b : ByteArray) (w : World) (h : a.size ≤ 131072) (h' : b.size ≤ 131072) : Calls Try.prog 9 #[.string a, .string b] w fun e w' => e = .returned (.bool true) ∧ w = w' := by
  go_enter Try.func9, Try.ntmps9
  go_wp2
  go_ret
  exact ⟨rfl, rfl⟩
theorem bytes9_any (a b : ByteArray) (w : World) (h : a.size ≤ maxLen) (h' : b.size ≤ maxLen) : Calls Try.prog 9 #[.string a, .string b] w fun e w' => (∃ c, e = .returned (.bool c)) ∧ w = w' := by
  unfold maxLen at h h'
  go_enter Try.func9, Try.ntmps9
  go_wp2
  all_goals
    go_ret
    exact ⟨⟨_, rfl⟩, rfl⟩
theorem split_long (a b : ByteArray) (w : World) (hm : a.size ≤ maxLen) (hm' : b.size ≤ maxLen) (h : 131072 < a.size ∨ 131072 < b.size) :
    Calls Try.prog 4 #[.string a, .string b] w fun e w' => e = .returned (.bool true) ∧ Below w.heap.size w w' := by
  have HK : Hid (Calls Try.prog 9 #[.string a, .string b] w fun e w' => (∃ c, e = .returned (.bool c)) ∧ w = w') := bytes9_any a b w hm hm'
  rcases h with h | h
  · go_enter Try.func4, Try.ntmps4
    go_wp2_with fail
    refine Calls.mono (Hid.out HK) ?_
    rintro e w' ⟨⟨c, rfl⟩, rfl⟩
    cases c
    all_goals
      go_wp2_with fail
      go_ret
      exact ⟨rfl, Below.refl _ _⟩
  · by_cases h1 : 131072 < a.size
    all_goals
      go_enter Try.func4, Try.ntmps4
      go_wp2_with fail
      refine Calls.mono (Hid.out HK) ?_
      rintro e w' ⟨⟨c, rfl⟩, rfl⟩
      cases c
      all_goals
        go_wp2_with fail
        go_ret
        exact ⟨rfl, Below.refl _ _⟩

theorem cnt_snoc (l : List Int) (c : Int) : cntN (l ++ [c]) = cntN l + (if litN c then 0 else 1) := by rw [cntN_append]; simp [cntN]

set_option maxRecDepth 100000 in
set_option maxHeartbeats 1000000 in
theorem count_any (s : ByteArray) (w : World) (hs : s.size ≤ 1048576) : Calls Try.prog 10 #[.string s] w fun e w' => e = .returned (.int .i64 (cntN (toN s.data.toList))) ∧ w = w' := by
  obtain ⟨C, hC⟩ : ∃ C, cntN (toN s.data.toList) = C := ⟨_, rfl⟩
  rw [hC]
  have HC : Hid (cntN (toN s.data.toList) = C) := hC
  clear hC
  go_enter Try.func10, Try.ntmps10
  go_wp2_with fail
  go_loop [3, 4] (fun s3 s4 => ∃ k n : Nat, k ≤ s.size ∧ n ≤ k ∧ s4 = .int .i64 k ∧ s3 = .int .i64 n ∧ Hid (n = cntN ((toN s.data.toList).take k))) (fun _ s4 => s.size - (intOf s4).toNat)
  case atStart => exact ⟨0, 0, by omega, by omega, rfl, rfl, rfl⟩
  case round =>
    obtain ⟨k, n, hk, hn, rfl, rfl, HN⟩ := hrel
    by_cases hlt : k < s.size
    · have i1 : (k : Int) < (s.size : Int) := by omega
      obtain ⟨x, hx⟩ : ∃ x : Int, (s[k].toNat : Int) = x := ⟨_, rfl⟩
      have HS : Hid (cntN ((toN s.data.toList).take (k + 1)) = n + (if litN x then 0 else 1)) := by rw [take_snocN s k hlt, cnt_snoc, ← HN.out, hx]; exact rfl
      cases hl : litN x
      · have HL : Hid (litN x = false) := hl
        have HS' : Hid (n + 1 = cntN ((toN s.data.toList).take (k + 1))) := by rw [HS.out, hl]; simp [Hid]
        clear hl
        go_wp2_with fail
        refine (by have := literal_any x w; rw [HL.out] at this; exact this : Calls Try.prog 8 #[.int .u8 x] w fun e w' => e = .returned (.bool false) ∧ w = w').mono ?_
        rintro e w2 ⟨rfl, rfl⟩
        go_wp2_with fail
        go_round
        case rel => exact ⟨k + 1, n + 1, by omega, by omega, by go_num, by go_num, HS'⟩
        case measure => simp [intOf]; omega
      · have HL : Hid (litN x = true) := hl
        have HS' : Hid (n = cntN ((toN s.data.toList).take (k + 1))) := by rw [HS.out, hl]; simp [Hid]
        clear hl
        go_wp2_with fail
        refine (by have := literal_any x w; rw [HL.out] at this; exact this : Calls Try.prog 8 #[.int .u8 x] w fun e w' => e = .returned (.bool true) ∧ w = w').mono ?_
        rintro e w2 ⟨rfl, rfl⟩
        go_wp2_with fail
        go_round
        case rel => exact ⟨k + 1, n, by omega, by omega, by go_num, by go_num, HS'⟩
        case measure => simp [intOf]; omega
    · have i1 : ¬ (k : Int) < (s.size : Int) := by omega
      have HE : Hid (n = C) := by rw [HN.out, List.take_of_length_le (by rw [toN_length]; simp; omega)]; exact HC.out
      go_wp2_with fail
      go_ret
      exact ⟨ret_i (by rw [HE.out]), rfl⟩

theorem esc_joined (a b : ByteArray) : (⟨(ofN (escL (toN (a ++ b).data.toList))).toArray⟩ : ByteArray) = ⟨(ofN (escL (toN a.data.toList))).toArray⟩ ++ ⟨(ofN (escL (toN b.data.toList))).toArray⟩ := by
  have e : (a ++ b).data.toList = a.data.toList ++ b.data.toList := by rw [ByteArray.data_append]; simp
  rw [e, toN_append, escL_append, ofN_append, ByteArray.mk_append_mk]

set_option maxRecDepth 100000 in
set_option maxHeartbeats 2000000 in
theorem split_main (a b : ByteArray) (w : World) (ha : a.size ≤ 131072) (hb : b.size ≤ 131072) :
    Calls Try.prog 4 #[.string a, .string b] w fun e w' => e = .returned (.bool true) ∧ Below w.heap.size w w' := by
  have hsum : a.size + b.size ≤ 9223372036854775807 := by omega
  go_enter Try.func4, Try.ntmps4
  go_wp2_with fail
  refine (bytes9_yes a b _ ha hb).mono ?_
  rintro e w0 ⟨rfl, rfl⟩
  obtain ⟨RA, hRA⟩ : ∃ R : ByteArray, ⟨(ofN (escL (toN a.data.toList))).toArray⟩ = R := ⟨_, rfl⟩
  obtain ⟨RB, hRB⟩ : ∃ R : ByteArray, ⟨(ofN (escL (toN b.data.toList))).toArray⟩ = R := ⟨_, rfl⟩
  obtain ⟨cA, hcA⟩ : ∃ c, cntN (toN a.data.toList) = c := ⟨_, rfl⟩
  obtain ⟨cB, hcB⟩ : ∃ c, cntN (toN b.data.toList) = c := ⟨_, rfl⟩
  have sA : RA.size = a.size + 2 * cA := by rw [← hRA, str_size, escL_length, toN_length, hcA]; simp
  have sB : RB.size = b.size + 2 * cB := by rw [← hRB, str_size, escL_length, toN_length, hcB]; simp
  have lA : cA ≤ a.size := by rw [← hcA]; have := cntN_le (toN a.data.toList); rw [toN_length] at this; simpa using this
  have lB : cB ≤ b.size := by rw [← hcB]; have := cntN_le (toN b.data.toList); rw [toN_length] at this; simpa using this
  have hsumR : RA.size + RB.size ≤ 9223372036854775807 := by omega
  have KW : Hid (∀ wx, Calls Try.prog 6 #[.string (a ++ b)] wx fun e w' => e = .returned (.string (RA ++ RB)) ∧ Below wx.heap.size wx w') := fun wx => by
    have := zzEscapePath_any (a ++ b) wx (by rw [ByteArray.size_append]; omega)
    rw [esc_joined a b, hRA, hRB] at this
    exact this
  have KA : Hid (∀ wx, Calls Try.prog 6 #[.string a] wx fun e w' => e = .returned (.string RA) ∧ Below wx.heap.size wx w') := fun wx => by
    have := zzEscapePath_any a wx (by omega)
    rw [hRA] at this; exact this
  have KB : Hid (∀ wx, Calls Try.prog 6 #[.string b] wx fun e w' => e = .returned (.string RB) ∧ Below wx.heap.size wx w') := fun wx => by
    have := zzEscapePath_any b wx (by omega)
    rw [hRB] at this; exact this
  have CA : Hid (∀ wx, Calls Try.prog 10 #[.string a] wx fun e w' => e = .returned (.int .i64 cA) ∧ wx = w') := fun wx => by
    have := count_any a wx (by omega)
    rw [hcA] at this; exact this
  have CB : Hid (∀ wx, Calls Try.prog 10 #[.string b] wx fun e w' => e = .returned (.int .i64 cB) ∧ wx = w') := fun wx => by
    have := count_any b wx (by omega)
    rw [hcB] at this; exact this
  have HS : Hid (RA.size = a.size + 2 * cA ∧ RB.size = b.size + 2 * cB) := ⟨sA, sB⟩
  have rA : RA.size ≤ 3 * a.size := by omega
  have rB : RB.size ≤ 3 * b.size := by omega
  clear hRA hRB hcA hcB sA sB
  go_wp2_with fail
  refine (KW.out _).mono ?_
  rintro e w1 ⟨rfl, bl1⟩
  have sz1 := bl1.size
  go_wp2_with fail
  refine (KA.out _).mono ?_
  rintro e w2 ⟨rfl, bl2⟩
  have BL2 : Hid (Below w.heap.size w w2) := bl1.trans (bl2.mono sz1)
  have sz2 := BL2.out.size
  clear bl1 bl2
  go_wp2_with fail
  refine (KB.out _).mono ?_
  rintro e w3 ⟨rfl, bl3⟩
  have BL3 : Hid (Below w.heap.size w w3) := BL2.out.trans (bl3.mono sz2)
  clear bl3
  go_wp2_with fail
  refine (CA.out _).mono ?_
  rintro e w4 ⟨rfl, rfl⟩
  go_wp2_with fail
  refine (CB.out _).mono ?_
  rintro e w4 ⟨rfl, rfl⟩
  go_wp2_with fail
  go_ret
  exact ⟨ret_b (by have := HS.out; simp only [beq_iff_eq]; omega), BL3.out⟩

end Go.Proofs.Qxb6617824a
