/-
  THE WALKS OF zzLiteral, zzUpperHexValue, ZZescapePath AND OF FnEscapePathIsTheCanonicalEscape. By an AI agent.
-/
import Derived.Test.Qxb6617824aEscape
namespace Go.Proofs.Qxb6617824a
open Go.RowKit

theorem ret_b {x y : Bool} (h : x = y) : Ending.returned (.bool x) = .returned (.bool y) := by rw [h]
theorem ret_i {x y : Int} (h : x = y) : Ending.returned (.int .i64 x) = .returned (.int .i64 y) := by rw [h]

set_option maxRecDepth 100000 in
set_option maxHeartbeats 1000000 in
theorem literal_yes (x : Int) (w : World) (hc : (65 ≤ x ∧ x ≤ 90) ∨ (97 ≤ x ∧ x ≤ 122) ∨ (48 ≤ x ∧ x ≤ 57) ∨ (45 ≤ x ∧ x ≤ 45) ∨ (46 ≤ x ∧ x ≤ 46) ∨ (95 ≤ x ∧ x ≤ 95) ∨ (126 ≤ x ∧ x ≤ 126) ∨ (47 ≤ x ∧ x ≤ 47)) :
    Calls Try.prog 8 #[.int .u8 x] w fun e w' => e = .returned (.bool true) ∧ w = w' := by
  rcases hc with hc | hc | hc | hc | hc | hc | hc | hc
  all_goals
    obtain ⟨hc1, hc2⟩ := hc
    go_enter Try.func8, Try.ntmps8
    go_wp2_with fail
    go_ret
    first | exact ⟨rfl, rfl⟩ | exact ⟨ret_b (by first | (simp; done) | (simp; omega)), rfl⟩
set_option maxRecDepth 100000 in
set_option maxHeartbeats 1000000 in
theorem literal_no (x : Int) (w : World) (hc : (x ≤ 44 ∧ x < 45) ∨ (58 ≤ x ∧ x ≤ 64) ∨ (91 ≤ x ∧ x ≤ 94) ∨ (96 ≤ x ∧ x ≤ 96) ∨ (123 ≤ x ∧ x ≤ 125) ∨ (127 ≤ x ∧ 126 < x)) :
    Calls Try.prog 8 #[.int .u8 x] w fun e w' => e = .returned (.bool false) ∧ w = w' := by
  rcases hc with hc | hc | hc | hc | hc | hc
  all_goals
    obtain ⟨hc1, hc2⟩ := hc
    go_enter Try.func8, Try.ntmps8
    go_wp2_with fail
    go_ret
    first | exact ⟨rfl, rfl⟩ | exact ⟨ret_b (by first | (simp; done) | (simp; omega)), rfl⟩
theorem literal_any (x : Int) (w : World) : Calls Try.prog 8 #[.int .u8 x] w fun e w' => e = .returned (.bool (litN x)) ∧ w = w' := by
  rcases lit_cases x with ⟨hl, hc⟩ | ⟨hl, hc⟩
  · rw [hl]; exact literal_yes x w hc
  · rw [hl]; exact literal_no x w hc

theorem hexValue_any (x : Int) (w : World) (hx : 0 ≤ x ∧ x ≤ 255) : Calls Try.prog 7 #[.int .u8 x] w fun e w' => e = .returned (.int .i64 (hexV x)) ∧ w = w' := by
  by_cases h1 : 48 ≤ x ∧ x ≤ 57
  · have HV : Hid (hexV x = x - 48) := by unfold hexV; rw [if_pos h1]; exact rfl
    obtain ⟨h1, h2⟩ := h1
    go_enter Try.func7, Try.ntmps7
    go_wp2_with fail
    go_ret
    exact ⟨by rw [HV.out]; exact ret_i (by omega), rfl⟩
  · by_cases h2 : 65 ≤ x ∧ x ≤ 70
    · have HV : Hid (hexV x = x - 55) := by unfold hexV; rw [if_neg h1, if_pos h2]; exact rfl
      obtain ⟨h2, h3⟩ := h2
      clear h1
      go_enter Try.func7, Try.ntmps7
      go_wp2_with fail
      go_ret
      exact ⟨by rw [HV.out]; exact ret_i (by omega), rfl⟩
    · have HV : Hid (hexV x = -1) := by unfold hexV; rw [if_neg h1, if_neg h2]; exact rfl
      have hc : x < 48 ∨ (57 < x ∧ x < 65) ∨ 70 < x := by omega
      clear h1 h2
      rcases hc with hc | hc | hc
      all_goals
        go_enter Try.func7, Try.ntmps7
        go_wp2_with fail
        go_ret
        exact ⟨by rw [HV.out]; exact ret_i (by omega), rfl⟩

theorem zzEscapePath_any (s : ByteArray) (w : World) (hs : s.size ≤ 1048576) :
    Calls Try.prog 6 #[.string s] w fun e w' => e = .returned (.string ⟨(ofN (escL (toN s.data.toList))).toArray⟩) ∧ Below w.heap.size w w' := by
  have HK : Hid (Calls Try.prog 11 #[.string s] w fun e w' => e = .returned (.string ⟨(ofN (escL (toN s.data.toList))).toArray⟩) ∧ Below w.heap.size w w') := escapePath_any s w hs
  go_enter Try.func6, Try.ntmps6
  go_wp2_with fail
  refine Calls.mono (Hid.out HK) ?_
  rintro e w1 ⟨rfl, bl⟩
  have HB : Hid (Below w.heap.size w w1) := bl
  clear bl
  go_wp2_with fail
  go_ret
  exact ⟨rfl, HB.out⟩

theorem bytes5_yes (s : ByteArray) (w : World) (h : s.size ≤ 1048576) : Calls Try.prog 5 #[.string s] w fun e w' => e = .returned (.bool true) ∧ w = w' := by
  go_enter Try.func5, Try.ntmps5
  go_wp2
  go_ret
  exact ⟨rfl, rfl⟩
theorem bytes5_no (s : ByteArray) (w : World) (h : 1048576 < s.size) : Calls Try.prog 5 #[.string s] w fun e w' => e = .returned (.bool false) ∧ w = w' := by
  go_enter Try.func5, Try.ntmps5
  go_wp2
  go_ret
  exact ⟨rfl, rfl⟩
theorem canon_long (s : ByteArray) (w : World) (h : 262144 < s.size) : Calls Try.prog 3 #[.string s] w fun e w' => e = .returned (.bool true) ∧ Below w.heap.size w w' := by
  by_cases h2 : s.size ≤ 1048576
  · go_enter Try.func3, Try.ntmps3
    go_wp2_with (go_at_call 5; refine (bytes5_yes _ _ h2).mono ?_; rintro e w' ⟨rfl, rfl⟩)
    go_ret
    exact ⟨rfl, Below.refl _ _⟩
  · go_enter Try.func3, Try.ntmps3
    go_wp2_with (go_at_call 5; refine (bytes5_no _ _ (by omega)).mono ?_; rintro e w' ⟨rfl, rfl⟩)
    go_ret
    exact ⟨rfl, Below.refl _ _⟩

/-! ### the escaped text, byte by byte -/
theorem str_at {l : List Int} (h : Bytes l) (i : Nat) (hi : i < l.length) (h' : i < (⟨(ofN l).toArray⟩ : ByteArray).size) : (((⟨(ofN l).toArray⟩ : ByteArray)[i]'h').toNat : Int) = l.getD i 0 := by
  have e := toN_ofN h
  have e2 : (toN (ofN l)).getD i 0 = l.getD i 0 := by rw [e]
  rw [← e2]
  have hi2 : i < (ofN l).length := by rw [ofN_length]; exact hi
  simp only [toN, List.getD, List.getElem?_map, List.getElem?_eq_getElem hi2, Option.map_some, Option.getD_some]
  rfl
theorem str_size (l : List Int) : (⟨(ofN l).toArray⟩ : ByteArray).size = l.length := by simp [ByteArray.size, ofN]

theorem split_at (N : List Int) (k : Nat) (h : k < N.length) : escL N = escL (N.take k) ++ (escN N[k] ++ escL (N.drop (k + 1))) := by
  conv => lhs; rw [← List.take_append_drop k N]
  rw [escL_append, List.drop_eq_getElem_cons h]
  rfl
theorem esc_at (N : List Int) (k j : Nat) (h : k < N.length) (hj : j < (escN N[k]).length) : (escL N).getD ((escL (N.take k)).length + j) 0 = (escN N[k]).getD j 0 := by
  rw [split_at N k h]
  simp only [List.getD]
  rw [List.getElem?_append_right (by omega), Nat.add_sub_cancel_left, List.getElem?_append_left hj]
theorem esc_room (N : List Int) (k : Nat) (h : k < N.length) : (escL (N.take k)).length + (escN N[k]).length ≤ (escL N).length := by
  rw [split_at N k h]; simp only [List.length_append]; omega
theorem esc_next (N : List Int) (k : Nat) (h : k < N.length) : (escL (N.take (k + 1))).length = (escL (N.take k)).length + (escN N[k]).length := by
  rw [List.take_succ_eq_append_getElem h, escL_snoc, List.length_append]

/-- what the walk is told at byte k: a literal -/
theorem at_lit {s : ByteArray} {k i : Nat} {x : Int} (hk : k < s.size) (hx : (s[k].toNat : Int) = x) (hi : Hid (i = (escL ((toN s.data.toList).take k)).length)) (hl : litN x = true) :
    ∃ h' : i < (⟨(ofN (escL (toN s.data.toList))).toArray⟩ : ByteArray).size, (((⟨(ofN (escL (toN s.data.toList))).toArray⟩ : ByteArray)[i]'h').toNat : Int) = x ∧ Hid (i + 1 = (escL ((toN s.data.toList).take (k + 1))).length) := by
  have hN : k < (toN s.data.toList).length := by rw [toN_length]; simpa using hk
  have hx' : (toN s.data.toList)[k] = x := by rw [← hx]; simp [toN]; rfl
  have he : escN x = [x] := by simp [escN, hl]
  have hroom := esc_room (toN s.data.toList) k hN
  have hnext := esc_next (toN s.data.toList) k hN
  have hat := esc_at (toN s.data.toList) k 0 hN
  rw [hx', he] at hroom hnext hat
  rw [← hi.out] at hroom hnext hat
  have h' : i < (⟨(ofN (escL (toN s.data.toList))).toArray⟩ : ByteArray).size := by rw [str_size]; simp at hroom; omega
  refine ⟨h', ?_, ?_⟩
  · rw [str_at (toN_bytes _).escL i (by simp at hroom; omega)]
    have := hat (by simp)
    simpa using this
  · rw [hnext]; rfl
theorem at_esc {s : ByteArray} {k i : Nat} {x : Int} (hk : k < s.size) (hx : (s[k].toNat : Int) = x) (hi : Hid (i = (escL ((toN s.data.toList).take k)).length)) (hl : litN x = false) :
    ∃ (h0 : i < (⟨(ofN (escL (toN s.data.toList))).toArray⟩ : ByteArray).size) (h1 : i + 1 < (⟨(ofN (escL (toN s.data.toList))).toArray⟩ : ByteArray).size) (h2 : i + 2 < (⟨(ofN (escL (toN s.data.toList))).toArray⟩ : ByteArray).size),
      (((⟨(ofN (escL (toN s.data.toList))).toArray⟩ : ByteArray)[i]'h0).toNat : Int) = 37 ∧ (((⟨(ofN (escL (toN s.data.toList))).toArray⟩ : ByteArray)[i + 1]'h1).toNat : Int) = hexN (x / 16) ∧ (((⟨(ofN (escL (toN s.data.toList))).toArray⟩ : ByteArray)[i + 2]'h2).toNat : Int) = hexN (x % 16) ∧
      Hid (i + 3 = (escL ((toN s.data.toList).take (k + 1))).length) := by
  have hN : k < (toN s.data.toList).length := by rw [toN_length]; simpa using hk
  have hx' : (toN s.data.toList)[k] = x := by rw [← hx]; simp [toN]; rfl
  have he : escN x = [37, hexN (x / 16), hexN (x % 16)] := by simp [escN, hl]
  have hroom := esc_room (toN s.data.toList) k hN
  have hnext := esc_next (toN s.data.toList) k hN
  have hat := fun j => esc_at (toN s.data.toList) k j hN
  rw [hx', he] at hroom hnext hat
  rw [← hi.out] at hroom hnext hat
  have hr3 : i + 3 ≤ (escL (toN s.data.toList)).length := by simpa using hroom
  have hz := str_size (escL (toN s.data.toList))
  refine ⟨by omega, by omega, by omega, ?_, ?_, ?_, ?_⟩
  · rw [str_at (toN_bytes _).escL i (by omega)]
    have := hat 0 (by simp)
    simpa using this
  · rw [str_at (toN_bytes _).escL (i + 1) (by omega)]
    have := hat 1 (by simp)
    simpa using this
  · rw [str_at (toN_bytes _).escL (i + 2) (by omega)]
    have := hat 2 (by simp)
    simpa using this
  · rw [hnext]; rfl
theorem at_end {s : ByteArray} {i : Nat} (hi : Hid (i = (escL ((toN s.data.toList).take s.size)).length)) : i = (⟨(ofN (escL (toN s.data.toList))).toArray⟩ : ByteArray).size := by
  rw [hi.out, str_size, List.take_of_length_le (by rw [toN_length]; simp)]

theorem at_litR {s R : ByteArray} (HR : Hid (R = ⟨(ofN (escL (toN s.data.toList))).toArray⟩)) {k i : Nat} {x : Int} (hk : k < s.size) (hx : (s[k].toNat : Int) = x) (hi : Hid (i = (escL ((toN s.data.toList).take k)).length)) (hl : litN x = true) :
    ∃ h' : i < R.size, ((R[i]'h').toNat : Int) = x ∧ Hid (i + 1 = (escL ((toN s.data.toList).take (k + 1))).length) := by
  obtain rfl : R = _ := HR.out
  exact at_lit hk hx hi hl
theorem at_escR {s R : ByteArray} (HR : Hid (R = ⟨(ofN (escL (toN s.data.toList))).toArray⟩)) {k i : Nat} {x : Int} (hk : k < s.size) (hx : (s[k].toNat : Int) = x) (hi : Hid (i = (escL ((toN s.data.toList).take k)).length)) (hl : litN x = false) :
    ∃ (h0 : i < R.size) (h1 : i + 1 < R.size) (h2 : i + 2 < R.size), ((R[i]'h0).toNat : Int) = 37 ∧ ((R[i + 1]'h1).toNat : Int) = hexN (x / 16) ∧ ((R[i + 2]'h2).toNat : Int) = hexN (x % 16) ∧ Hid (i + 3 = (escL ((toN s.data.toList).take (k + 1))).length) := by
  obtain rfl : R = _ := HR.out
  exact at_esc hk hx hi hl

set_option maxRecDepth 100000 in
set_option maxHeartbeats 2000000 in
theorem canon_main (s : ByteArray) (w : World) (hs : s.size ≤ 262144) : Calls Try.prog 3 #[.string s] w fun e w' => e = .returned (.bool true) ∧ Below w.heap.size w w' := by
  go_enter Try.func3, Try.ntmps3
  go_wp2_with fail
  refine (bytes5_yes s _ (by omega)).mono ?_
  rintro e w0 ⟨rfl, rfl⟩
  go_wp2_with fail
  refine (zzEscapePath_any s _ (by omega)).mono ?_
  rintro e w1 ⟨rfl, bl⟩
  have HB : Hid (Below w.heap.size w w1) := bl
  clear bl
  obtain ⟨R, hR⟩ : ∃ R : ByteArray, R = ⟨(ofN (escL (toN s.data.toList))).toArray⟩ := ⟨_, rfl⟩
  have HR : Hid (R = ⟨(ofN (escL (toN s.data.toList))).toArray⟩) := hR
  have hRl : R.size ≤ 3 * s.size := by rw [hR, str_size]; have := escL_le (toN s.data.toList); rw [toN_length] at this; simpa using this
  rw [← hR]
  clear hR
  go_wp2_with fail
  go_loop [4, 5] (fun s4 s5 => ∃ i k : Nat, k ≤ s.size ∧ i ≤ R.size ∧ s4 = .int .i64 i ∧ s5 = .int .i64 k ∧ Hid (i = (escL ((toN s.data.toList).take k)).length)) (fun _ s5 => s.size - (intOf s5).toNat)
  case atStart => exact ⟨0, 0, by omega, by omega, rfl, rfl, rfl⟩
  case round =>
    obtain ⟨i, k, hk, hiR, rfl, rfl, HI⟩ := hrel
    by_cases hlt : k < s.size
    · have i1 : (k : Int) < (s.size : Int) := by omega
      obtain ⟨x, hx⟩ : ∃ x : Int, (s[k].toNat : Int) = x := ⟨_, rfl⟩
      have hxb : 0 ≤ x ∧ x ≤ 255 := by have := s[k].toNat_lt; omega
      have hge : decide ((s.size : Int) ≤ (k : Int)) = false := decide_eq_false (by omega)
      cases hl : litN x
      · obtain ⟨h0, h1, h2, e0, e1, e2, HI'⟩ := at_escR HR hlt hx HI hl
        have r0 : (i : Int) < (R.size : Int) := by omega
        have r1 : (i : Int) + 1 < (R.size : Int) := by omega
        have r2 : (i : Int) + 2 < (R.size : Int) := by omega
        have hv1 := hexV_hexN (x / 16) (by omega) (by omega)
        have hv2 := hexV_hexN (x % 16) (by omega) (by omega)
        have hb1 := hexN_bounds (x / 16) (by omega) (by omega)
        have hb2 := hexN_bounds (x % 16) (by omega) (by omega)
        generalize hexN (x / 16) = y1 at e1 hv1 hb1
        generalize hexN (x % 16) = y2 at e2 hv2 hb2
        have HV1 : Hid (hexV y1 = x / 16) := hv1
        have HV2 : Hid (hexV y2 = x % 16) := hv2
        have HL : Hid (litN x = false) := hl
        clear hv1 hv2 hl
        obtain ⟨q, hq⟩ : ∃ q, x / 16 = q := ⟨_, rfl⟩
        obtain ⟨r, hr⟩ : ∃ r, x % 16 = r := ⟨_, rfl⟩
        rw [hq] at HV1
        rw [hr] at HV2
        have hsum : q * 16 + r = x := by omega
        have hqb : 0 ≤ q ∧ q ≤ 15 := by omega
        have hrb : 0 ≤ r ∧ r ≤ 15 := by omega
        clear hq hr
        go_wp2_with fail
        refine (by have := hexValue_any y1 w1 (by omega); rw [HV1.out] at this; exact this : Calls Try.prog 7 #[.int .u8 y1] w1 fun e w' => e = .returned (.int .i64 q) ∧ w1 = w').mono ?_
        rintro e w2 ⟨rfl, rfl⟩
        go_wp2_with fail
        refine (by have := hexValue_any y2 w1 (by omega); rw [HV2.out] at this; exact this : Calls Try.prog 7 #[.int .u8 y2] w1 fun e w' => e = .returned (.int .i64 r) ∧ w1 = w').mono ?_
        rintro e w2 ⟨rfl, rfl⟩
        go_wp2_with fail
        refine (by have := literal_any x w1; rw [HL.out] at this; exact this : Calls Try.prog 8 #[.int .u8 x] w1 fun e w' => e = .returned (.bool false) ∧ w1 = w').mono ?_
        rintro e w2 ⟨rfl, rfl⟩
        go_wp2_with fail
        go_round
        case rel => exact ⟨i + 3, k + 1, by omega, by omega, by go_num, by go_num, HI'⟩
        case measure => simp [intOf]; omega
      · obtain ⟨h0, e0, HI'⟩ := at_litR HR hlt hx HI hl
        have r0 : (i : Int) < (R.size : Int) := by omega
        have hn37 : (x == 37) = false := by
          simp; rintro rfl; rw [lit37] at hl; cases hl
        have HL : Hid (litN x = true) := hl
        clear hl
        go_wp2_with fail
        refine (by have := literal_any x w1; rw [HL.out] at this; exact this : Calls Try.prog 8 #[.int .u8 x] w1 fun e w' => e = .returned (.bool true) ∧ w1 = w').mono ?_
        rintro e w2 ⟨rfl, rfl⟩
        go_wp2_with fail
        go_round
        case rel => exact ⟨i + 1, k + 1, by omega, by omega, by go_num, by go_num, HI'⟩
        case measure => simp [intOf]; omega
    · obtain rfl : k = s.size := by omega
      have hiE : ¬ (i : Int) < (R.size : Int) := by have := at_end HI; rw [← HR.out] at this; omega
      go_wp2_with fail
      go_ret
      exact ⟨rfl, HB.out⟩

end Go.Proofs.Qxb6617824a
