/-
  THE WALK OF FnPrefixRangeHoldsExactlyThePrefixedNames. By an AI agent.
-/
import Derived.Test.Qxb6617818aView
namespace Go.Proofs.Qxb6617818a
open Go.RowKit

theorem bytes19_yes (a : Option Addr) (len cap : Nat) (s : ByteArray) (w : World) (h : len ≤ 4096) (h' : s.size ≤ 4096) :
    Calls Try.prog 19 #[.slice a len cap, .string s] w fun e w' => e = .returned (.bool true) ∧ w = w' := by
  go_enter Try.func19, Try.ntmps19
  go_wp2
  go_ret
  exact ⟨rfl, rfl⟩

theorem bytes19_any (a : Option Addr) (len cap : Nat) (s : ByteArray) (w : World) (hm : len ≤ maxLen) (hm' : s.size ≤ maxLen) :
    Calls Try.prog 19 #[.slice a len cap, .string s] w fun e w' => (∃ b, e = .returned (.bool b)) ∧ w = w' := by
  unfold maxLen at hm hm'
  go_enter Try.func19, Try.ntmps19
  go_wp2
  all_goals
    go_ret
    exact ⟨⟨_, rfl⟩, rfl⟩

/-- too long: true -/
theorem holds_long (a : Option Addr) (len cap : Nat) (s : ByteArray) (w : World) (hm : len ≤ maxLen) (hm' : s.size ≤ maxLen) (h : 4096 < len ∨ 4096 < s.size) :
    Calls Try.prog 6 #[.slice a len cap, .string s] w fun e w' => e = .returned (.bool true) ∧ Below w.heap.size w w' := by
  have HK : Hid (Calls Try.prog 19 #[.slice a len cap, .string s] w fun e w' => (∃ b, e = .returned (.bool b)) ∧ w = w') := bytes19_any a len cap s w hm hm'
  rcases h with h | h
  · have hd : decide ((4096 : Int) < (len : Int)) = true := decide_eq_true (by omega)
    go_enter Try.func6, Try.ntmps6
    go_wp2_with fail
    refine Calls.mono (Hid.out HK) ?_
    rintro e w' ⟨⟨b, rfl⟩, rfl⟩
    cases b
    all_goals
      go_wp2_with fail
      go_ret
      exact ⟨rfl, Below.refl _ _⟩
  · have hd : decide ((4096 : Int) < (s.size : Int)) = true := decide_eq_true (by omega)
    by_cases h1 : 4096 < len
    all_goals
      go_enter Try.func6, Try.ntmps6
      go_wp2_with fail
      refine Calls.mono (Hid.out HK) ?_
      rintro e w' ⟨⟨b, rfl⟩, rfl⟩
      cases b
      all_goals
        go_wp2_with fail
        go_ret
        exact ⟨rfl, Below.refl _ _⟩

theorem cmp_is {s t : ByteArray} {c : Int} {w : World} (h : cmpL s.data.toList t.data.toList = c) (hs : s.size ≤ 100000) (ht : t.size ≤ 100000) :
    Calls Try.prog 13 #[.string s, .string t] w fun e w' => e = .returned (.int .i64 c) ∧ ∃ n, w' = w.drewN n := by rw [← h]; exact cmp_any s t w hs ht

theorem bl1 {w : World} (o1 : Obj) : Below w.heap.size w (w.alloc o1) := (Below.refl _ _).alloc (Nat.le_refl _) _

set_option maxHeartbeats 400000 in
theorem above_any (N s : ByteArray) (w : World) (hN : N.size ≤ 4096) (hs : s.size ≤ 4096) :
    Calls Try.prog 27 #[.agg #[.int .i64 2, .string N], .string s] w fun e w' => e = .returned (.bool (decide (0 ≤ cmpL s.data.toList N.data.toList))) ∧ Below w.heap.size w w' := by
  obtain ⟨c, hcc⟩ : ∃ c, cmpL s.data.toList N.data.toList = c := ⟨_, rfl⟩
  rw [hcc]
  have HC : Hid (cmpL s.data.toList N.data.toList = c) := hcc
  clear hcc
  go_enter Try.func27, Try.ntmps27
  go_wp2_with fail
  refine (cmp_is HC.out (by omega) (by omega)).mono ?_
  rintro e w' ⟨rfl, n, rfl⟩
  go_wp2_with fail
  go_ret
  exact ⟨rfl, below_drewN (bl1 _) _⟩

theorem belowMax_high (M s : ByteArray) (w : World) :
    Calls Try.prog 28 #[.agg #[.int .i64 1, .string M], .string s] w fun e w' => e = .returned (.bool true) ∧ Below w.heap.size w w' := by
  go_enter Try.func28, Try.ntmps28
  go_wp2_with fail
  go_ret
  exact ⟨rfl, bl1 _⟩

set_option maxHeartbeats 400000 in
theorem belowMax_excl (M s : ByteArray) (w : World) (hM : M.size ≤ 4096) (hs : s.size ≤ 4096) :
    Calls Try.prog 28 #[.agg #[.int .i64 3, .string M], .string s] w fun e w' => e = .returned (.bool (decide (cmpL s.data.toList M.data.toList < 0))) ∧ Below w.heap.size w w' := by
  obtain ⟨c, hcc⟩ : ∃ c, cmpL s.data.toList M.data.toList = c := ⟨_, rfl⟩
  rw [hcc]
  have HC : Hid (cmpL s.data.toList M.data.toList = c) := hcc
  clear hcc
  go_enter Try.func28, Try.ntmps28
  go_wp2_with fail
  refine (cmp_is HC.out (by omega) (by omega)).mono ?_
  rintro e w' ⟨rfl, n, rfl⟩
  go_wp2_with fail
  go_ret
  exact ⟨rfl, below_drewN (bl1 _) _⟩

theorem box4' {w1 w2 : World} {a b c d : Value} (h : Below (w1.alloc (.cells #[a, b, c, d] 34)).heap.size (w1.alloc (.cells #[a, b, c, d] 34)) w2) :
    w1.heap.size < w2.heap.size ∧ w2.cell? ⟨w1.heap.size, 0, none⟩ = some a ∧ w2.cell? ⟨w1.heap.size, 1, none⟩ = some b ∧ w2.cell? ⟨w1.heap.size, 2, none⟩ = some c ∧ w2.cell? ⟨w1.heap.size, 3, none⟩ = some d := by
  have s1 : (w1.alloc (.cells #[a, b, c, d] 34)).heap.size = w1.heap.size + 1 := by show (w1.heap.push _).size = _; simp
  have hs := h.size
  have e : ∀ i, w2.cell? ⟨w1.heap.size, i, none⟩ = #[a, b, c, d][i]? := fun i => by
    rw [h.cell (p := ⟨w1.heap.size, i, none⟩) (by rw [s1]; show w1.heap.size < _; omega), World.cell?_alloc_at _ _ _ _ rfl]
  exact ⟨by omega, e 0, e 1, e 2, e 3⟩

/-- the two ends' answers -/
def maxOk (K : Int) (M s : ByteArray) : Bool := if K = 1 then true else decide (cmpL s.data.toList M.data.toList < 0)
theorem belowMax_any (K : Int) (M s : ByteArray) (w : World) (hK : K = 1 ∨ K = 3) (hM : M.size ≤ 4096) (hs : s.size ≤ 4096) :
    Calls Try.prog 28 #[.agg #[.int .i64 K, .string M], .string s] w fun e w' => e = .returned (.bool (maxOk K M s)) ∧ Below w.heap.size w w' := by
  rcases hK with rfl | rfl
  · exact belowMax_high M s w
  · exact belowMax_excl M s w hM hs

set_option maxRecDepth 100000 in
set_option maxHeartbeats 1000000 in
theorem inRange_any (N : ByteArray) (K : Int) (M s : ByteArray) (w : World) (hK : K = 1 ∨ K = 3) (hN : N.size ≤ 4096) (hM : M.size ≤ 4096) (hs : s.size ≤ 4096) :
    Calls Try.prog 21 #[.agg #[.int .i64 2, .string N, .int .i64 K, .string M], .string s] w fun e w' => e = .returned (.bool (decide (0 ≤ cmpL s.data.toList N.data.toList) && maxOk K M s)) ∧ Below w.heap.size w w' := by
  have KA := fun wx => above_any N s wx hN hs
  have KB := fun wx => belowMax_any K M s wx hK hM hs
  generalize decide (0 ≤ cmpL s.data.toList N.data.toList) = x at *
  generalize maxOk K M s = y at *
  have HA : Hid (∀ wx, Calls Try.prog 27 #[.agg #[.int .i64 2, .string N], .string s] wx fun e w' => e = .returned (.bool x) ∧ Below wx.heap.size wx w') := KA
  have HB : Hid (∀ wx, Calls Try.prog 28 #[.agg #[.int .i64 K, .string M], .string s] wx fun e w' => e = .returned (.bool y) ∧ Below wx.heap.size wx w') := KB
  clear KA KB hK
  cases x
  all_goals
    go_enter Try.func21, Try.ntmps21
    go_wp2_with fail
    refine (HA.out _).mono ?_
    rintro e w1 ⟨rfl, b1⟩
    obtain ⟨hlt12, c0, c1, c2, c3⟩ := box4' b1
    have HB1 : Hid (Below w.heap.size w w1) := (bl1 _).trans (b1.mono (by simp))
    have sz1 := HB1.out.size
    clear b1
    go_wp2_with fail
  · go_ret
    exact ⟨rfl, HB1.out⟩
  · refine (HB.out _).mono ?_
    rintro e w2 ⟨rfl, b2⟩
    go_wp2_with fail
    go_ret
    exact ⟨rfl, HB1.out.trans (b2.mono sz1)⟩

/-- the range's answer is the prefix's -/
theorem range_says {p : List Int} {SP : ByteArray} {K : Int} {M s : ByteArray} (hP : Hid (strOfNums p = SP)) (h : Hid (MaxOf p K M)) :
    (decide (0 ≤ cmpL s.data.toList SP.data.toList) && maxOk K M s) = preL SP.data.toList s.data.toList := by
  rw [← hP.out, toB_str, Bool.eq_iff_iff, range_pre (toB p) s.data.toList, Bool.and_eq_true, decide_eq_true_iff]
  rcases h.out with ⟨h1, rfl, rfl⟩ | ⟨h1, rfl⟩
  · simp [h1, maxOk]
  · simp [h1, maxOk]
theorem kind_of {p : List Int} {K : Int} {M : ByteArray} (h : MaxOf p K M) : (K = 1 ∧ M.size = 0) ∨ K = 3 := by
  rcases h with ⟨h1, rfl, rfl⟩ | ⟨h1, rfl⟩
  · exact .inl ⟨rfl, by simp [ByteArray.size]⟩
  · exact .inr rfl
theorem hasPrefix_is {s t : ByteArray} {b : Bool} {w : World} (h : preL s.data.toList t.data.toList = b) (hs : s.size ≤ 100000) (ht : t.size ≤ 100000) :
    Calls Try.prog 14 #[.string t, .string s] w fun e w' => e = .returned (.bool b) ∧ ∃ n, w' = w.drewN n := by rw [← h]; exact hasPrefix_any t s w hs ht

set_option maxRecDepth 100000 in
set_option maxHeartbeats 2000000 in
theorem holds_main (a : Option Addr) (len cap : Nat) (s : ByteArray) (p : List Int) (w : World) (h : len ≤ 4096) (h' : s.size ≤ 4096)
    (hp : Hid (Src w a len cap p)) (hpb : Hid (IsBytes p)) :
    Calls Try.prog 6 #[.slice a len cap, .string s] w fun e w' => e = .returned (.bool true) ∧ Below w.heap.size w w' := by
  obtain ⟨i0, hi, hz0, hz1, hz2⟩ := info_parts Try.info5
  have hne := fun wx => run_neq_slice_nil_any (P := Try.prog) wx 22 5 a len cap 0 0 Try.underlying22
  go_enter Try.func6, Try.ntmps6
  go_upto_if 21 with (go_at_call 19; refine (bytes19_yes _ _ _ _ _ h h').mono ?_; rintro e w' ⟨rfl, rfl⟩)
  go_cut [0, 5] (fun v0 _ wx => View wx v0 p ∧ Below w.heap.size w wx)
  case first =>
    rcases a with _ | ad
    · go_wp2_with fail
      go_meet
      case rel => exact ⟨hp.out.view_nil, Below.refl _ _⟩
    · go_wp2_with (at_make; go_must (refine wpList_make_full _ rfl (.tmp 23) (.tmp 23) 22 rfl w.heap.size 5 i0 (.int .u8 0) 1 Try.underlying22 hi hz0 hz1 _ _ _ _ len rfl rfl rfl rfl (by rw [hz2]; omega) (by unfold maxLen; omega) (Nat.le_refl _) ?_))
      intro w1 own1 gr1
      have bl1 : Below w.heap.size w w1 := (Below.refl _ _).grown gr1 (Nat.le_refl _) (fun k h => by cases h)
      obtain ⟨cur, hcl, hcur⟩ := own_cur own1
      clear own1 gr1
      have Hcur : Hid (w1.heap[w.heap.size]? = some (.cells cur.toArray 5 (0, 0))) := hcur
      clear hcur
      go_wp2_with ((refine wpList_copy_splice rfl (.tmp 25) (.tmp 26) 22 22 rfl 5 Try.underlying22 (by kernel_rfl) _ _ len len len cap rfl rfl w.heap.size 0 cur 5 Hcur.out (p.map (Value.int .u8)) (by simp [hp.out.1]) (fun _ => ⟨rfl, ad, rfl, fun j u hu => cell_later bl1 (hp.out.2.2 ad rfl j u hu)⟩) (by simp [hp.out.1]; omega) (ints_oneCell _ _) w.heap.size w bl1 (Nat.le_refl _) ?_))
      intro w2 H2 bl2
      go_wp2_with fail
      go_meet
      case rel => exact ⟨hp.out.1 ▸ view_copied (hcl.trans hp.out.1.symm) H2, bl2⟩
  case rest =>
    obtain ⟨hv0, bl⟩ := hcut
    have hcv0 := conv_view hv0
    have Hv0 : Hid (View wc u0 p) := hv0
    have Hbl : Hid (Below w.heap.size w wc) := bl
    have sz := bl.size
    clear hv0 bl hne hz0 hz1 hz2 hi
    generalize hSP : strOfNums p = SP at hcv0
    have HSP : Hid (strOfNums p = SP) := hSP
    clear hSP
    have hsP : SP.size ≤ 4096 := by rw [← HSP.out, strOfNums_size, hp.out.1]; exact h
    go_wp2_with fail
    refine (pref_any u0 p _ (by rw [hp.out.1]; exact h) hpb.out Hv0.out).mono ?_
    rintro e w1 ⟨K, M, rfl, hM, hsM, b1⟩
    rw [HSP.out]
    have HM : Hid (MaxOf p K M) := hM
    have BL : Hid (∀ o, Below w.heap.size w (w1.alloc o)) := fun o => (Hbl.out.trans (b1.mono sz)).alloc (by have := b1.size; omega) _
    have sz1 := (BL.out (.cells #[] 34)).size
    have hK := kind_of hM
    clear hM b1 hcv0
    obtain ⟨B, hB⟩ : ∃ B, preL SP.data.toList s.data.toList = B := ⟨_, rfl⟩
    have HB : Hid (preL SP.data.toList s.data.toList = B) := hB
    have KI : Hid (∀ wx, Calls Try.prog 21 #[.agg #[.int .i64 2, .string SP, .int .i64 K, .string M], .string s] wx fun e w' => e = .returned (.bool B) ∧ Below wx.heap.size wx w') := fun wx => by
      have := inRange_any SP K M s wx (by omega) hsP hsM h'
      rw [range_says HSP HM, hB] at this
      exact this
    clear hB
    rcases hK with ⟨rfl, hK⟩ | rfl
    all_goals
      cases B
      all_goals
        go_wp2_with fail
        refine (cmp_is (cmpL_self _) (by omega) (by omega)).mono ?_
        rintro e w3 ⟨rfl, n3, rfl⟩
        go_wp2_with fail
        refine (KI.out _).mono ?_
        rintro e w4 ⟨rfl, b4⟩
        go_wp2_with fail
        refine (hasPrefix_is HB.out (by omega) (by omega)).mono ?_
        rintro e w5 ⟨rfl, n5, rfl⟩
        go_wp2_with fail
        go_ret
        exact ⟨rfl, below_drewN ((below_drewN (BL.out _) _).trans (b4.mono (by simp at sz1 ⊢; omega))) _⟩

end Go.Proofs.Qxb6617818a
