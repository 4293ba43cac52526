/-
  THE WALK OF FnPrefixRangesNestOrPartition. By an AI agent.
-/
import Derived.Test.Qxb6617818aView
namespace Go.Proofs.Qxb6617818a
open Go.RowKit

theorem bytes22_yes (a : Option Addr) (len cap : Nat) (a' : Option Addr) (len' cap' : Nat) (w : World) (h : len ≤ 4096) (h' : len' ≤ 4096) :
    Calls Try.prog 22 #[.slice a len cap, .slice a' len' cap'] w fun e w' => e = .returned (.bool true) ∧ w = w' := by
  go_enter Try.func22, Try.ntmps22
  go_wp2
  go_ret
  exact ⟨rfl, rfl⟩

/-- too long: true -/
theorem bytes22_any (a : Option Addr) (len cap : Nat) (a' : Option Addr) (len' cap' : Nat) (w : World) (hm : len ≤ maxLen) (hm' : len' ≤ maxLen) :
    Calls Try.prog 22 #[.slice a len cap, .slice a' len' cap'] w fun e w' => (∃ b, e = .returned (.bool b)) ∧ w = w' := by
  unfold maxLen at hm hm'
  go_enter Try.func22, Try.ntmps22
  go_wp2
  all_goals
    go_ret
    exact ⟨⟨_, rfl⟩, rfl⟩

theorem nest_long (a : Option Addr) (len cap : Nat) (a' : Option Addr) (len' cap' : Nat) (w : World) (hm : len ≤ maxLen) (hm' : len' ≤ maxLen) (h : 4096 < len ∨ 4096 < len') :
    Calls Try.prog 7 #[.slice a len cap, .slice a' len' cap'] w fun e w' => e = .returned (.bool true) ∧ Below w.heap.size w w' := by
  have K := bytes22_any a len cap a' len' cap' w hm hm'
  have HK : Hid (Calls Try.prog 22 #[.slice a len cap, .slice a' len' cap'] w fun e w' => (∃ b, e = .returned (.bool b)) ∧ w = w') := K
  clear K
  rcases h with h | h
  · have hd : decide ((4096 : Int) < (len : Int)) = true := decide_eq_true (by omega)
    go_enter Try.func7, Try.ntmps7
    go_wp2_with fail
    refine Calls.mono (Hid.out HK) ?_
    rintro e w' ⟨⟨b, rfl⟩, rfl⟩
    cases b
    all_goals
      go_wp2_with fail
      go_ret
      exact ⟨rfl, Below.refl _ _⟩
  · have hd : decide ((4096 : Int) < (len' : Int)) = true := decide_eq_true (by omega)
    by_cases h1 : 4096 < len
    all_goals
      go_enter Try.func7, Try.ntmps7
      go_wp2_with fail
      refine Calls.mono (Hid.out HK) ?_
      rintro e w' ⟨⟨b, rfl⟩, rfl⟩
      cases b
      all_goals
        go_wp2_with fail
        go_ret
        exact ⟨rfl, Below.refl _ _⟩

theorem box4 {w1 w2 : World} {a b c d : Value} (h : Below (w1.alloc (.cells #[a, b, c, d] 34)).heap.size (w1.alloc (.cells #[a, b, c, d] 34)) w2) :
    w1.heap.size < w2.heap.size ∧ w2.cell? ⟨w1.heap.size, 0, none⟩ = some a ∧ w2.cell? ⟨w1.heap.size, 1, none⟩ = some b ∧ w2.cell? ⟨w1.heap.size, 2, none⟩ = some c ∧ w2.cell? ⟨w1.heap.size, 3, none⟩ = some d := by
  have s1 : (w1.alloc (.cells #[a, b, c, d] 34)).heap.size = w1.heap.size + 1 := by show (w1.heap.push _).size = _; simp
  have hs := h.size
  have e : ∀ i, w2.cell? ⟨w1.heap.size, i, none⟩ = #[a, b, c, d][i]? := fun i => by
    rw [h.cell (p := ⟨w1.heap.size, i, none⟩) (by rw [s1]; show w1.heap.size < _; omega), World.cell?_alloc_at _ _ _ _ rfl]
  exact ⟨by omega, e 0, e 1, e 2, e 3⟩

theorem cmp_of {s t : ByteArray} {c : Int} {w : World} (h : cmpL s.data.toList t.data.toList = c) (hs : s.size ≤ 100000) (ht : t.size ≤ 100000) :
    Calls Try.prog 13 #[.string s, .string t] w fun e w' => e = .returned (.int .i64 c) ∧ ∃ n, w' = w.drewN n := by rw [← h]; exact cmp_any s t w hs ht
theorem cmp_same (s : ByteArray) (w : World) (hs : s.size ≤ 100000) :
    Calls Try.prog 13 #[.string s, .string s] w fun e w' => e = .returned (.int .i64 0) ∧ ∃ n, w' = w.drewN n := cmp_of (cmpL_self _) hs hs
theorem hasPrefix_of {s t : ByteArray} {b : Bool} {w : World} (h : preL s.data.toList t.data.toList = b) (hs : s.size ≤ 100000) (ht : t.size ≤ 100000) :
    Calls Try.prog 14 #[.string t, .string s] w fun e w' => e = .returned (.bool b) ∧ ∃ n, w' = w.drewN n := by rw [← h]; exact hasPrefix_any t s w hs ht

def WithinOk (K2 : Int) (M2 : ByteArray) (K1 : Int) (M1 : ByteArray) : Prop := K1 = 1 ∨ (K1 = 3 ∧ K2 = 3 ∧ cmpL M2.data.toList M1.data.toList ≤ 0)
set_option maxHeartbeats 400000 in
theorem maxWithin_true (K2 : Int) (M2 : ByteArray) (K1 : Int) (M1 : ByteArray) (w : World) (h2 : M2.size ≤ 4096) (h1 : M1.size ≤ 4096) (h : WithinOk K2 M2 K1 M1) :
    Calls Try.prog 23 #[.agg #[.int .i64 K2, .string M2], .agg #[.int .i64 K1, .string M1]] w fun e w' => e = .returned (.bool true) ∧ Below w.heap.size w w' := by
  rcases h with rfl | ⟨rfl, rfl, hc⟩
  · go_enter Try.func23, Try.ntmps23
    go_wp2_with fail
    go_ret
    exact ⟨rfl, bl2 _ _⟩
  · obtain ⟨c, hcc⟩ : ∃ c, cmpL M2.data.toList M1.data.toList = c := ⟨_, rfl⟩
    rw [hcc] at hc
    have HC : Hid (cmpL M2.data.toList M1.data.toList = c) := hcc
    clear hcc
    go_enter Try.func23, Try.ntmps23
    go_wp2_with fail
    refine (cmp_of HC.out (by omega) (by omega)).mono ?_
    rintro e w' ⟨rfl, n, rfl⟩
    go_wp2_with fail
    go_ret
    exact ⟨rfl, below_drewN (bl2 _ _) _⟩

theorem nest_cond {p q : List Int} {SP SQ : ByteArray} {K1 K2 : Int} {M1 M2 : ByteArray} (hP : Hid (strOfNums p = SP)) (hQ : Hid (strOfNums q = SQ)) (h : Hid (preL SP.data.toList SQ.data.toList = true)) (h1 : Hid (MaxOf p K1 M1)) (h2 : Hid (MaxOf q K2 M2)) :
    WithinOk K2 M2 K1 M1 := by
  have h' := h.out
  rw [← hP.out, ← hQ.out, toB_str, toB_str] at h'
  rcases h1.out with ⟨_, k1, _⟩ | ⟨e1, k1⟩
  · exact .inl k1
  · obtain ⟨m', e2, hc⟩ := nest _ _ h' _ e1
    rcases h2.out with ⟨e3, _⟩ | ⟨e3, k2⟩
    · rw [e2] at e3; cases e3
    · rw [e2] at e3; cases e3
      exact .inr ⟨k1, k2, hc⟩
theorem part_cond {p q : List Int} {SP SQ : ByteArray} {K1 : Int} {M1 : ByteArray} (hP : Hid (strOfNums p = SP)) (hQ : Hid (strOfNums q = SQ)) (h : Hid (preL SP.data.toList SQ.data.toList = false)) (h' : Hid (preL SQ.data.toList SP.data.toList = false)) (hc : cmpL SP.data.toList SQ.data.toList < 0) (h1 : Hid (MaxOf p K1 M1)) :
    K1 = 3 ∧ cmpL M1.data.toList SQ.data.toList ≤ 0 := by
  have a := h.out
  have b := h'.out
  rw [← hP.out, ← hQ.out, toB_str, toB_str] at a b hc
  obtain ⟨m, e1, hm⟩ := part _ _ a b hc
  rcases h1.out with ⟨e3, _⟩ | ⟨e3, k⟩
  · rw [e1] at e3; cases e3
  · rw [e1] at e3; cases e3
    rw [← hQ.out]
    exact ⟨k, hm⟩

theorem gt_cond {a b : List UInt8} (h : Hid (preL a b = false)) (hge : 0 ≤ cmpL a b) : cmpL b a < 0 := by
  have h1 := cmpL_swap b a
  have h2 : cmpL a b ≠ 0 := fun e => by
    rw [(cmpL_zero a b).1 e] at h
    have h3 : preL b b = true := by clear h1 e hge h; induction b with | nil => rfl | cons x r ih => simp [preL, ih]
    rw [h.out] at h3; cases h3
  omega

set_option maxRecDepth 100000 in
set_option maxHeartbeats 2000000 in
theorem nest_main (a : Option Addr) (len cap : Nat) (a' : Option Addr) (len' cap' : Nat) (p q : List Int) (w : World) (h : len ≤ 4096) (h' : len' ≤ 4096)
    (hp : Hid (Src w a len cap p)) (hq : Hid (Src w a' len' cap' q)) (hpb : Hid (IsBytes p)) (hqb : Hid (IsBytes q)) :
    Calls Try.prog 7 #[.slice a len cap, .slice a' len' cap'] w fun e w' => e = .returned (.bool true) ∧ Below w.heap.size w w' := by
  obtain ⟨i0, hi, hz0, hz1, hz2⟩ := info_parts Try.info5
  have hne := fun wx => run_neq_slice_nil_any (P := Try.prog) wx 22 5 a len cap 0 0 Try.underlying22
  have hne' := fun wx => run_neq_slice_nil_any (P := Try.prog) wx 22 5 a' len' cap' 0 0 Try.underlying22
  go_enter Try.func7, Try.ntmps7
  go_upto_if 24 with (go_at_call 22; refine (bytes22_yes _ _ _ _ _ _ _ h h').mono ?_; rintro e w' ⟨rfl, rfl⟩)
  go_cut [0, 5] (fun v0 _ wx => View wx v0 p ∧ Below w.heap.size w wx)
  case first =>
    rcases a with _ | ad
    · go_wp2_with fail
      go_meet
      case rel => exact ⟨hp.out.view_nil, Below.refl _ _⟩
    · go_wp2_with (at_make; go_must (refine wpList_make_full _ rfl (.tmp 26) (.tmp 26) 22 rfl w.heap.size 5 i0 (.int .u8 0) 1 Try.underlying22 hi hz0 hz1 _ _ _ _ len rfl rfl rfl rfl (by rw [hz2]; omega) (by unfold maxLen; omega) (Nat.le_refl _) ?_))
      intro w1 own1 gr1
      have bl1 : Below w.heap.size w w1 := (Below.refl _ _).grown gr1 (Nat.le_refl _) (fun k h => by cases h)
      obtain ⟨cur, hcl, hcur⟩ := own_cur own1
      clear own1 gr1
      have Hcur : Hid _ := hcur
      clear hcur
      go_wp2_with ((refine wpList_copy_splice rfl (.tmp 28) (.tmp 29) 22 22 rfl 5 Try.underlying22 (by kernel_rfl) _ _ len len len cap rfl rfl w.heap.size 0 cur 5 Hcur.out (p.map (Value.int .u8)) (by simp [hp.out.1]) (fun _ => ⟨rfl, ad, rfl, fun j u hu => cell_later bl1 (hp.out.2.2 ad rfl j u hu)⟩) (by simp [hp.out.1]; omega) (ints_oneCell _ _) w.heap.size w bl1 (Nat.le_refl _) ?_))
      intro w2 H2 bl2
      go_wp2_with fail
      go_meet
      case rel => exact ⟨hp.out.1 ▸ view_copied (hcl.trans hp.out.1.symm) H2, bl2⟩
  case rest =>
    obtain ⟨hv0, bl⟩ := hcut
    have Hv0 : Hid (View wc u0 p) := hv0
    have Hbl : Hid (Below w.heap.size w wc) := bl
    have sz := bl.size
    have hq' : Hid (Src wc a' len' cap' q) := hq.out.below bl
    clear hv0 bl hne
    go_upto_if 33 with fail
    go_cut [1, 6] (fun v1 _ wx => View wx v1 q ∧ View wx u0 p ∧ Below w.heap.size w wx)
    case first =>
      rcases a' with _ | ad
      · go_wp2_with fail
        go_meet
        case rel => exact ⟨hq'.out.view_nil, Hv0.out, Hbl.out⟩
      · go_wp2_with (at_make; go_must (refine wpList_make_full _ rfl (.tmp 35) (.tmp 35) 22 rfl wc.heap.size 5 i0 (.int .u8 0) 1 Try.underlying22 hi hz0 hz1 _ _ _ _ len' rfl rfl rfl rfl (by rw [hz2]; omega) (by unfold maxLen; omega) (Nat.le_refl _) ?_))
        intro w1 own1 gr1
        have bl1 : Below wc.heap.size wc w1 := (Below.refl _ _).grown gr1 (Nat.le_refl _) (fun k h => by cases h)
        obtain ⟨cur, hcl, hcur⟩ := own_cur own1
        clear own1 gr1
        have Hcur : Hid _ := hcur
        clear hcur
        go_wp2_with ((refine wpList_copy_splice rfl (.tmp 37) (.tmp 38) 22 22 rfl 5 Try.underlying22 (by kernel_rfl) _ _ len' len' len' cap' rfl rfl wc.heap.size 0 cur 5 Hcur.out (q.map (Value.int .u8)) (by simp [hq'.out.1]) (fun _ => ⟨rfl, ad, rfl, fun j u hu => cell_later bl1 (hq'.out.2.2 ad rfl j u hu)⟩) (by simp [hq'.out.1]; omega) (ints_oneCell _ _) wc.heap.size wc bl1 (Nat.le_refl _) ?_))
        intro w2 H2 bl2
        go_wp2_with fail
        go_meet
        case rel => exact ⟨hq'.out.1 ▸ view_copied (hcl.trans hq'.out.1.symm) H2, Hv0.out.below bl2, Hbl.out.trans (bl2.mono sz)⟩
    case rest =>
      obtain ⟨hv1, hv0, bl⟩ := hcut
      have hcv0 := conv_view hv0
      have hcv1 := conv_view hv1
      have Hv0 : Hid (View wc u0 p) := hv0
      have Hv1 : Hid (View wc u1 q) := hv1
      have Hbl : Hid (Below w.heap.size w wc) := bl
      have sz := bl.size
      clear hv0 hv1 bl hne' hq' hz0 hz1 hz2 hi
      generalize hSP : strOfNums p = SP at hcv0
      generalize hSQ : strOfNums q = SQ at hcv1
      have HSP : Hid (strOfNums p = SP) := hSP
      have HSQ : Hid (strOfNums q = SQ) := hSQ
      clear hSP hSQ
      have hsP : SP.size ≤ 4096 := by rw [← HSP.out, strOfNums_size, hp.out.1]; exact h
      have hsQ : SQ.size ≤ 4096 := by rw [← HSQ.out, strOfNums_size, hq.out.1]; exact h'
      go_wp2_with fail
      refine (pref_any u0 p _ (by rw [hp.out.1]; exact h) hpb.out Hv0.out).mono ?_
      rintro e w1 ⟨K1, M1, rfl, hM1, hs1, bl1⟩
      rw [HSP.out]
      have HM1 : Hid (MaxOf p K1 M1) := hM1
      clear hM1 hcv0 hcv1
      go_wp2_with fail
      refine (pref_any u1 q _ (by rw [hq.out.1]; exact h') hqb.out (Hv1.out.below (bl1.alloc bl1.size _))).mono ?_
      rintro e w2 ⟨K2, M2, rfl, hM2, hs2, bl2⟩
      rw [HSQ.out]
      have HM2 : Hid (MaxOf q K2 M2) := hM2
      obtain ⟨hlt12, c0, c1, c2, c3⟩ := box4 bl2
      have BL : Hid (∀ o, Below w.heap.size w (w2.alloc o)) := fun o => (Hbl.out.trans (bl1.mono sz)).trans ((((Below.refl _ _).alloc (Nat.le_refl _) _).trans (bl2.mono (by simp))).alloc (by omega) _ |>.mono (by have := bl1.size; omega))
      clear hM2 bl1 bl2
      go_wp2_with fail
      refine (cmp_same SP _ (by omega)).mono ?_
      rintro e w3 ⟨rfl, n3, rfl⟩
      go_wp2_with fail
      refine (cmp_same SQ _ (by omega)).mono ?_
      rintro e w3 ⟨rfl, n4, rfl⟩
      go_wp2_with fail
      cases hpq : preL SP.data.toList SQ.data.toList
      · refine (hasPrefix_of hpq (by omega) (by omega)).mono ?_
        rintro e w3 ⟨rfl, n5, rfl⟩
        have Hpq : Hid (preL SP.data.toList SQ.data.toList = false) := hpq
        clear hpq
        go_wp2_with fail
        cases hqp : preL SQ.data.toList SP.data.toList
        · refine (hasPrefix_of hqp (by omega) (by omega)).mono ?_
          rintro e w3 ⟨rfl, n6, rfl⟩
          have Hqp : Hid (preL SQ.data.toList SP.data.toList = false) := hqp
          clear hqp
          go_wp2_with fail
          rcases Int.lt_or_le (cmpL SP.data.toList SQ.data.toList) 0 with hlt | hge
          · obtain ⟨rfl, hle⟩ := part_cond HSP HSQ Hpq Hqp hlt HM1
            obtain ⟨c, hcc⟩ : ∃ c, cmpL SP.data.toList SQ.data.toList = c := ⟨_, rfl⟩
            obtain ⟨d, hdd⟩ : ∃ d, cmpL M1.data.toList SQ.data.toList = d := ⟨_, rfl⟩
            rw [hcc] at hlt
            rw [hdd] at hle
            have HC : Hid (cmpL SP.data.toList SQ.data.toList = c) := hcc
            have HD : Hid (cmpL M1.data.toList SQ.data.toList = d) := hdd
            clear hcc hdd
            refine (cmp_of HC.out (by omega) (by omega)).mono ?_
            rintro e w3 ⟨rfl, n7, rfl⟩
            go_wp2_with fail
            refine (cmp_of HD.out (by omega) (by omega)).mono ?_
            rintro e w3 ⟨rfl, n8, rfl⟩
            go_wp2_with fail
            go_ret
            exact ⟨rfl, below_drewN (BL.out _) _⟩
          · have hlt := gt_cond Hpq hge
            obtain ⟨rfl, hle⟩ := part_cond HSQ HSP Hqp Hpq hlt HM2
            obtain ⟨c, hcc⟩ : ∃ c, cmpL SP.data.toList SQ.data.toList = c := ⟨_, rfl⟩
            obtain ⟨d, hdd⟩ : ∃ d, cmpL M2.data.toList SP.data.toList = d := ⟨_, rfl⟩
            rw [hcc] at hge
            rw [hdd] at hle
            have HC : Hid (cmpL SP.data.toList SQ.data.toList = c) := hcc
            have HD : Hid (cmpL M2.data.toList SP.data.toList = d) := hdd
            clear hcc hdd hlt
            refine (cmp_of HC.out (by omega) (by omega)).mono ?_
            rintro e w3 ⟨rfl, n7, rfl⟩
            go_wp2_with fail
            refine (cmp_of HD.out (by omega) (by omega)).mono ?_
            rintro e w3 ⟨rfl, n8, rfl⟩
            go_wp2_with fail
            go_ret
            exact ⟨rfl, below_drewN (BL.out _) _⟩
        · refine (hasPrefix_of hqp (by omega) (by omega)).mono ?_
          rintro e w3 ⟨rfl, n6, rfl⟩
          have Hqp : Hid (preL SQ.data.toList SP.data.toList = true) := hqp
          clear hqp
          have hcond := nest_cond HSQ HSP Hqp HM2 HM1
          go_wp2_with fail
          refine (maxWithin_true K1 M1 K2 M2 _ hs1 hs2 hcond).mono ?_
          rintro e w3 ⟨rfl, bl3⟩
          go_wp2_with fail
          go_ret
          exact ⟨rfl, (below_drewN (BL.out _) _).trans (bl3.mono (by have := (BL.out (.cells #[] 34)).size; simp at this ⊢; omega))⟩
      · refine (hasPrefix_of hpq (by omega) (by omega)).mono ?_
        rintro e w3 ⟨rfl, n5, rfl⟩
        have Hpq : Hid (preL SP.data.toList SQ.data.toList = true) := hpq
        clear hpq
        have hcond := nest_cond HSP HSQ Hpq HM1 HM2
        go_wp2_with fail
        refine (maxWithin_true K2 M2 K1 M1 _ hs2 hs1 hcond).mono ?_
        rintro e w3 ⟨rfl, bl3⟩
        go_wp2_with fail
        go_ret
        exact ⟨rfl, (below_drewN (BL.out _) _).trans (bl3.mono (by have := (BL.out (.cells #[] 34)).size; simp at this ⊢; omega))⟩

end Go.Proofs.Qxb6617818a
