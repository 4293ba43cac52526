/-
  THE WALKS OF kv.matchByte AND kv.matches. By an AI agent.
-/
import Derived.Test.Qxb6617818aClass
import Derived.Test.Qxb6617818aGlob
namespace Go.Proofs.Qxb6617818a
open Go.RowKit

theorem mb_q (c : Int) (r : List Int) : mb c (63 :: r) = (true, 1) := by rcases r with _ | ⟨y, r⟩ <;> simp [mb]
theorem mb_cls (c : Int) (r : List Int) : mb c (91 :: r) = mcl c r := by rcases r with _ | ⟨y, r⟩ <;> simp [mb]
theorem mb_esc (c y : Int) (r : List Int) : mb c (92 :: y :: r) = (y == c, 2) := by simp [mb]
theorem mb_esc_end (c : Int) : mb c [92] = (92 == c, 1) := by simp [mb]
theorem mb_lit (c x : Int) (r : List Int) (h1 : x ≠ 63) (h2 : x ≠ 91) (h3 : x ≠ 92) : mb c (x :: r) = (x == c, 1) := by rcases r with _ | ⟨y, r⟩ <;> simp [mb, h1, h2, h3]

set_option maxRecDepth 100000 in
set_option maxHeartbeats 1000000 in
theorem matchByte_any (b off len cap : Nat) (x : Int) (r : List Int) (c : Int) (w : World) (hp : r.length + 1 = len) (hm : len ≤ 100000)
    (hc : ∀ j, j < len → w.cell? ⟨b, off + j, none⟩ = some (.int .u8 ((x :: r).getD j 0))) :
    Calls Try.prog 29 #[.slice (some ⟨b, off, none⟩) len cap, .int .u8 c] w fun e w' => e = .returned (.tuple #[.bool (mb c (x :: r)).1, .int .i64 (mb c (x :: r)).2]) ∧ ∃ n, w' = w.drewN n := by
  have c0 : w.cell? ⟨b, off, none⟩ = some (.int .u8 x) := by have := hc 0 (by omega); simpa using this
  have l0 : (0 : Int) < (len : Int) := by omega
  by_cases h63 : x = 63
  · subst h63
    rw [mb_q]
    clear hc
    go_enter Try.func29, Try.ntmps29
    go_wp2_with fail
    go_ret2
    exact ⟨rfl, 0, rfl⟩
  · have t63 : (x == 63) = false := by simp [h63]
    by_cases h91 : x = 91
    · subst h91
      rw [mb_cls]
      have HK : Hid (Calls Try.prog 26 #[.slice (some ⟨b, off, none⟩) len cap, .int .u8 c] w fun e w' => e = .returned (.tuple #[.bool (mcl c r).1, .int .i64 (mcl c r).2]) ∧ ∃ n, w' = w.drewN n) := matchClass_any b off len cap 91 r c w hp hm hc
      clear hc
      go_enter Try.func29, Try.ntmps29
      go_wp2_with fail
      refine Calls.mono (Hid.out HK) ?_
      rintro e w1 ⟨rfl, n, rfl⟩
      go_wp2_with fail
      go_ret2
      exact ⟨rfl, _, rfl⟩
    · have t91 : (x == 91) = false := by simp [h91]
      by_cases h92 : x = 92
      · subst h92
        rcases r with _ | ⟨y, r⟩
        · rw [mb_esc_end]
          have l1 : ¬ (1 : Int) < (len : Int) := by simp at hp; omega
          clear hc hp
          go_enter Try.func29, Try.ntmps29
          go_wp2_with fail
          go_ret2
          exact ⟨rfl, 0, rfl⟩
        · rw [mb_esc]
          have l1 : (1 : Int) < (len : Int) := by simp at hp; omega
          have c1 : w.cell? ⟨b, off + 1, none⟩ = some (.int .u8 y) := by have := hc 1 (by omega); simpa using this
          clear hc hp
          go_enter Try.func29, Try.ntmps29
          go_wp2_with fail
          go_ret2
          exact ⟨rfl, 0, rfl⟩
      · have t92 : (x == 92) = false := by simp [h92]
        rw [mb_lit c x r h63 h91 h92]
        clear hc h63 h91 h92 hp
        go_enter Try.func29, Try.ntmps29
        go_wp2_with fail
        go_ret2
        exact ⟨rfl, 0, rfl⟩

/-- a name's bytes as numbers -/
def nums (s : ByteArray) : List Int := s.data.toList.map fun c => (c.toNat : Int)
theorem nums_length (s : ByteArray) : (nums s).length = s.size := by simp [nums]
theorem nums_getD (s : ByteArray) (n : Nat) (h : n < s.size) : (nums s).getD n 0 = (s[n].toNat : Int) := by
  have h' : n < s.data.toList.length := by simpa using h
  simp only [nums, List.getD, List.getElem?_map, List.getElem?_eq_getElem h', Option.map_some, Option.getD_some]
  rfl

/-- how matches ends: its answer is the language's; memory is as it was -/
def MatchEnd (pat : List Int) (s : ByteArray) (w : World) (e : Ending) (w' : World) : Prop := ∃ B : Bool, e = .returned (.bool B) ∧ (B = true ↔ Lang (toks pat) (nums s)) ∧ ∃ n, w' = w.drewN n

theorem quiet_nd {P : Program} {f : FuncId} {args : Array Value} {w : World} {a x : Nat} {v : Value} (h : Calls P f args (w.drewN (a + x)) fun e w' => e = .returned v ∧ ∃ m, w' = (w.drewN (a + x)).drewN m) :
    Calls P f args (w.drewN (a + x)) fun e w'' => e = .returned v ∧ ∃ n, w'' = w.drewN (a + n) :=
  h.mono fun _ _ ⟨he, m, hm⟩ => ⟨he, x + m, by rw [hm, World.drewN_drewN, Nat.add_assoc]⟩

theorem slot_cells {w : World} {b off len p : Nat} {pat : List Int} (hp : Hid (pat.length = len)) (hlt : p < len) (hc : Hid (∀ j, j < len → w.cell? ⟨b, off + j, none⟩ = some (.int .u8 (pat.getD j 0)))) :
    ∀ j, j < len - p → w.cell? ⟨b, off + p + j, none⟩ = some (.int .u8 ((pat.getD p 0 :: pat.drop (p + 1)).getD j 0)) := by
  intro j hj
  rw [← drop_one pat p (by rw [hp.out]; exact hlt), Nat.add_assoc, hc.out (p + j) (by omega)]
  simp [List.getD]

set_option maxRecDepth 100000 in
set_option maxHeartbeats 2000000 in
theorem matches_any (b off len cap : Nat) (pat : List Int) (P : Nat → Int) (s : ByteArray) (w : World) (hp : Hid (pat.length = len)) (hP : Hid (∀ j, pat.getD j 0 = P j)) (hm : len ≤ 10000) (hlc : len ≤ cap) (hs : s.size ≤ 10000)
    (hc : Hid (∀ j, j < len → w.cell? ⟨b, off + j, none⟩ = some (.int .u8 (pat.getD j 0)))) :
    Calls Try.prog 24 #[.slice (some ⟨b, off, none⟩) len cap, .string s] w fun e w' => MatchEnd pat s w e w' := by
  have hN : Hid ((nums s).length = s.size) := nums_length s
  go_enter Try.func24, Try.ntmps24
  go_wp2_with fail
  go_loopw [5, 6, 7, 8] (fun s5 s6 s7 s8 wr => ∃ p n : Nat, p ≤ len ∧ n ≤ s.size ∧ s5 = .int .i64 p ∧ s6 = .int .i64 n ∧
      ((s7 = .int .i64 (-1) ∧ s8 = .int .i64 0 ∧ Hid (InvN pat (nums s) p n)) ∨ (∃ st m : Nat, st ≤ p ∧ m ≤ n ∧ s7 = .int .i64 st ∧ s8 = .int .i64 m ∧ Hid (InvS pat (nums s) p n st m))) ∧ ∃ nd, wr = w.drewN nd)
    (fun _ s6 s7 s8 _ => lexM s.size (len + 1 - (intOf s7 + 1).toNat) (s.size + 1 - (intOf s8).toNat) (s.size + 1 - (intOf s6).toNat))
  case atStart => exact ⟨0, 0, by omega, by omega, rfl, rfl, .inl ⟨rfl, rfl, Iff.rfl⟩, 0, rfl⟩
  case round =>
    obtain ⟨p, n, hpl, hnl, rfl, rfl, hst, nd, rfl⟩ := hrel
    by_cases hn : n < s.size
    · have i1 : (n : Int) < (s.size : Int) := by omega
      by_cases hpp : p < len
      · have i2 : (p : Int) < (len : Int) := by omega
        have cp : w.cell? ⟨b, off + p, none⟩ = some (.int .u8 (P p)) := by rw [← hP.out]; exact hc.out p hpp
        by_cases h42 : P p = 42
        · have t42 : (P p == 42) = true := by simp [h42]
          have H42 : Hid (pat.getD p 0 = 42) := by rw [hP.out]; exact h42
          clear h42
          rcases hst with ⟨rfl, rfl, HI⟩ | ⟨st, m, hsp, hmn, rfl, rfl, HI⟩
          · have HI' : Hid (InvS pat (nums s) (p + 1) n (p + 1) n) := n_star HI.out (by rw [hp.out]; exact hpp) H42.out (by rw [hN.out]; exact hnl)
            go_wp2_with fail
            go_roundw
            case rel => exact ⟨p + 1, n, by omega, hnl, by go_num, rfl, .inr ⟨p + 1, n, by omega, by omega, by go_num, rfl, HI'⟩, nd, rfl⟩
            case measure => exact lex_a (by simp [intOf]; omega) (by simp [intOf]) (by simp [intOf])
          · have HI' : Hid (InvS pat (nums s) (p + 1) n (p + 1) n) := s_star HI.out (by rw [hp.out]; exact hpp) H42.out (by rw [hN.out]; exact hnl)
            go_wp2_with fail
            go_roundw
            case rel => exact ⟨p + 1, n, by omega, hnl, by go_num, rfl, .inr ⟨p + 1, n, by omega, by omega, by go_num, rfl, HI'⟩, nd, rfl⟩
            case measure => exact lex_a (by simp [intOf]; omega) (by simp [intOf]) (by simp [intOf])
        · have t42 : (P p == 42) = false := by simp [h42]
          have H42 : Hid (pat.getD p 0 ≠ 42) := by rw [hP.out]; exact h42
          clear h42
          have hcp : ¬ cap = p := by omega
          obtain ⟨B, W, hB, hW, HK⟩ : ∃ (B : Bool) (W : Nat), Hid ((mb (s[n].toNat : Int) (pat.drop p)).1 = B) ∧ Hid ((mb (s[n].toNat : Int) (pat.drop p)).2 = W) ∧ Hid (∀ k, Calls Try.prog 29 #[.slice (some ⟨b, off + p, none⟩) (len - p) (cap - p), .int .u8 (s[n].toNat : Int)] (w.drewN k) fun e w' => e = .returned (.tuple #[.bool B, .int .i64 W]) ∧ ∃ m, w' = (w.drewN k).drewN m) := by
            refine ⟨_, _, rfl, rfl, fun k => ?_⟩
            rw [drop_one pat p (by rw [hp.out]; exact hpp)]
            exact matchByte_any b (off + p) (len - p) (cap - p) (pat.getD p 0) (pat.drop (p + 1)) _ (w.drewN k) (by rw [List.length_drop, hp.out]; omega) (by omega) (slot_cells hp hpp hc)
          have hWb : 1 ≤ W ∧ p + W ≤ len := by
            have := mb_bounds (s[n].toNat : Int) (pat.drop p) (by rw [drop_one pat p (by rw [hp.out]; exact hpp)]; simp)
            rw [hW.out, List.length_drop, hp.out] at this
            omega
          cases B
          · have HL : Hid (¬ Lang (toks (pat.drop p)) ((nums s).drop n)) := miss_lang (by rw [hN.out]; exact hn) (nums_getD s n hn) (.inr ⟨by rw [hp.out]; exact hpp, H42.out, hB.out⟩)
            rcases hst with ⟨rfl, rfl, HI⟩ | ⟨st, m, hsp, hmn, rfl, rfl, HI⟩
            · have HF := n_miss HI.out HL.out
              have HF' : Hid (¬ Lang (toks pat) (nums s)) := HF
              clear HF
              go_wp2_with fail
              go_quiet ((go_at_call 29; go_must (exact quiet_nd (HK.out _))))
              go_wp2_with fail
              go_ret
              exact ⟨false, rfl, by simp [HF'.out], _, by first | rfl | (simp only [World.drewN_drewN]; rfl)⟩
            · have HI' : Hid (InvS pat (nums s) st (m + 1) st (m + 1)) := s_miss HI.out (by rw [hN.out]; exact hn) HL.out
              go_wp2_with fail
              go_quiet ((go_at_call 29; go_must (exact quiet_nd (HK.out _))))
              go_wp2_with fail
              go_roundw
              case rel => exact ⟨st, m + 1, by omega, by omega, rfl, by go_num, .inr ⟨st, m + 1, by omega, by omega, rfl, by go_num, HI'⟩, _, rfl⟩
              case measure => exact lex_b (by simp [intOf]; omega) (by simp [intOf] <;> omega)
          · rcases hst with ⟨rfl, rfl, HI⟩ | ⟨st, m, hsp, hmn, rfl, rfl, HI⟩
            · have HI' : Hid (InvN pat (nums s) (p + W) (n + 1)) := by
                have := n_hit HI.out (by rw [hp.out]; exact hpp) H42.out (by rw [hN.out]; exact hn) (nums_getD s n hn) hB.out
                rw [hW.out] at this; exact this
              go_wp2_with fail
              go_quiet ((go_at_call 29; go_must (exact quiet_nd (HK.out _))))
              go_wp2_with fail
              go_roundw
              case rel => exact ⟨p + W, n + 1, by omega, by omega, by go_num, by go_num, .inl ⟨rfl, rfl, HI'⟩, _, rfl⟩
              case measure => exact lex_c (by simp [intOf]; omega)
            · have HI' : Hid (InvS pat (nums s) (p + W) (n + 1) st m) := by
                have := s_hit HI.out (by rw [hp.out]; exact hpp) H42.out (nums_getD s n hn) hB.out
                rw [hW.out] at this; exact this
              go_wp2_with fail
              go_quiet ((go_at_call 29; go_must (exact quiet_nd (HK.out _))))
              go_wp2_with fail
              go_roundw
              case rel => exact ⟨p + W, n + 1, by omega, by omega, by go_num, by go_num, .inr ⟨st, m, by omega, by omega, rfl, rfl, HI'⟩, _, rfl⟩
              case measure => exact lex_c (by simp [intOf]; omega)
      · have i2 : ¬ (p : Int) < (len : Int) := by omega
        have HL : Hid (¬ Lang (toks (pat.drop p)) ((nums s).drop n)) := miss_lang (by rw [hN.out]; exact hn) (nums_getD s n hn) (.inl (by rw [hp.out]; exact hpp))
        rcases hst with ⟨rfl, rfl, HI⟩ | ⟨st, m, hsp, hmn, rfl, rfl, HI⟩
        · have HF' : Hid (¬ Lang (toks pat) (nums s)) := n_miss HI.out HL.out
          go_wp2_with fail
          go_ret
          exact ⟨false, rfl, by simp [HF'.out], _, rfl⟩
        · have HI' : Hid (InvS pat (nums s) st (m + 1) st (m + 1)) := s_miss HI.out (by rw [hN.out]; exact hn) HL.out
          go_wp2_with fail
          go_roundw
          case rel => exact ⟨st, m + 1, by omega, by omega, rfl, by go_num, .inr ⟨st, m + 1, by omega, by omega, rfl, by go_num, HI'⟩, _, rfl⟩
          case measure => exact lex_b (by simp [intOf]; omega) (by simp [intOf] <;> omega)
    · have i1 : ¬ (n : Int) < (s.size : Int) := by omega
      have HE : Hid (Lang (toks pat) (nums s) ↔ Lang (toks (pat.drop p)) []) := by
        have e : n = (nums s).length := by rw [hN.out]; omega
        rcases hst with ⟨rfl, rfl, HI⟩ | ⟨st, m, hsp, hmn, rfl, rfl, HI⟩
        · rw [e] at HI; exact n_end HI.out
        · rw [e] at HI; exact s_end HI.out
      clear hst
      go_wp2_with fail
      go_loop [5] (fun s5 => ∃ p : Nat, p ≤ len ∧ s5 = .int .i64 p ∧ Hid (Lang (toks pat) (nums s) ↔ Lang (toks (pat.drop p)) [])) (fun s5 => len - (intOf s5).toNat)
      case atStart => exact ⟨p, hpl, rfl, HE⟩
      case round =>
        clear HE
        clear hpl
        obtain ⟨q, hql, rfl, HE⟩ := hrel
        by_cases hqq : q < len
        · have i2 : (q : Int) < (len : Int) := by omega
          have cq : w.cell? ⟨b, off + q, none⟩ = some (.int .u8 (P q)) := by rw [← hP.out]; exact hc.out q hqq
          by_cases h42 : P q = 42
          · have t42 : (P q == 42) = true := by simp [h42]
            have HE' : Hid (Lang (toks pat) (nums s) ↔ Lang (toks (pat.drop (q + 1))) []) := HE.out.trans (end_star (by rw [hp.out]; exact hqq) (by rw [hP.out]; exact h42))
            clear h42
            go_wp2_with fail
            go_round
            case rel => exact ⟨q + 1, by omega, by go_num, HE'⟩
            case measure => simp [intOf]; omega
          · have t42 : (P q == 42) = false := by simp [h42]
            have HE' : Hid (¬ Lang (toks pat) (nums s)) := fun g => end_other (by rw [hp.out]; exact hqq) (by rw [hP.out]; exact h42) (HE.out.1 g)
            have hne : ((q : Int) == (len : Int)) = false := by simp; omega
            clear h42
            go_wp2_with fail
            go_ret
            exact ⟨false, rfl, by simp [HE'.out], _, rfl⟩
        · have i2 : ¬ (q : Int) < (len : Int) := by omega
          have HE' : Hid (Lang (toks pat) (nums s)) := HE.out.2 (end_end (by rw [hp.out]; omega))
          have hne : ((q : Int) == (len : Int)) = true := by simp; omega
          go_wp2_with fail
          go_ret
          exact ⟨true, rfl, by simp [HE'.out], _, rfl⟩

end Go.Proofs.Qxb6617818a
