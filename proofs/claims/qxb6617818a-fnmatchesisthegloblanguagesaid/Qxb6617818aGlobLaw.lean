/-
  THE WALK OF FnMatchesIsTheGlobLanguage. By an AI agent.
-/
import Derived.Test.Qxb6617818aGlobWalk
import Derived.Test.Qxb6617818aMatch
import Derived.Test.Qxb6617818aView
namespace Go.Proofs.Qxb6617818a
open Go.RowKit

theorem lang_none (s : ByteArray) : Lang (toks []) (nums s) ↔ s.size = 0 := by
  rw [toks_nil, ← nums_length s]
  show nums s = [] ↔ _
  exact List.length_eq_zero_iff.symm

/-- matches on no pattern -/
theorem matches_nil (s : ByteArray) (w : World) (hs : s.size ≤ 10000) : Calls Try.prog 24 #[.slice none 0 0, .string s] w fun e w' => MatchEnd [] s w e w' := by
  by_cases h0 : s.size = 0
  · have i1 : ¬ (0 : Int) < (s.size : Int) := by omega
    have HE : Hid (Lang (toks []) (nums s)) := (lang_none s).2 h0
    go_enter Try.func24, Try.ntmps24
    go_wp2_with fail
    go_loop [5, 6, 7, 8] (fun s5 s6 s7 s8 => s5 = .int .i64 0 ∧ s6 = .int .i64 0 ∧ s7 = .int .i64 (-1) ∧ s8 = .int .i64 0) (fun _ _ _ _ => 0)
    case atStart => exact ⟨rfl, rfl, rfl, rfl⟩
    case round =>
      obtain ⟨rfl, rfl, rfl, rfl⟩ := hrel
      go_wp2_with fail
      go_loop [5] (fun s5 => s5 = .int .i64 0) (fun _ => 0)
      case atStart => rfl
      case round =>
        subst hrel
        go_wp2_with fail
        go_ret
        exact ⟨true, rfl, by simp [HE.out], 0, rfl⟩
  · have i1 : (0 : Int) < (s.size : Int) := by omega
    have HE : Hid (¬ Lang (toks []) (nums s)) := fun g => h0 ((lang_none s).1 g)
    go_enter Try.func24, Try.ntmps24
    go_wp2_with fail
    go_loop [5, 6, 7, 8] (fun s5 s6 s7 s8 => s5 = .int .i64 0 ∧ s6 = .int .i64 0 ∧ s7 = .int .i64 (-1) ∧ s8 = .int .i64 0) (fun _ _ _ _ => 0)
    case atStart => exact ⟨rfl, rfl, rfl, rfl⟩
    case round =>
      obtain ⟨rfl, rfl, rfl, rfl⟩ := hrel
      go_wp2_with fail
      go_ret
      exact ⟨false, rfl, by simp [HE.out], 0, rfl⟩

theorem matches_view {w : World} {v : Value} {p : List Int} (s : ByteArray) (h : View w v p) (hp : p.length ≤ 4096) (hs : s.size ≤ 4096) :
    Calls Try.prog 24 #[v, .string s] w fun e w' => MatchEnd p s w e w' := by
  rcases h with ⟨rfl, rfl⟩ | ⟨b, off, cap, rfl, hcap, hb, hcell⟩
  · exact matches_nil s w (by omega)
  · exact matches_any b off p.length cap p (fun j => p.getD j 0) s w rfl (fun _ => rfl) (by omega) hcap (by omega) hcell

/-- ZZmatches hands it on -/
theorem zzMatches_view {w : World} {v : Value} {p : List Int} (s : ByteArray) (h : View w v p) (hp : p.length ≤ 4096) (hs : s.size ≤ 4096) :
    Calls Try.prog 9 #[v, .string s] w fun e w' => MatchEnd p s w e w' := by
  have HK : Hid (Calls Try.prog 24 #[v, .string s] w fun e w' => MatchEnd p s w e w') := matches_view s h hp hs
  clear h
  go_enter Try.func9, Try.ntmps9
  go_wp2_with fail
  refine Calls.mono (Hid.out HK) ?_
  rintro e w1 ⟨B, rfl, hB, k, rfl⟩
  have HB : Hid (B = true ↔ Lang (toks p) (nums s)) := hB
  clear hB
  go_wp2_with fail
  go_ret
  exact ⟨B, rfl, HB.out, _, rfl⟩

theorem toks_none (w : World) : Calls Try.prog 25 #[.slice none 0 0] w fun e w' => TokEnd [] 0 w e w' := by
  go_enter Try.func25, Try.ntmps25
  go_wp2_with fail
  go_loopw [3, 4] (fun s3 s4 wr => s3 = .slice none 0 0 ∧ s4 = .int .i64 0 ∧ w = wr) (fun _ _ _ => 0)
  case atStart => exact ⟨rfl, rfl, rfl⟩
  case round =>
    obtain ⟨rfl, rfl, rfl⟩ := hrel
    go_wp2_with fail
    go_ret
    exact ⟨_, [], rfl, by simp, World.ownsRow_nil _ _ _ _, by rw [toks_nil]; trivial, Below.refl _ _⟩

theorem toks_view {w : World} {v : Value} {p : List Int} (h : View w v p) (hb : IsBytes p) (hp : p.length ≤ 4096) :
    Calls Try.prog 25 #[v] w fun e w' => TokEnd p p.length w e w' := by
  rcases h with ⟨rfl, rfl⟩ | ⟨b, off, cap, rfl, hcap, hb', hcell⟩
  · exact toks_none w
  · have e : ∀ j, p.getD j 0 = (((p.getD j 0).toNat : Nat) : Int) := fun j => by have := hb.at j; omega
    exact toks_walk b off p.length cap p (fun j => (p.getD j 0).toNat) w rfl e (fun j => by have := hb.at j; show (p.getD j 0).toNat < 256; omega) (by omega) hcap hb' (fun j hj => by rw [← e j]; exact hcell j hj)

theorem glob_view {w : World} {v : Value} {p : List Int} (s : ByteArray) (h : View w v p) (hb : IsBytes p) (hp : p.length ≤ 4096) (hs : s.size ≤ 4096) :
    Calls Try.prog 10 #[v, .string s] w fun e w' => GlobEnd p s w e w' :=
  glob_walk v p.length p s w (by omega) (by omega) (toks_view h hb hp)

/-! ### the law -/
theorem bytes8_yes (a : Option Addr) (len cap : Nat) (s : ByteArray) (w : World) (h : len ≤ 4096) (h' : s.size ≤ 4096) :
    Calls Try.prog 8 #[.slice a len cap, .string s] w fun e w' => e = .returned (.bool true) ∧ w = w' := by
  go_enter Try.func8, Try.ntmps8
  go_wp2
  go_ret
  exact ⟨rfl, rfl⟩

theorem bytes8_any (a : Option Addr) (len cap : Nat) (s : ByteArray) (w : World) (hm : len ≤ maxLen) (hm' : s.size ≤ maxLen) :
    Calls Try.prog 8 #[.slice a len cap, .string s] w fun e w' => (∃ b, e = .returned (.bool b)) ∧ w = w' := by
  unfold maxLen at hm hm'
  go_enter Try.func8, Try.ntmps8
  go_wp2
  all_goals
    go_ret
    exact ⟨⟨_, rfl⟩, rfl⟩

/-- too long: true -/
theorem globLaw_long (a : Option Addr) (len cap : Nat) (s : ByteArray) (w : World) (hm : len ≤ maxLen) (hm' : s.size ≤ maxLen) (h : 4096 < len ∨ 4096 < s.size) :
    Calls Try.prog 3 #[.slice a len cap, .string s] w fun e w' => e = .returned (.bool true) ∧ Below w.heap.size w w' := by
  have HK : Hid (Calls Try.prog 8 #[.slice a len cap, .string s] w fun e w' => (∃ b, e = .returned (.bool b)) ∧ w = w') := bytes8_any a len cap s w hm hm'
  rcases h with h | h
  · have hd : decide ((4096 : Int) < (len : Int)) = true := decide_eq_true (by omega)
    go_enter Try.func3, Try.ntmps3
    go_wp2_with fail
    refine Calls.mono (Hid.out HK) ?_
    rintro e w' ⟨⟨b, rfl⟩, rfl⟩
    cases b
    all_goals
      go_wp2_with fail
      go_ret
      exact ⟨rfl, Below.refl _ _⟩
  · have hd : decide ((4096 : Int) < (s.size : Int)) = true := decide_eq_true (by omega)
    by_cases h1 : 4096 < len
    all_goals
      go_enter Try.func3, Try.ntmps3
      go_wp2_with fail
      refine Calls.mono (Hid.out HK) ?_
      rintro e w' ⟨⟨b, rfl⟩, rfl⟩
      cases b
      all_goals
        go_wp2_with fail
        go_ret
        exact ⟨rfl, Below.refl _ _⟩

theorem same_bool {B C : Bool} {p : Prop} (h1 : B = true ↔ p) (h2 : C = true ↔ p) : B = C := Bool.eq_iff_iff.2 (h1.trans h2.symm)

set_option maxRecDepth 100000 in
set_option maxHeartbeats 2000000 in
theorem globLaw_main (a : Option Addr) (len cap : Nat) (s : ByteArray) (p : List Int) (w : World) (h : len ≤ 4096) (h' : s.size ≤ 4096)
    (hp : Hid (Src w a len cap p)) (hpb : Hid (IsBytes p)) :
    Calls Try.prog 3 #[.slice a len cap, .string s] w fun e w' => e = .returned (.bool true) ∧ Below w.heap.size w w' := by
  obtain ⟨i0, hi, hz0, hz1, hz2⟩ := info_parts Try.info5
  have hne := fun wx => run_neq_slice_nil_any (P := Try.prog) wx 22 5 a len cap 0 0 Try.underlying22
  go_enter Try.func3, Try.ntmps3
  go_upto_if 19 with (go_at_call 8; refine (bytes8_yes _ _ _ _ _ h h').mono ?_; rintro e w' ⟨rfl, rfl⟩)
  go_cut [0, 5] (fun v0 _ wx => View wx v0 p ∧ Below w.heap.size w wx)
  case first =>
    rcases a with _ | ad
    · go_wp2_with fail
      go_meet
      case rel => exact ⟨hp.out.view_nil, Below.refl _ _⟩
    · go_wp2_with (at_make; go_must (refine wpList_make_full _ rfl (.tmp 21) (.tmp 21) 22 rfl w.heap.size 5 i0 (.int .u8 0) 1 Try.underlying22 hi hz0 hz1 _ _ _ _ len rfl rfl rfl rfl (by rw [hz2]; omega) (by unfold maxLen; omega) (Nat.le_refl _) ?_))
      intro w1 own1 gr1
      have bl1 : Below w.heap.size w w1 := (Below.refl _ _).grown gr1 (Nat.le_refl _) (fun k h => by cases h)
      obtain ⟨cur, hcl, hcur⟩ := own_cur own1
      clear own1 gr1
      have Hcur : Hid (w1.heap[w.heap.size]? = some (.cells cur.toArray 5 (0, 0))) := hcur
      clear hcur
      go_wp2_with ((refine wpList_copy_splice rfl (.tmp 23) (.tmp 24) 22 22 rfl 5 Try.underlying22 (by kernel_rfl) _ _ len len len cap rfl rfl w.heap.size 0 cur 5 Hcur.out (p.map (Value.int .u8)) (by simp [hp.out.1]) (fun _ => ⟨rfl, ad, rfl, fun j u hu => cell_later bl1 (hp.out.2.2 ad rfl j u hu)⟩) (by simp [hp.out.1]; omega) (ints_oneCell _ _) w.heap.size w bl1 (Nat.le_refl _) ?_))
      intro w2 H2 bl2
      go_wp2_with fail
      go_meet
      case rel => exact ⟨hp.out.1 ▸ view_copied (hcl.trans hp.out.1.symm) H2, bl2⟩
  case rest =>
    obtain ⟨hv0, bl⟩ := hcut
    have Hv0 : Hid (View wc u0 p) := hv0
    have Hbl : Hid (Below w.heap.size w wc) := bl
    have sz := bl.size
    clear hv0 bl hne hz0 hz1 hz2 hi
    go_wp2_with fail
    refine (zzMatches_view s Hv0.out (by rw [hp.out.1]; exact h) h').mono ?_
    rintro e w1 ⟨B, rfl, hB, k, rfl⟩
    have HB : Hid (B = true ↔ Lang (toks p) (nums s)) := hB
    clear hB
    go_wp2_with fail
    refine (glob_view s (Hv0.out.below (below_drewN (Below.refl _ _) k)) hpb.out (by rw [hp.out.1]; exact h) h').mono ?_
    rintro e w2 ⟨C, rfl, hC, b2⟩
    have e : B = C := same_bool HB.out hC
    subst e
    have HBl : Hid (Below w.heap.size w w2) := Hbl.out.trans ((below_drewN (Below.refl _ _) k).trans b2 |>.mono sz)
    clear hC b2 HB
    cases B
    all_goals
      go_wp2_with fail
      go_ret
      exact ⟨rfl, HBl.out⟩

end Go.Proofs.Qxb6617818a
