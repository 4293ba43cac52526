/-
  THE WALKS OF zzCmp AND zzHasPrefix. By an AI agent.
-/
import Derived.Test.Qxb6617818aRows
import Derived.Test.Qxb6617818aOrder
import Derived.WalkKit
import Derived.WalkSpells
import Derived.WalkLawsBesides
import Derived.Deep.QuietTactic
import Derived.BigQuiet
namespace Go.Proofs.Qxb6617818a
open Go.RowKit

theorem ret_i64 {a b : Int} (h : a = b) : Ending.returned (.int .i64 a) = .returned (.int .i64 b) := by rw [h]
theorem ret_b {x y : Bool} (h : x = y) : Ending.returned (.bool x) = .returned (.bool y) := by rw [h]

theorem cmp_stepB {s t : ByteArray} {k : Nat} {R : Int} (h1 : k < s.size) (h2 : k < t.size) (HF : Hid (cmpL (s.data.toList.drop k) (t.data.toList.drop k) = R)) :
    Hid (R = if s[k].toNat < t[k].toNat then -1 else if t[k].toNat < s[k].toNat then 1 else cmpL (s.data.toList.drop (k + 1)) (t.data.toList.drop (k + 1))) := by
  have := cmpL_step s.data.toList t.data.toList k (by simpa using h1) (by simpa using h2)
  exact HF.out.symm.trans this
theorem cmp_endB {s t : ByteArray} {k : Nat} {R : Int} (h : ¬ (k < s.size ∧ k < t.size)) (h1 : k ≤ s.size) (h2 : k ≤ t.size) (HF : Hid (cmpL (s.data.toList.drop k) (t.data.toList.drop k) = R)) :
    Hid (R = if s.size < t.size then -1 else if t.size < s.size then 1 else 0) := by
  have := cmpL_end s.data.toList t.data.toList k (by simpa using h)
  refine HF.out.symm.trans (this.trans ?_)
  have e1 : s.data.toList.length = s.size := by simp
  have e2 : t.data.toList.length = t.size := by simp
  rw [e1, e2]
  by_cases a : s.size < t.size
  · rw [if_pos (by omega), if_pos a]
  · rw [if_neg (by omega), if_neg a]
    by_cases b : t.size < s.size
    · rw [if_pos (by omega), if_pos b]
    · rw [if_neg (by omega), if_neg b]

set_option maxRecDepth 100000 in
set_option maxHeartbeats 1000000 in
theorem cmp_any (s t : ByteArray) (w : World) (hs : s.size ≤ 100000) (ht : t.size ≤ 100000) :
    Calls Try.prog 13 #[.string s, .string t] w fun e w' => e = .returned (.int .i64 (cmpL s.data.toList t.data.toList)) ∧ ∃ n, w' = w.drewN n := by
  obtain ⟨R, hR⟩ : ∃ R, cmpL s.data.toList t.data.toList = R := ⟨_, rfl⟩
  have HR : Hid (cmpL (s.data.toList.drop 0) (t.data.toList.drop 0) = R) := hR
  rw [hR]
  clear hR
  obtain ⟨N, hN, hNs, hNt⟩ : ∃ N : Nat, (t.size < s.size ∧ N = t.size ∨ ¬ t.size < s.size ∧ N = s.size) ∧ N ≤ s.size ∧ N ≤ t.size := by
    by_cases h : t.size < s.size
    · exact ⟨t.size, .inl ⟨h, rfl⟩, by omega, by omega⟩
    · exact ⟨s.size, .inr ⟨h, rfl⟩, by omega, by omega⟩
  rcases hN with ⟨hlt, rfl⟩ | ⟨hlt, rfl⟩
  all_goals
    go_enter Try.func13, Try.ntmps13
    go_wp2_with fail
    go_loopw [6] (fun s6 wr => ∃ k : Nat, k ≤ s.size ∧ k ≤ t.size ∧ s6 = .int .i64 k ∧ Hid (cmpL (s.data.toList.drop k) (t.data.toList.drop k) = R) ∧ ∃ nd, wr = w.drewN nd) (fun s6 _ => s.size - (intOf s6).toNat)
    case atStart => exact ⟨0, by omega, by omega, rfl, HR, 0, rfl⟩
    case round =>
      obtain ⟨k, hk1, hk2, rfl, HF, nd, rfl⟩ := hrel
      by_cases hk : k < s.size ∧ k < t.size
      · obtain ⟨hks, hkt⟩ := hk
        have HS := cmp_stepB hks hkt HF
        have i1 : (k : Int) < (s.size : Int) := by omega
        have i2 : (k : Int) < (t.size : Int) := by omega
        by_cases hlt1 : s[k].toNat < t[k].toNat
        · have hi1 : (s[k].toNat : Int) < (t[k].toNat : Int) := by omega
          rw [if_pos hlt1] at HS
          clear hlt1
          go_wp2_with fail
          go_quiet (fail)
          go_wp2_with fail
          go_ret
          exact ⟨ret_i64 HS.out.symm, _, by simp only [World.drewN_drewN]; rfl⟩
        · have hi1 : ¬ (s[k].toNat : Int) < (t[k].toNat : Int) := by omega
          rw [if_neg hlt1] at HS
          by_cases hlt2 : t[k].toNat < s[k].toNat
          · have hi2 : (t[k].toNat : Int) < (s[k].toNat : Int) := by omega
            rw [if_pos hlt2] at HS
            clear hlt1 hlt2
            go_wp2_with fail
            go_quiet (fail)
            go_wp2_with fail
            go_quiet (fail)
            go_wp2_with fail
            go_ret
            exact ⟨ret_i64 HS.out.symm, _, by simp only [World.drewN_drewN]; rfl⟩
          · have hi2 : ¬ (t[k].toNat : Int) < (s[k].toNat : Int) := by omega
            rw [if_neg hlt2] at HS
            clear hlt1 hlt2
            go_wp2_with fail
            go_quiet (fail)
            go_wp2_with fail
            go_quiet (fail)
            go_wp2_with fail
            go_roundw
            case rel => exact ⟨k + 1, by omega, by omega, by go_num, HS.out.symm, _, rfl⟩
            case measure => simp [intOf]; omega
      · have HS := cmp_endB hk hk1 hk2 HF
        by_cases hab : s.size < t.size
        · rw [if_pos hab] at HS
          have hk' : ¬ (k : Int) < (s.size : Int) := by omega
          have hab' : (s.size : Int) < (t.size : Int) := by omega
          first
            | (exfalso; omega)
            | (clear hk hk1 hk2
               go_wp2_with fail
               go_ret
               exact ⟨ret_i64 HS.out.symm, _, rfl⟩)
        · rw [if_neg hab] at HS
          have hab' : ¬ (s.size : Int) < (t.size : Int) := by omega
          by_cases hba : t.size < s.size
          · rw [if_pos hba] at HS
            have hk' : ¬ (k : Int) < (t.size : Int) := by omega
            first
              | (exfalso; omega)
              | (clear hk hk1 hk2
                 go_wp2_with fail
                 go_ret
                 exact ⟨ret_i64 HS.out.symm, _, rfl⟩)
          · rw [if_neg hba] at HS
            have hk' : ¬ (k : Int) < (s.size : Int) := by omega
            first
              | (exfalso; omega)
              | (clear hk hk1 hk2
                 go_wp2_with fail
                 go_ret
                 exact ⟨ret_i64 HS.out.symm, _, rfl⟩)

theorem pre_stepB {s t : ByteArray} {k : Nat} {R : Bool} (h1 : k < s.size) (h2 : k < t.size) (HF : Hid (preL (s.data.toList.drop k) (t.data.toList.drop k) = R)) :
    Hid (R = if t[k].toNat = s[k].toNat then preL (s.data.toList.drop (k + 1)) (t.data.toList.drop (k + 1)) else false) := by
  have := preL_step s.data.toList t.data.toList k (by simpa using h1) (by simpa using h2)
  exact HF.out.symm.trans this
theorem pre_endB {s t : ByteArray} {k : Nat} {R : Bool} (h1 : s.size ≤ k) (HF : Hid (preL (s.data.toList.drop k) (t.data.toList.drop k) = R)) : Hid (R = true) := by
  have := preL_end s.data.toList t.data.toList k (by simpa using h1)
  exact HF.out.symm.trans this

/-- zzHasPrefix(t, s): does s begin t? -/
theorem hasPrefix_any (t s : ByteArray) (w : World) (hs : s.size ≤ 100000) (ht : t.size ≤ 100000) :
    Calls Try.prog 14 #[.string t, .string s] w fun e w' => e = .returned (.bool (preL s.data.toList t.data.toList)) ∧ ∃ n, w' = w.drewN n := by
  by_cases hlong : t.size < s.size
  · rw [preL_long s.data.toList t.data.toList (by simpa using hlong)]
    go_enter Try.func14, Try.ntmps14
    go_wp2
    go_ret
    exact ⟨rfl, 0, rfl⟩
  · obtain ⟨R, hR⟩ : ∃ R, preL s.data.toList t.data.toList = R := ⟨_, rfl⟩
    have HR : Hid (preL (s.data.toList.drop 0) (t.data.toList.drop 0) = R) := hR
    rw [hR]
    clear hR
    go_enter Try.func14, Try.ntmps14
    go_wp2_with fail
    go_loopw [5] (fun s5 wr => ∃ k : Nat, k ≤ s.size ∧ s5 = .int .i64 k ∧ Hid (preL (s.data.toList.drop k) (t.data.toList.drop k) = R) ∧ ∃ nd, wr = w.drewN nd) (fun s5 _ => s.size - (intOf s5).toNat)
    case atStart => exact ⟨0, by omega, rfl, HR, 0, rfl⟩
    case round =>
      obtain ⟨k, hk1, rfl, HF, nd, rfl⟩ := hrel
      by_cases hks : k < s.size
      · have hkt : k < t.size := by omega
        have HS := pre_stepB hks hkt HF
        have i1 : (k : Int) < (s.size : Int) := by omega
        have i2 : (k : Int) < (t.size : Int) := by omega
        by_cases he : t[k].toNat = s[k].toNat
        · have hi1 : ((t[k].toNat : Int) != (s[k].toNat : Int)) = false := by rw [he]; simp
          rw [if_pos he] at HS
          clear he
          go_wp2_with fail
          go_quiet (fail)
          go_wp2_with fail
          go_roundw
          case rel => exact ⟨k + 1, by omega, by go_num, HS.out.symm, _, rfl⟩
          case measure => simp [intOf]; omega
        · have hi1 : ((t[k].toNat : Int) != (s[k].toNat : Int)) = true := by rw [bne_iff_ne]; omega
          rw [if_neg he] at HS
          clear he
          go_wp2_with fail
          go_quiet (fail)
          go_wp2_with fail
          go_ret
          exact ⟨ret_b HS.out.symm, _, by simp only [World.drewN_drewN]; rfl⟩
      · have HS := pre_endB (by omega) HF
        go_wp2_with fail
        go_ret
        exact ⟨ret_b HS.out.symm, _, rfl⟩

end Go.Proofs.Qxb6617818a
