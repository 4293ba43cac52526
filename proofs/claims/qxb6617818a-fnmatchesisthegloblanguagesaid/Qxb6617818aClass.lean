/-
  THE WALK OF kv.matchClass. By an AI agent.
-/
import Derived.Test.Qxb6617818aRows
import Derived.Test.Qxb6617818aPlain
import Derived.WalkKit
import Derived.WalkSpells
import Derived.WalkLawsBesides
import Derived.Deep.QuietTactic
import Derived.BigQuiet
namespace Go.Proofs.Qxb6617818a
open Go.RowKit

theorem ret_bi {x y : Bool} {m n : Int} (h1 : x = y) (h2 : m = n) : Ending.returned (.tuple #[.bool x, .int .i64 m]) = .returned (.tuple #[.bool y, .int .i64 n]) := by rw [h1, h2]

/-- the way out of the loop -/
theorem out_close {p : List Int} {P : Nat → Int} {c : Int} {i len : Nat} {bb : Bool} {R : Bool × Nat} (hp : Hid (p.length = len)) (hP : Hid (∀ j, p.getD j 0 = P j)) (hlt : i < len) (h93 : Hid (P i = 93)) (HF : Hid (clsAt p c i bb = R)) : R = (bb, i + 1) := by
  rw [← HF.out, clsAt_close p c i bb (by rw [hp.out]; exact hlt) (by rw [hP.out]; exact h93.out)]
theorem out_end {p : List Int} {c : Int} {i len : Nat} {bb : Bool} {R : Bool × Nat} (hp : Hid (p.length = len)) (hlt : ¬ i < len) (HF : Hid (clsAt p c i bb = R)) : R = (bb, i) := by
  rw [← HF.out, clsAt_end p c i bb (by rw [hp.out]; omega)]

theorem next_esc {p : List Int} {P : Nat → Int} {c : Int} {i len : Nat} {bb : Bool} {R : Bool × Nat} (hp : Hid (p.length = len)) (hP : Hid (∀ j, p.getD j 0 = P j)) (hlt1 : i + 1 < len) (h92 : P i = 92) (HF : Hid (clsAt p c i bb = R)) :
    Hid (clsAt p c (i + 2) (bb || P (i + 1) == c) = R) := by
  have := clsAt_esc p c i bb (by rw [hp.out]; exact hlt1) (by rw [hP.out]; exact h92)
  rw [hP.out] at this
  exact this.symm.trans HF.out
theorem next_range {p : List Int} {P : Nat → Int} {c : Int} {i len : Nat} {bb : Bool} {R : Bool × Nat} (hp : Hid (p.length = len)) (hP : Hid (∀ j, p.getD j 0 = P j)) (hlt2 : i + 2 < len) (h93 : Hid (P i ≠ 93)) (h92 : Hid (¬ (P i = 92 ∧ i + 1 < len))) (h45 : P (i + 1) = 45) (HF : Hid (clsAt p c i bb = R)) :
    Hid (clsAt p c (i + 3) (bb || (decide (min (P i) (P (i + 2)) ≤ c) && decide (c ≤ max (P i) (P (i + 2))))) = R) := by
  have := clsAt_range p c i bb (by rw [hp.out]; exact hlt2) (by rw [hP.out]; exact h93.out) (by rw [hP.out]; exact fun h => h92.out ⟨h, by omega⟩) (by rw [hP.out]; exact h45)
  simp only [hP.out] at this
  exact this.symm.trans HF.out
theorem range_form {p : List Int} {c x y : Int} {i : Nat} {bb : Bool} {R : Bool × Nat} (h : Hid (clsAt p c i (bb || (decide (min x y ≤ c) && decide (c ≤ max x y))) = R)) :
    Hid (clsAt p c i (bb || (decide ((if y < x then y else x) ≤ c) && decide (c ≤ (if x < y then y else x)))) = R) := by
  have e1 : (if y < x then y else x) = min x y := by split <;> omega
  have e2 : (if x < y then y else x) = max x y := by split <;> omega
  rw [e1, e2]; exact h
theorem next_one {p : List Int} {P : Nat → Int} {c : Int} {i len : Nat} {bb : Bool} {R : Bool × Nat} (hp : Hid (p.length = len)) (hP : Hid (∀ j, p.getD j 0 = P j)) (hlt : i < len) (h93 : Hid (P i ≠ 93)) (h92 : Hid (¬ (P i = 92 ∧ i + 1 < len))) (h45 : ¬ (i + 2 < len ∧ P (i + 1) = 45)) (HF : Hid (clsAt p c i bb = R)) :
    Hid (clsAt p c (i + 1) (bb || P i == c) = R) := by
  have := clsAt_one p c i bb (by rw [hp.out]; exact hlt) (by rw [hP.out]; exact h93.out) (by rw [hP.out, hp.out]; exact h92.out) (by rw [hP.out, hp.out]; exact h45)
  rw [hP.out] at this
  exact this.symm.trans HF.out

set_option maxRecDepth 100000 in
set_option maxHeartbeats 2000000 in
theorem matchClass_walk (b off len cap : Nat) (p : List Int) (P : Nat → Int) (c : Int) (ng : Bool) (i0 : Nat) (R : Bool × Nat) (w : World) (hp : Hid (p.length = len)) (hP : Hid (∀ j, p.getD j 0 = P j)) (hl : 1 ≤ len) (hm : len ≤ 100000)
    (hc : ∀ j, j < len → w.cell? ⟨b, off + j, none⟩ = some (.int .u8 (P j)))
    (hst : (1 < len ∧ P 1 = 94 ∧ ng = true ∧ i0 = 2) ∨ (1 < len ∧ P 1 ≠ 94 ∧ ng = false ∧ i0 = 1) ∨ (len = 1 ∧ ng = false ∧ i0 = 1)) (hR : Hid (clsAt p c i0 false = R)) :
    Calls Try.prog 26 #[.slice (some ⟨b, off, none⟩) len cap, .int .u8 c] w fun e w' => e = .returned (.tuple #[.bool (R.1 != ng), .int .i64 R.2]) ∧ ∃ n, w' = w.drewN n := by
  rcases hst with ⟨h1, hx, rfl, rfl⟩ | ⟨h1, hx, rfl, rfl⟩ | ⟨h1, rfl, rfl⟩
  · have c1 := hc 1 h1
    have hn : (P 1 == 94) = true := by simp [hx]
    clear hx
    go_enter Try.func26, Try.ntmps26
    go_wp2_with fail
    go_loopw [6, 8] (fun s6 s8 wr => ∃ (i : Nat) (bb : Bool), i ≤ len ∧ s6 = .int .i64 i ∧ s8 = .bool bb ∧ Hid (clsAt p c i bb = R) ∧ ∃ nd, wr = w.drewN nd) (fun s6 _ _ => len - (intOf s6).toNat)
    case atStart => first | exact ⟨2, false, by omega, rfl, rfl, hR, 0, rfl⟩ | exact ⟨1, false, by omega, rfl, rfl, hR, 0, rfl⟩
    case round =>
      obtain ⟨i, bb, hi, rfl, rfl, HF, nd, rfl⟩ := hrel
      by_cases hlt : i < len
      · have ci := hc i hlt
        by_cases h93 : P i = 93
        · have t1 : (P i != 93) = false := by simp [h93]
          have H93 : Hid (P i = 93) := h93
          clear h93
          go_wp2_with fail
          go_ret2
          exact ⟨by rw [out_close hp hP hlt H93 HF]; exact ret_bi (by simp) (by simp), nd, rfl⟩
        · have t1 : (P i != 93) = true := by simp [h93]
          have H93 : Hid (P i ≠ 93) := h93
          clear h93
          by_cases h92 : P i = 92 ∧ i + 1 < len
          · obtain ⟨h92, hlt1⟩ := h92
            have t2 : (P i == 92) = true := by simp [h92]
            have ci1 := hc (i + 1) hlt1
            have HN := next_esc hp hP hlt1 h92 HF
            clear h92
            cases bb
            all_goals
              go_wp2_with fail
              go_roundw
              case rel => exact ⟨i + 2, _, by omega, by go_num, rfl, HN, nd, rfl⟩
              case measure => simp [intOf]; omega
          · have ht2 : (P i == 92) = false ∨ ((P i == 92) = true ∧ ¬ i + 1 < len) := by
              by_cases e : P i = 92
              · exact .inr ⟨by simp [e], fun h => h92 ⟨e, h⟩⟩
              · exact .inl (by simp [e])
            have H92 : Hid (¬ (P i = 92 ∧ i + 1 < len)) := h92
            clear h92
            by_cases hrg : i + 2 < len ∧ P (i + 1) = 45
            · obtain ⟨hlt2, h45⟩ := hrg
              obtain t2 : (P i == 92) = false := by rcases ht2 with h | ⟨_, h⟩; exact h; exact absurd (by omega) h
              have t3 : (P (i + 1) == 45) = true := by simp [h45]
              have ci1 := hc (i + 1) (by omega)
              have ci2 := hc (i + 2) hlt2
              have HN := next_range hp hP hlt2 H93 H92 h45 HF
              clear h45 ht2
              obtain ⟨lo, hi', hlo, hhi, HN'⟩ : ∃ lo hi' : Int, (if P (i + 2) < P i then P (i + 2) else P i) = lo ∧ (if P i < P (i + 2) then P (i + 2) else P i) = hi' ∧ Hid (clsAt p c (i + 3) (bb || (decide (lo ≤ c) && decide (c ≤ hi'))) = R) := ⟨_, _, rfl, rfl, range_form HN⟩
              clear HN
              by_cases hle : lo ≤ c
              · have hdl : decide (lo ≤ c) = true := decide_eq_true hle
                cases bb
                all_goals
                  simp only [hdl, Bool.false_or, Bool.true_or, Bool.true_and] at HN'
                  go_wp2_with fail
                  go_quiet (fail)
                  go_wp2_with fail
                  go_roundw
                  case rel => exact ⟨i + 3, _, by omega, by go_num, rfl, HN', _, rfl⟩
                  case measure => simp [intOf]; omega
              · have hdl : decide (lo ≤ c) = false := decide_eq_false hle
                cases bb
                all_goals
                  simp only [hdl, Bool.false_or, Bool.true_or, Bool.false_and] at HN'
                  go_wp2_with fail
                  go_quiet (fail)
                  go_wp2_with fail
                  go_roundw
                  case rel => exact ⟨i + 3, _, by omega, by go_num, rfl, HN', _, rfl⟩
                  case measure => simp [intOf]; omega
            · have HN := next_one hp hP hlt H93 H92 hrg HF
              have ht3 : ¬ i + 2 < len ∨ (i + 2 < len ∧ (P (i + 1) == 45) = false ∧ w.cell? ⟨b, off + (i + 1), none⟩ = some (.int .u8 (P (i + 1)))) := by
                by_cases e : i + 2 < len
                · exact .inr ⟨e, by simp; exact fun h => hrg ⟨e, h⟩, hc (i + 1) (by omega)⟩
                · exact .inl e
              clear hrg
              rcases ht2 with ht2 | ⟨ht2, ht2'⟩
              all_goals
                rcases ht3 with ht3 | ⟨ht3, ht3', ci1⟩
                all_goals (try (exfalso; omega))
                all_goals
                  cases bb
                  all_goals
                    go_wp2_with fail
                    go_roundw
                    case rel => exact ⟨i + 1, _, by omega, by go_num, rfl, HN, nd, rfl⟩
                    case measure => simp [intOf]; omega
      · go_wp2_with fail
        go_ret2
        exact ⟨by rw [out_end hp hlt HF]; exact ret_bi (by simp) (by simp), nd, rfl⟩
  · have c1 := hc 1 h1
    have hn : (P 1 == 94) = false := by simp [hx]
    clear hx
    go_enter Try.func26, Try.ntmps26
    go_wp2_with fail
    go_loopw [6, 8] (fun s6 s8 wr => ∃ (i : Nat) (bb : Bool), i ≤ len ∧ s6 = .int .i64 i ∧ s8 = .bool bb ∧ Hid (clsAt p c i bb = R) ∧ ∃ nd, wr = w.drewN nd) (fun s6 _ _ => len - (intOf s6).toNat)
    case atStart => first | exact ⟨2, false, by omega, rfl, rfl, hR, 0, rfl⟩ | exact ⟨1, false, by omega, rfl, rfl, hR, 0, rfl⟩
    case round =>
      obtain ⟨i, bb, hi, rfl, rfl, HF, nd, rfl⟩ := hrel
      by_cases hlt : i < len
      · have ci := hc i hlt
        by_cases h93 : P i = 93
        · have t1 : (P i != 93) = false := by simp [h93]
          have H93 : Hid (P i = 93) := h93
          clear h93
          go_wp2_with fail
          go_ret2
          exact ⟨by rw [out_close hp hP hlt H93 HF]; exact ret_bi (by simp) (by simp), nd, rfl⟩
        · have t1 : (P i != 93) = true := by simp [h93]
          have H93 : Hid (P i ≠ 93) := h93
          clear h93
          by_cases h92 : P i = 92 ∧ i + 1 < len
          · obtain ⟨h92, hlt1⟩ := h92
            have t2 : (P i == 92) = true := by simp [h92]
            have ci1 := hc (i + 1) hlt1
            have HN := next_esc hp hP hlt1 h92 HF
            clear h92
            cases bb
            all_goals
              go_wp2_with fail
              go_roundw
              case rel => exact ⟨i + 2, _, by omega, by go_num, rfl, HN, nd, rfl⟩
              case measure => simp [intOf]; omega
          · have ht2 : (P i == 92) = false ∨ ((P i == 92) = true ∧ ¬ i + 1 < len) := by
              by_cases e : P i = 92
              · exact .inr ⟨by simp [e], fun h => h92 ⟨e, h⟩⟩
              · exact .inl (by simp [e])
            have H92 : Hid (¬ (P i = 92 ∧ i + 1 < len)) := h92
            clear h92
            by_cases hrg : i + 2 < len ∧ P (i + 1) = 45
            · obtain ⟨hlt2, h45⟩ := hrg
              obtain t2 : (P i == 92) = false := by rcases ht2 with h | ⟨_, h⟩; exact h; exact absurd (by omega) h
              have t3 : (P (i + 1) == 45) = true := by simp [h45]
              have ci1 := hc (i + 1) (by omega)
              have ci2 := hc (i + 2) hlt2
              have HN := next_range hp hP hlt2 H93 H92 h45 HF
              clear h45 ht2
              obtain ⟨lo, hi', hlo, hhi, HN'⟩ : ∃ lo hi' : Int, (if P (i + 2) < P i then P (i + 2) else P i) = lo ∧ (if P i < P (i + 2) then P (i + 2) else P i) = hi' ∧ Hid (clsAt p c (i + 3) (bb || (decide (lo ≤ c) && decide (c ≤ hi'))) = R) := ⟨_, _, rfl, rfl, range_form HN⟩
              clear HN
              by_cases hle : lo ≤ c
              · have hdl : decide (lo ≤ c) = true := decide_eq_true hle
                cases bb
                all_goals
                  simp only [hdl, Bool.false_or, Bool.true_or, Bool.true_and] at HN'
                  go_wp2_with fail
                  go_quiet (fail)
                  go_wp2_with fail
                  go_roundw
                  case rel => exact ⟨i + 3, _, by omega, by go_num, rfl, HN', _, rfl⟩
                  case measure => simp [intOf]; omega
              · have hdl : decide (lo ≤ c) = false := decide_eq_false hle
                cases bb
                all_goals
                  simp only [hdl, Bool.false_or, Bool.true_or, Bool.false_and] at HN'
                  go_wp2_with fail
                  go_quiet (fail)
                  go_wp2_with fail
                  go_roundw
                  case rel => exact ⟨i + 3, _, by omega, by go_num, rfl, HN', _, rfl⟩
                  case measure => simp [intOf]; omega
            · have HN := next_one hp hP hlt H93 H92 hrg HF
              have ht3 : ¬ i + 2 < len ∨ (i + 2 < len ∧ (P (i + 1) == 45) = false ∧ w.cell? ⟨b, off + (i + 1), none⟩ = some (.int .u8 (P (i + 1)))) := by
                by_cases e : i + 2 < len
                · exact .inr ⟨e, by simp; exact fun h => hrg ⟨e, h⟩, hc (i + 1) (by omega)⟩
                · exact .inl e
              clear hrg
              rcases ht2 with ht2 | ⟨ht2, ht2'⟩
              all_goals
                rcases ht3 with ht3 | ⟨ht3, ht3', ci1⟩
                all_goals (try (exfalso; omega))
                all_goals
                  cases bb
                  all_goals
                    go_wp2_with fail
                    go_roundw
                    case rel => exact ⟨i + 1, _, by omega, by go_num, rfl, HN, nd, rfl⟩
                    case measure => simp [intOf]; omega
      · go_wp2_with fail
        go_ret2
        exact ⟨by rw [out_end hp hlt HF]; exact ret_bi (by simp) (by simp), nd, rfl⟩
  · have h1' : ¬ 1 < len := by omega
    clear h1
    go_enter Try.func26, Try.ntmps26
    go_wp2_with fail
    go_loopw [6, 8] (fun s6 s8 wr => s6 = .int .i64 1 ∧ s8 = .bool false ∧ wr = w) (fun _ _ _ => 0)
    case atStart => exact ⟨rfl, rfl, rfl⟩
    case round =>
      obtain ⟨rfl, rfl, rfl⟩ := hrel
      go_wp2_with fail
      go_ret2
      exact ⟨by rw [out_end hp h1' hR]; exact ret_bi (by simp) (by simp), 0, rfl⟩

/-- matchClass as the plain 'mcl' of the bytes behind the opening bracket. -/
theorem matchClass_any (b off len cap : Nat) (x0 : Int) (r : List Int) (c : Int) (w : World) (hp : r.length + 1 = len) (hm : len ≤ 100000)
    (hc : ∀ j, j < len → w.cell? ⟨b, off + j, none⟩ = some (.int .u8 ((x0 :: r).getD j 0))) :
    Calls Try.prog 26 #[.slice (some ⟨b, off, none⟩) len cap, .int .u8 c] w fun e w' => e = .returned (.tuple #[.bool (mcl c r).1, .int .i64 (mcl c r).2]) ∧ ∃ n, w' = w.drewN n := by
  have key : ∀ ng i0 R, _ → Hid (clsAt (x0 :: r) c i0 false = R) → _ := fun ng i0 R h1 h2 => matchClass_walk b off len cap (x0 :: r) (fun j => (x0 :: r).getD j 0) c ng i0 R w (by exact hp) (fun _ => rfl) (by omega) hm hc h1 h2
  rcases r with _ | ⟨x, r⟩
  · have := key false 1 _ (.inr (.inr ⟨by simp at hp; omega, rfl, rfl⟩)) rfl
    simpa [clsAt, clsL, mcl] using this
  · by_cases hx : x = 94
    · have := key true 2 _ (.inl ⟨by simp at hp; omega, by simp [hx], rfl, rfl⟩) rfl
      simp only [clsAt] at this
      simp only [mcl, if_pos hx]
      refine this.mono ?_
      rintro e w' ⟨rfl, hw⟩
      exact ⟨ret_bi (by simp) (by simp; omega), hw⟩
    · have := key false 1 _ (.inr (.inl ⟨by simp at hp; omega, by simpa using hx, rfl, rfl⟩)) rfl
      simp only [clsAt] at this
      simp only [mcl, if_neg hx]
      refine this.mono ?_
      rintro e w' ⟨rfl, hw⟩
      exact ⟨ret_bi (by simp) (by simp; omega), hw⟩

end Go.Proofs.Qxb6617818a
