/-
  THE WALKS OF zzGrow, zzStringsBytes, zzSelectorBytes, zzBytes, zzKindNamed. By an AI agent.
-/
import Derived.Test.Qxb6618693aSel
namespace Go.Proofs.Qxb6618693a
open Go.RowKit

/-- it hands back a small number, and leaves memory alone -/
def GrowEnd (w : World) (e : Ending) (w' : World) : Prop := ∃ r : Int, e = .returned (.int .i64 r) ∧ 0 ≤ r ∧ r ≤ 2097152 ∧ w = w'

theorem grow_any (t n : Int) (w : World) (h0 : 0 ≤ t) (h1 : t ≤ 2097152) (h2 : 0 ≤ n) :
    Calls Try.prog 7 #[.int .i64 t, .int .i64 n] w fun e w' => GrowEnd w e w' := by
  by_cases ht : 1048576 < t
  · go_enter Try.func7, Try.ntmps7
    go_wp2_with fail
    go_ret
    exact ⟨_, rfl, by omega, by omega, rfl⟩
  · have hn : ¬ n < 0 := by omega
    by_cases hm : 1048576 < n
    · go_enter Try.func7, Try.ntmps7
      go_wp2_with fail
      go_ret
      exact ⟨_, rfl, by omega, by omega, rfl⟩
    · go_enter Try.func7, Try.ntmps7
      go_wp2_with fail
      go_ret
      exact ⟨_, rfl, by omega, by omega, rfl⟩

set_option maxRecDepth 100000 in
set_option maxHeartbeats 1000000 in
theorem strings_any (t : Int) (a : Option Addr) (n cap : Nat) (S : Nat → ByteArray) (w : World) (h0 : 0 ≤ t) (h1 : t ≤ 2097152) (hn : n ≤ maxLen) (hk : Hid (KindsAt w a n S)) :
    Calls Try.prog 13 #[.int .i64 t, .slice a n cap] w fun e w' => GrowEnd w e w' := by
  unfold maxLen at hn
  by_cases hbig : 65536 < n
  · have i0 : (65536 : Int) < (n : Int) := by omega
    go_enter Try.func13, Try.ntmps13
    go_wp2_with fail
    go_ret
    exact ⟨_, rfl, by omega, by omega, rfl⟩
  · have i0 : ¬ (65536 : Int) < (n : Int) := by omega
    go_enter Try.func13, Try.ntmps13
    go_wp2_with fail
    refine (grow_any t _ _ h0 h1 (by omega)).mono ?_
    rintro e w1 ⟨r, rfl, r0, r1, rfl⟩
    go_wp2_with fail
    go_loop [0, 5] (fun s0 s5 => ∃ (z : Int) (j : Nat), 0 ≤ z ∧ z ≤ 2097152 ∧ j ≤ n ∧ s0 = .int .i64 z ∧ s5 = .int .i64 j) (fun _ s5 => n - (intOf s5).toNat)
    case atStart => exact ⟨r, 0, r0, r1, by omega, rfl, rfl⟩
    case round =>
      clear r0 r1
      obtain ⟨z, j, z0, z1, hj, rfl, rfl⟩ := hrel
      by_cases hlt : j < n
      · have i1 : (j : Int) < (n : Int) := by omega
        by_cases hz : z ≤ 1048576
        · obtain ⟨b, off, rfl, hl, hc, hs⟩ := hk.out j hlt
          go_wp2_with fail
          refine (grow_any z _ _ z0 z1 (by omega)).mono ?_
          rintro e w1 ⟨r', rfl, r0', r1', rfl⟩
          go_wp2_with fail
          go_round
          case rel => exact ⟨r', j + 1, r0', r1', by omega, rfl, by go_num⟩
          case measure => simp [intOf]; omega
        · go_wp2_with fail
          go_ret
          exact ⟨_, rfl, z0, z1, rfl⟩
      · have i1 : ¬ (j : Int) < (n : Int) := by omega
        go_wp2_with fail
        go_ret
        exact ⟨_, rfl, z0, z1, rfl⟩

set_option maxRecDepth 100000 in
set_option maxHeartbeats 1000000 in
theorem selBytes_any (t : Int) (a : Option Addr) (n cap : Nat) (Ka : Nat → Option Addr) (Kl Kc : Nat → Nat) (M : Nat → Option Addr) (S : Nat → Nat → ByteArray) (w : World) (h0 : 0 ≤ t) (h1 : t ≤ 2097152) (hn : n ≤ maxLen) (hk : Hid (SelsAt w a n Ka Kl Kc M S)) :
    Calls Try.prog 6 #[.int .i64 t, .slice a n cap] w fun e w' => GrowEnd w e w' := by
  unfold maxLen at hn
  by_cases hbig : 65536 < n
  · have i0 : (65536 : Int) < (n : Int) := by omega
    go_enter Try.func6, Try.ntmps6
    go_wp2_with fail
    go_ret
    exact ⟨_, rfl, by omega, by omega, rfl⟩
  · have i0 : ¬ (65536 : Int) < (n : Int) := by omega
    go_enter Try.func6, Try.ntmps6
    go_wp2_with fail
    refine (grow_any t _ _ h0 h1 (by omega)).mono ?_
    rintro e w1 ⟨r, rfl, r0, r1, rfl⟩
    go_wp2_with fail
    go_loop [0, 5] (fun s0 s5 => ∃ (z : Int) (j : Nat), 0 ≤ z ∧ z ≤ 2097152 ∧ j ≤ n ∧ s0 = .int .i64 z ∧ s5 = .int .i64 j) (fun _ s5 => n - (intOf s5).toNat)
    case atStart => exact ⟨r, 0, r0, r1, by omega, rfl, rfl⟩
    case round =>
      clear r0 r1
      obtain ⟨z, j, z0, z1, hj, rfl, rfl⟩ := hrel
      by_cases hlt : j < n
      · have i1 : (j : Int) < (n : Int) := by omega
        by_cases hz : z ≤ 1048576
        · obtain ⟨b, off, rfl, hl, hc, _, hks, hm⟩ := hk.out j hlt
          have HKs : Hid (KindsAt w (Ka j) (Kl j) (S j)) := hks
          clear hks
          go_wp2_with fail
          refine (strings_any z _ _ _ _ _ z0 z1 hm HKs).mono ?_
          rintro e w1 ⟨r', rfl, r0', r1', rfl⟩
          go_wp2_with fail
          go_round
          case rel => exact ⟨r', j + 1, r0', r1', by omega, rfl, by go_num⟩
          case measure => simp [intOf]; omega
        · go_wp2_with fail
          go_ret
          exact ⟨_, rfl, z0, z1, rfl⟩
      · have i1 : ¬ (j : Int) < (n : Int) := by omega
        go_wp2_with fail
        go_ret
        exact ⟨_, rfl, z0, z1, rfl⟩

set_option maxRecDepth 100000 in
set_option maxHeartbeats 1000000 in
theorem kindNamed_any (a : Option Addr) (n cap : Nat) (Ka : Nat → Option Addr) (Kl Kc : Nat → Nat) (M : Nat → Option Addr) (S : Nat → Nat → ByteArray) (x : ByteArray) (w : World) (hn : n ≤ maxLen) (hk : Hid (SelsAt w a n Ka Kl Kc M S)) :
    Calls Try.prog 11 #[.slice a n cap, .string x] w fun e w' => e = .returned (.bool (named n Kl S x)) ∧ w = w' := by
  unfold maxLen at hn
  obtain ⟨N, hN⟩ : ∃ N, named n Kl S x = N := ⟨_, rfl⟩
  rw [hN]
  have HN : Hid (named n Kl S x = N) := hN
  clear hN
  go_enter Try.func11, Try.ntmps11
  go_wp2_with fail
  go_loop [5] (fun s5 => ∃ j : Nat, j ≤ n ∧ s5 = .int .i64 j ∧ Hid (∀ i, i < j → kin (Kl i) (S i) x = false)) (fun s5 => n - (intOf s5).toNat)
  case atStart => exact ⟨0, by omega, rfl, fun i hi => by omega⟩
  case round =>
    obtain ⟨j, hj, rfl, HF⟩ := hrel
    by_cases hlt : j < n
    · have i1 : (j : Int) < (n : Int) := by omega
      obtain ⟨b, off, rfl, hl, hc, _, hks, hm⟩ := hk.out j hlt
      have HKs : Hid (KindsAt w (Ka j) (Kl j) (S j)) := hks
      obtain ⟨ka, hka⟩ : ∃ ka, Ka j = ka := ⟨_, rfl⟩
      obtain ⟨kl, hkl⟩ : ∃ kl, Kl j = kl := ⟨_, rfl⟩
      have Hkl : Hid (Kl j = kl) := hkl
      rw [hka, hkl] at hc HKs
      rw [hkl] at hm
      unfold maxLen at hm
      clear hks hka hkl
      go_wp2_with fail
      go_loop [7] (fun s7 => ∃ k : Nat, k ≤ kl ∧ s7 = .int .i64 k ∧ Hid (∀ i, i < k → (x.toList == (S j i).toList) = false)) (fun s7 => kl - (intOf s7).toNat)
      case atStart => exact ⟨0, by omega, rfl, fun i hi => by omega⟩
      case round =>
        obtain ⟨k, hk', rfl, HG⟩ := hrel
        by_cases hlt2 : k < kl
        · have i2 : (k : Int) < (kl : Int) := by omega
          obtain ⟨b2, off2, rfl, hl2, hc2, hs2⟩ := HKs.out k hlt2
          by_cases he : ((S j k).toList == x.toList) = true
          · have HT : Hid (N = true) := by
              rw [← HN.out]
              unfold Hid named kin
              rw [decide_eq_true_iff]
              exact ⟨j, hlt, by rw [decide_eq_true_iff]; exact ⟨k, by rw [Hkl.out]; exact hlt2, by rw [BEq.comm]; exact he⟩⟩
            go_wp2_with fail
            go_ret
            exact ⟨by rw [HT.out]; rfl, rfl⟩
          · have he' : ((S j k).toList == x.toList) = false := by simpa using he
            have HG' : Hid (∀ i, i < k + 1 → (x.toList == (S j i).toList) = false) := fun i hi => by
              by_cases e : i = k
              · subst e; rw [BEq.comm]; exact he'
              · exact HG.out i (by omega)
            clear he
            go_wp2_with fail
            go_round
            case rel => exact ⟨k + 1, by omega, by go_num, HG'⟩
            case measure => simp [intOf]; omega
        · have i2 : ¬ (k : Int) < (kl : Int) := by omega
          have HF' : Hid (∀ i, i < j + 1 → kin (Kl i) (S i) x = false) := fun i hi => by
            by_cases e : i = j
            · subst e
              unfold kin
              rw [decide_eq_false_iff_not]
              rintro ⟨q, hq, e⟩
              rw [HG.out q (by rw [Hkl.out] at hq; omega)] at e; cases e
            · exact HF.out i (by omega)
          go_wp2_with fail
          go_round
          case rel => exact ⟨j + 1, by omega, by go_num, HF'⟩
          case measure => simp [intOf]; omega
    · have i1 : ¬ (j : Int) < (n : Int) := by omega
      have HT : Hid (N = false) := by
        rw [← HN.out]
        unfold Hid named
        rw [decide_eq_false_iff_not]
        rintro ⟨i, hi, e⟩
        rw [HF.out i (by omega)] at e; cases e
      go_wp2_with fail
      go_ret
      exact ⟨by rw [HT.out]; rfl, rfl⟩

def BytesEnd (w : World) (e : Ending) (w' : World) : Prop := ∃ b : Bool, e = .returned (.bool b) ∧ w = w'

theorem bytes_long (ta : Bool) (a : Option Addr) (n cap : Nat) (cut : Int) (s3 s4 s5 s6 : ByteArray) (w : World) (hn : n ≤ maxLen) (h : 1048576 < n) :
    Calls Try.prog 5 #[.bool ta, .slice a n cap, .int .i64 cut, .string s3, .string s4, .string s5, .string s6] w fun e w' => e = .returned (.bool false) ∧ w = w' := by
  unfold maxLen at hn
  have i0 : (1048576 : Int) < (n : Int) := by omega
  go_enter Try.func5, Try.ntmps5
  go_wp2_with fail
  go_ret
  exact ⟨rfl, rfl⟩

set_option maxRecDepth 100000 in
set_option maxHeartbeats 2000000 in
theorem bytes_any (ta : Bool) (a : Option Addr) (n cap : Nat) (cut : Int) (s3 s4 s5 s6 : ByteArray) (Ka : Nat → Option Addr) (Kl Kc : Nat → Nat) (M : Nat → Option Addr) (S : Nat → Nat → ByteArray) (w : World) (hn : n ≤ 1048576) (h3 : s3.size ≤ maxLen) (h4 : s4.size ≤ maxLen) (h5 : s5.size ≤ maxLen) (h6 : s6.size ≤ maxLen) (hk : Hid (SelsAt w a n Ka Kl Kc M S)) :
    Calls Try.prog 5 #[.bool ta, .slice a n cap, .int .i64 cut, .string s3, .string s4, .string s5, .string s6] w fun e w' => BytesEnd w e w' := by
  unfold maxLen at h3 h4 h5 h6
  have i0 : ¬ (1048576 : Int) < (n : Int) := by omega
  go_enter Try.func5, Try.ntmps5
  go_wp2_with fail
  go_loop [15, 16] (fun s15 s16 => ∃ (z : Int) (j : Nat), 0 ≤ z ∧ z ≤ 1048576 ∧ j ≤ n ∧ s15 = .int .i64 z ∧ s16 = .int .i64 j) (fun _ s16 => n - (intOf s16).toNat)
  case atStart => exact ⟨n, 0, by omega, by omega, by omega, rfl, rfl⟩
  case round =>
    obtain ⟨z, j, z0, z1, hj, rfl, rfl⟩ := hrel
    by_cases hlt : j < n
    · have i1 : (j : Int) < (n : Int) := by omega
      obtain ⟨b, off, rfl, hl, hc, _, hks, hm⟩ := hk.out j hlt
      have HKs : Hid (KindsAt w (Ka j) (Kl j) (S j)) := hks
      obtain ⟨ka, hka⟩ : ∃ ka, Ka j = ka := ⟨_, rfl⟩
      obtain ⟨kl, hkl⟩ : ∃ kl, Kl j = kl := ⟨_, rfl⟩
      rw [hka, hkl] at hc HKs
      rw [hkl] at hm
      unfold maxLen at hm
      clear hks hka hkl
      by_cases hkb : 1048576 < kl
      · have i2 : (1048576 : Int) < (kl : Int) := by omega
        go_wp2_with fail
        go_ret
        exact ⟨_, rfl, rfl⟩
      · have i2 : ¬ (1048576 : Int) < (kl : Int) := by omega
        by_cases hzk : 1048576 < z + (kl : Int)
        · go_wp2_with fail
          go_ret
          exact ⟨_, rfl, rfl⟩
        · go_wp2_with fail
          go_loop [15, 17] (fun s15 s17 => ∃ (y : Int) (k : Nat), 0 ≤ y ∧ y ≤ 1048576 ∧ k ≤ kl ∧ s15 = .int .i64 y ∧ s17 = .int .i64 k) (fun _ s17 => kl - (intOf s17).toNat)
          case atStart => exact ⟨z + kl, 0, by omega, by omega, by omega, rfl, rfl⟩
          case round =>
            obtain ⟨y, k, y0, y1, hk', rfl, rfl⟩ := hrel
            by_cases hlt2 : k < kl
            · have i3 : (k : Int) < (kl : Int) := by omega
              obtain ⟨b2, off2, rfl, hl2, hc2, hs2⟩ := HKs.out k hlt2
              unfold maxLen at hs2
              by_cases hsb : 1048576 < (S j k).size
              · have i4 : (1048576 : Int) < ((S j k).size : Int) := by omega
                go_wp2_with fail
                go_ret
                exact ⟨_, rfl, rfl⟩
              · have i4 : ¬ (1048576 : Int) < ((S j k).size : Int) := by omega
                by_cases hys : 1048576 < y + ((S j k).size : Int)
                · go_wp2_with fail
                  go_ret
                  exact ⟨_, rfl, rfl⟩
                · go_wp2_with fail
                  go_round
                  case rel => exact ⟨y + ((S j k).size : Int), k + 1, by omega, by omega, by omega, rfl, by go_num⟩
                  case measure => simp [intOf]; omega
            · have i3 : ¬ (k : Int) < (kl : Int) := by omega
              go_wp2_with fail
              go_round
              case rel => exact ⟨y, j + 1, y0, y1, by omega, rfl, by go_num⟩
              case measure => simp [intOf]; omega
    · have i1 : ¬ (j : Int) < (n : Int) := by omega
      go_wp2
      all_goals
        go_ret
        exact ⟨_, rfl, rfl⟩

end Go.Proofs.Qxb6618693a
