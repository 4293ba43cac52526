/-
  SELECTORS IN MEMORY; THE WALKS OF slices.Index, slices.Contains over strings, OF THE CLOSURE, OF slices.IndexFunc, slices.ContainsFunc, OF TakesBalance. By an AI agent.
-/
import Derived.Test.Qxb6618693aRows
import Derived.WalkKit
import Derived.ProofKit
import Derived.Below
import Derived.BigRegion
import Derived.RegionTactic
namespace Go.Proofs.Qxb6618693a
open Go.RowKit

/-- the strings of a slice, where they lie -/
def KindsAt (w : World) (a : Option Addr) (n : Nat) (S : Nat → ByteArray) : Prop :=
  ∀ j, j < n → ∃ b off, a = some ⟨b, off, none⟩ ∧ b < w.heap.size ∧ w.cell? ⟨b, off + j, none⟩ = some (.string (S j)) ∧ (S j).size ≤ maxLen
/-- the selectors of a slice, where they lie: two cells each; the strings that each leads to -/
def SelsAt (w : World) (a : Option Addr) (n : Nat) (Ka : Nat → Option Addr) (Kl Kc : Nat → Nat) (M : Nat → Option Addr) (S : Nat → Nat → ByteArray) : Prop :=
  ∀ i, i < n → ∃ b off, a = some ⟨b, off, none⟩ ∧ b < w.heap.size ∧ w.cell? ⟨b, off + i * 2, none⟩ = some (.slice (Ka i) (Kl i) (Kc i)) ∧ w.cell? ⟨b, off + i * 2 + 1, none⟩ = some (.pointer (M i)) ∧ KindsAt w (Ka i) (Kl i) (S i) ∧ Kl i ≤ maxLen

theorem KindsAt.below {w w' : World} {a : Option Addr} {n : Nat} {S : Nat → ByteArray} (h : KindsAt w a n S) (hb : Below w.heap.size w w') : KindsAt w' a n S := fun j hj => by
  obtain ⟨b, off, e, hl, hc, hs⟩ := h j hj
  exact ⟨b, off, e, Nat.lt_of_lt_of_le hl hb.size, (hb.cell (p := ⟨b, off + j, none⟩) hl).trans hc, hs⟩
theorem SelsAt.below {w w' : World} {a : Option Addr} {n : Nat} {Ka : Nat → Option Addr} {Kl Kc : Nat → Nat} {M : Nat → Option Addr} {S : Nat → Nat → ByteArray} (h : SelsAt w a n Ka Kl Kc M S) (hb : Below w.heap.size w w') : SelsAt w' a n Ka Kl Kc M S := fun i hi => by
  obtain ⟨b, off, e, hl, h0, h1, hk, hm⟩ := h i hi
  exact ⟨b, off, e, Nat.lt_of_lt_of_le hl hb.size, (hb.cell (p := ⟨b, off + i * 2, none⟩) hl).trans h0, (hb.cell (p := ⟨b, off + i * 2 + 1, none⟩) hl).trans h1, hk.below hb, hm⟩

/-- is x among the first n -/
def kin (n : Nat) (S : Nat → ByteArray) (x : ByteArray) : Bool := decide (∃ j, j < n ∧ (x.toList == (S j).toList) = true)

/-- how slices.Index ends -/
def IdxEnd (b : Bool) (w : World) (e : Ending) (w' : World) : Prop := ∃ r : Int, e = .returned (.int .i64 r) ∧ (-1 ≤ r ∧ r ≤ 9223372036854775807) ∧ (0 ≤ r ↔ b = true) ∧ w = w'

set_option maxRecDepth 100000 in
set_option maxHeartbeats 1000000 in
theorem index_any (a : Option Addr) (n cap : Nat) (S : Nat → ByteArray) (x : ByteArray) (w : World) (hn : n ≤ maxLen) (hk : Hid (KindsAt w a n S)) :
    Calls Try.prog 18 #[.slice a n cap, .string x] w fun e w' => IdxEnd (kin n S x) w e w' := by
  unfold maxLen at hn
  go_enter Try.func18, Try.ntmps18
  go_wp2_with fail
  go_loop [8] (fun s8 => ∃ j : Nat, j ≤ n ∧ s8 = .int .i64 j ∧ Hid (∀ i, i < j → (x.toList == (S i).toList) = false)) (fun s8 => n - (intOf s8).toNat)
  case atStart => exact ⟨0, by omega, rfl, fun i hi => by omega⟩
  case round =>
    obtain ⟨j, hj, rfl, HN⟩ := hrel
    by_cases hlt : j < n
    · have i1 : (j : Int) < (n : Int) := by omega
      obtain ⟨b, off, rfl, hl, hc, hs⟩ := hk.out j hlt
      by_cases he : (x.toList == (S j).toList) = true
      · have HE : Hid (kin n S x = true) := by
          unfold Hid kin
          rw [decide_eq_true_iff]
          exact ⟨j, hlt, he⟩
        go_wp2_with fail
        go_ret
        exact ⟨_, rfl, by omega, by rw [HE.out]; simp, rfl⟩
      · have he' : (x.toList == (S j).toList) = false := by simpa using he
        have HN' : Hid (∀ i, i < j + 1 → (x.toList == (S i).toList) = false) := fun i hi => by
          by_cases e : i = j
          · subst e; exact he'
          · exact HN.out i (by omega)
        clear he
        go_wp2_with fail
        go_round
        case rel => exact ⟨j + 1, by omega, by go_num, HN'⟩
        case measure => simp [intOf]; omega
    · have i1 : ¬ (j : Int) < (n : Int) := by omega
      have HE : Hid (kin n S x = false) := by
        unfold Hid kin
        rw [decide_eq_false_iff_not]
        rintro ⟨i, hi, e⟩
        rw [HN.out i (by omega)] at e; cases e
      go_wp2_with fail
      go_ret
      exact ⟨_, rfl, by omega, by rw [HE.out]; simp, rfl⟩

theorem contains_any (a : Option Addr) (n cap : Nat) (S : Nat → ByteArray) (x : ByteArray) (w : World) (hn : n ≤ maxLen) (hk : Hid (KindsAt w a n S)) :
    Calls Try.prog 16 #[.slice a n cap, .string x] w fun e w' => e = .returned (.bool (kin n S x)) ∧ w = w' := by
  have HK : Hid (Calls Try.prog 18 #[.slice a n cap, .string x] w fun e w' => IdxEnd (kin n S x) w e w') := index_any a n cap S x w hn hk
  generalize kin n S x = B at *
  clear hk hn
  go_enter Try.func16, Try.ntmps16
  go_wp2_with fail
  refine Calls.mono (Hid.out HK) ?_
  rintro e w1 ⟨r, rfl, hr, hB, rfl⟩
  cases B
  · have hd : decide (0 ≤ r) = false := by simp at hB; simp; omega
    have hd2 : ¬ 0 ≤ r := by simp at hB; omega
    clear hB hr
    go_wp2_with fail
    go_ret
    exact ⟨rfl, rfl⟩
  · have hd2 : 0 ≤ r := by simp at hB; omega
    clear hB hr
    go_wp2_with fail
    go_ret
    exact ⟨rfl, rfl⟩

/-- the closure: does this selector name the balance's kind -/
theorem closure_any (a : Option Addr) (n cap : Nat) (m : Option Addr) (B : Nat) (S : Nat → ByteArray) (x : ByteArray) (w : World) (hn : n ≤ maxLen) (hk : Hid (KindsAt w a n S)) (hB : B < w.heap.size) (hx : w.cell? ⟨B, 1, none⟩ = some (.string x)) :
    Calls Try.prog 15 #[.agg #[.slice a n cap, .pointer m], .pointer (some ⟨B, 0, none⟩)] w fun e w' => e = .returned (.bool (kin n S x)) ∧ Below w.heap.size w w' := by
  have hb1 : Below w.heap.size w (w.alloc (.cells #[.slice a n cap, .pointer m] 47)) := (Below.refl _ _).alloc (Nat.le_refl _) _
  have HB1 : Hid (Below w.heap.size w (w.alloc (.cells #[.slice a n cap, .pointer m] 47))) := hb1
  have HK : Hid (Calls Try.prog 16 #[.slice a n cap, .string x] (w.alloc (.cells #[.slice a n cap, .pointer m] 47)) fun e w' => e = .returned (.bool (kin n S x)) ∧ (w.alloc (.cells #[.slice a n cap, .pointer m] 47)) = w') := contains_any a n cap S x _ hn (hk.out.below hb1)
  clear hb1 hk
  go_enter Try.func15, Try.ntmps15
  go_wp2_with fail
  refine Calls.mono (Hid.out HK) ?_
  rintro e w1 ⟨rfl, rfl⟩
  go_wp2_with fail
  go_ret
  exact ⟨rfl, HB1.out⟩

/-- does one of the first n name it -/
def named (n : Nat) (Kl : Nat → Nat) (S : Nat → Nat → ByteArray) (x : ByteArray) : Bool := decide (∃ i, i < n ∧ kin (Kl i) (S i) x = true)
def IdxFEnd (b : Bool) (w : World) (e : Ending) (w' : World) : Prop := ∃ r : Int, e = .returned (.int .i64 r) ∧ (-1 ≤ r ∧ r ≤ 9223372036854775807) ∧ (0 ≤ r ↔ b = true) ∧ Below w.heap.size w w'

set_option maxRecDepth 100000 in
set_option maxHeartbeats 1000000 in
theorem indexFunc_any (a : Option Addr) (n cap B : Nat) (Ka : Nat → Option Addr) (Kl Kc : Nat → Nat) (M : Nat → Option Addr) (S : Nat → Nat → ByteArray) (x : ByteArray) (w : World) (hn : n ≤ maxLen) (hk : Hid (SelsAt w a n Ka Kl Kc M S)) (hB : B < w.heap.size) (hx : Hid (w.cell? ⟨B, 1, none⟩ = some (.string x))) :
    Calls Try.prog 17 #[.slice a n cap, .func (.func 15) #[] #[.pointer (some ⟨B, 0, none⟩)]] w fun e w' => IdxFEnd (named n Kl S x) w e w' := by
  unfold maxLen at hn
  go_enter Try.func17, Try.ntmps17
  go_wp2_with fail
  go_loopw [8] (fun s8 wr => ∃ j : Nat, j ≤ n ∧ s8 = .int .i64 j ∧ Hid (∀ i, i < j → kin (Kl i) (S i) x = false) ∧ Hid (Below w.heap.size w wr)) (fun s8 _ => n - (intOf s8).toNat)
  case atStart => exact ⟨0, by omega, rfl, fun i hi => by omega, Below.refl _ _⟩
  case round =>
    obtain ⟨j, hj, rfl, HN, HB⟩ := hrel
    by_cases hlt : j < n
    · have i1 : (j : Int) < (n : Int) := by omega
      have hsz := HB.out.size
      obtain ⟨b, off, rfl, hl, h0, h1, hks, hm⟩ := hk.out.below HB.out j hlt
      have HK : Hid (Calls Try.prog 15 #[.agg #[.slice (Ka j) (Kl j) (Kc j), .pointer (M j)], .pointer (some ⟨B, 0, none⟩)] wr fun e w' => e = .returned (.bool (kin (Kl j) (S j) x)) ∧ Below wr.heap.size wr w') :=
        closure_any (Ka j) (Kl j) (Kc j) (M j) B (S j) x wr hm hks (by omega) ((HB.out.cell (p := ⟨B, 1, none⟩) hB).trans hx.out)
      obtain ⟨y, hy⟩ : ∃ y, kin (Kl j) (S j) x = y := ⟨_, rfl⟩
      rw [hy] at HK
      have HY : Hid (kin (Kl j) (S j) x = y) := hy
      clear hy hks hm
      cases y
      · have HN' : Hid (∀ i, i < j + 1 → kin (Kl i) (S i) x = false) := fun i hi => by
          by_cases e : i = j
          · subst e; exact HY.out
          · exact HN.out i (by omega)
        go_wp2_with fail
        refine Calls.mono (Hid.out HK) ?_
        rintro e w1 ⟨rfl, b1⟩
        have HB' : Hid (Below w.heap.size w w1) := HB.out.trans (b1.mono hsz)
        clear b1
        go_wp2_with fail
        go_roundw
        case rel => exact ⟨j + 1, by omega, by go_num, HN', HB'⟩
        case measure => simp [intOf]; omega
      · have HE : Hid (named n Kl S x = true) := by
          unfold Hid named
          rw [decide_eq_true_iff]
          exact ⟨j, hlt, HY.out⟩
        go_wp2_with fail
        refine Calls.mono (Hid.out HK) ?_
        rintro e w1 ⟨rfl, b1⟩
        have HB' : Hid (Below w.heap.size w w1) := HB.out.trans (b1.mono hsz)
        clear b1
        go_wp2_with fail
        go_ret
        exact ⟨_, rfl, by omega, by rw [HE.out]; simp, HB'.out⟩
    · have i1 : ¬ (j : Int) < (n : Int) := by omega
      have HE : Hid (named n Kl S x = false) := by
        unfold Hid named
        rw [decide_eq_false_iff_not]
        rintro ⟨i, hi, e⟩
        rw [HN.out i (by omega)] at e; cases e
      go_wp2_with fail
      go_ret
      exact ⟨_, rfl, by omega, by rw [HE.out]; simp, HB.out⟩

theorem containsFunc_any (a : Option Addr) (n cap B : Nat) (Ka : Nat → Option Addr) (Kl Kc : Nat → Nat) (M : Nat → Option Addr) (S : Nat → Nat → ByteArray) (x : ByteArray) (w : World) (hn : n ≤ maxLen) (hk : Hid (SelsAt w a n Ka Kl Kc M S)) (hB : B < w.heap.size) (hx : Hid (w.cell? ⟨B, 1, none⟩ = some (.string x))) :
    Calls Try.prog 14 #[.slice a n cap, .func (.func 15) #[] #[.pointer (some ⟨B, 0, none⟩)]] w fun e w' => e = .returned (.bool (named n Kl S x)) ∧ Below w.heap.size w w' := by
  have HK : Hid (Calls Try.prog 17 #[.slice a n cap, .func (.func 15) #[] #[.pointer (some ⟨B, 0, none⟩)]] w fun e w' => IdxFEnd (named n Kl S x) w e w') := indexFunc_any a n cap B Ka Kl Kc M S x w hn hk hB hx
  generalize named n Kl S x = C at *
  clear hk hn hx
  go_enter Try.func14, Try.ntmps14
  go_wp2_with fail
  refine Calls.mono (Hid.out HK) ?_
  rintro e w1 ⟨r, rfl, hr, hC, b1⟩
  have HB' : Hid (Below w.heap.size w w1) := b1
  clear b1
  cases C
  · have hd : decide (0 ≤ r) = false := by simp at hC; simp; omega
    have hd2 : ¬ 0 ≤ r := by simp at hC; omega
    clear hC hr
    go_wp2_with fail
    go_ret
    exact ⟨rfl, HB'.out⟩
  · have hd2 : 0 ≤ r := by simp at hC; omega
    clear hC hr
    go_wp2_with fail
    go_ret
    exact ⟨rfl, HB'.out⟩

/-- a balance's six cells -/
def balA (item kind side text : ByteArray) : Array Value := #[.string item, .string kind, .string side, .string text, .pointer none, .int .i32 0]

theorem balance_any (item kind side text : ByteArray) (w : World) :
    Calls Try.prog 9 #[.string item, .string kind, .string side, .string text] w fun e w' => e = .returned (.agg (balA item kind side text)) ∧ Below w.heap.size w w' := by
  go_enter Try.func9, Try.ntmps9
  go_wp2_with fail
  refine bodyPost_ret (v := .agg (balA item kind side text)) (by simp [results, Try.results9, go_sem, balA]) rfl ⟨rfl, (Below.refl _ _).alloc (Nat.le_refl _) _⟩

/-- what TakesBalance says -/
def takes (ta : Bool) (side : ByteArray) (nm : Bool) : Bool := if ta then side.toList == [97, 115, 115, 101, 116] else nm

theorem takes_any (ta : Bool) (a : Option Addr) (n cap : Nat) (Ka : Nat → Option Addr) (Kl Kc : Nat → Nat) (M : Nat → Option Addr) (S : Nat → Nat → ByteArray) (item kind side text : ByteArray) (w : World) (hn : n ≤ maxLen) (hk : Hid (SelsAt w a n Ka Kl Kc M S)) :
    Calls Try.prog 10 #[.agg #[.bool ta, .slice a n cap], .agg (balA item kind side text)] w fun e w' => e = .returned (.bool (takes ta side (named n Kl S kind))) ∧ Below w.heap.size w w' := by
  have hb1 : Below w.heap.size w ((w.alloc (.cells #[.bool ta, .slice a n cap] 38)).alloc (.cells (balA item kind side text) 35)) := ((Below.refl _ _).alloc (Nat.le_refl _) _).alloc (by simp) _
  have HB1 : Hid (Below w.heap.size w ((w.alloc (.cells #[.bool ta, .slice a n cap] 38)).alloc (.cells (balA item kind side text) 35))) := hb1
  have hmf : ∀ (fn : Fn) (first cap : Array Value) (w : World), (Instr.makeFunc fn first cap).run Try.prog w = .ok (.func fn first cap) w := fun _ _ _ _ => rfl
  have hc : ((w.alloc (.cells #[.bool ta, .slice a n cap] 38)).alloc (.cells (balA item kind side text) 35)).cell? ⟨w.heap.size + 1, 1, none⟩ = some (.string kind) := by
    rw [World.cell?_alloc_at _ _ _ _ (by simp)]; rfl
  have HK : Hid (Calls Try.prog 14 #[.slice a n cap, .func (.func 15) #[] #[.pointer (some ⟨w.heap.size + 1, 0, none⟩)]] ((w.alloc (.cells #[.bool ta, .slice a n cap] 38)).alloc (.cells (balA item kind side text) 35)) fun e w' => e = .returned (.bool (named n Kl S kind)) ∧ Below ((w.alloc (.cells #[.bool ta, .slice a n cap] 38)).alloc (.cells (balA item kind side text) 35)).heap.size ((w.alloc (.cells #[.bool ta, .slice a n cap] 38)).alloc (.cells (balA item kind side text) 35)) w') :=
    containsFunc_any a n cap (w.heap.size + 1) Ka Kl Kc M S kind _ hn (hk.out.below hb1) (by simp) hc
  generalize named n Kl S kind = C at *
  clear hk hb1 hc
  unfold balA at *
  cases ta
  · go_enter Try.func10, Try.ntmps10
    go_wp2_with fail
    refine Calls.mono (Hid.out HK) ?_
    rintro e w1 ⟨rfl, b1⟩
    have HB' : Hid (Below w.heap.size w w1) := HB1.out.trans (b1.mono HB1.out.size)
    clear b1
    go_wp2_with fail
    go_ret
    exact ⟨rfl, HB'.out⟩
  · go_enter Try.func10, Try.ntmps10
    go_wp2_with fail
    go_ret
    exact ⟨rfl, HB1.out⟩

end Go.Proofs.Qxb6618693a
