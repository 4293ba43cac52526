/-
  THE WALK OF zzSelectors: the copy, field by field. By an AI agent.
-/
import Derived.Test.Qxb6618693aSums
import Derived.OwnWalk
import Derived.WalkSpells
import Derived.WalkLawsBesides
import Derived.Deep.DeepMust
import Derived.Lib.SliceRun
namespace Go.Proofs.Qxb6618693a
open Go.RowKit

theorem info47 : (Try.prog.info? 47).map (fun i => (i.zero, i.size, i.bytes)) = some (some (.agg #[.slice none 0 0, .pointer none]), 2, 32) := by kernel_rfl

/-- the new row -/
def OutAt (w : World) (g : Nat) (cur : Array Value) : Prop := w.heap[g]? = some (.cells cur 47 (0, 0))
theorem OutAt.cell {w : World} {g : Nat} {cur : Array Value} (h : OutAt w g cur) (k : Nat) : w.cell? ⟨g, k, none⟩ = cur[k]? := cell_of_row w g k _ 47 _ h
theorem OutAt.free {w : World} {g : Nat} {cur : Array Value} (h : OutAt w g cur) (k : Nat) : w.frozen? ⟨g, k, none⟩ = false := frozen_of_row w g k _ 47 h
theorem OutAt.put {w : World} {g : Nat} {cur : Array Value} (h : OutAt w g cur) (k : Nat) (v : Value) : OutAt (w.setCell ⟨g, k, none⟩ v) g (cur.setIfInBounds k v) := by
  unfold OutAt
  rw [heap_setCell_same w g k _ 47 _ h]
theorem OutAt.lt {w : World} {g : Nat} {cur : Array Value} (h : OutAt w g cur) : g < w.heap.size := (Array.getElem?_eq_some_iff.1 h).1

theorem out_made {w : World} {base g n : Nat} {xs : List Value} (h : w.ownsRow base 47 2 (.slice (some ⟨g, 0, none⟩) n n) n xs) : ∃ cur : Array Value, OutAt w g cur ∧ cur.size = n * 2 := by
  rcases h.2 with ⟨h', _⟩ | ⟨g', cap', cur, h', hb, hg, hnc, hcm, hcs, htake⟩
  · simp at h'
  · simp only [Value.slice.injEq, Option.some.injEq, Addr.mk.injEq, and_true, true_and] at h'
    obtain ⟨rfl, rfl⟩ := h'
    exact ⟨cur, hg, hcs⟩

/-- what has been copied so far -/
def Done (cur : Array Value) (i : Nat) (Ka : Nat → Option Addr) (Kl Kc : Nat → Nat) (M : Nat → Option Addr) : Prop :=
  ∀ k, k < i → cur[k * 2]? = some (.slice (Ka k) (Kl k) (Kc k)) ∧ cur[k * 2 + 1]? = some (.pointer (M k))
theorem done_step {cur : Array Value} {i : Nat} {Ka : Nat → Option Addr} {Kl Kc : Nat → Nat} {M : Nat → Option Addr} (h : Done cur i Ka Kl Kc M) (hs : i * 2 + 1 < cur.size) :
    Done ((cur.setIfInBounds (i * 2) (.slice (Ka i) (Kl i) (Kc i))).setIfInBounds (i * 2 + 1) (.pointer (M i))) (i + 1) Ka Kl Kc M := by
  intro k hk
  by_cases e : k = i
  · subst e
    constructor
    · rw [Array.getElem?_setIfInBounds_ne (by omega), Array.getElem?_setIfInBounds_self_of_lt (by omega)]
    · rw [Array.getElem?_setIfInBounds_self_of_lt (by simpa using hs)]
  · have := h k (by omega)
    rw [Array.getElem?_setIfInBounds_ne (by omega), Array.getElem?_setIfInBounds_ne (by omega), Array.getElem?_setIfInBounds_ne (by omega), Array.getElem?_setIfInBounds_ne (by omega)]
    exact this

/-- how zzSelectors ends -/
def CopyEnd (n : Nat) (Ka : Nat → Option Addr) (Kl Kc : Nat → Nat) (M : Nat → Option Addr) (S : Nat → Nat → ByteArray) (w : World) (e : Ending) (w' : World) : Prop :=
  ∃ (c : Option Addr), e = .returned (.slice c n n) ∧ (c = none ∧ n = 0 ∨ ∃ g, c = some ⟨g, 0, none⟩) ∧ SelsAt w' c n Ka Kl Kc M S ∧ Below w.heap.size w w'

theorem copy_nil (cap : Nat) (Ka : Nat → Option Addr) (Kl Kc : Nat → Nat) (M : Nat → Option Addr) (S : Nat → Nat → ByteArray) (w : World) :
    Calls Try.prog 8 #[.slice none 0 cap] w fun e w' => CopyEnd 0 Ka Kl Kc M S w e w' := by
  have hne := fun wx => Lib.run_eql_slice_nil (P := Try.prog) wx 22 45 none 0 cap 0 0 Try.underlying22
  go_enter Try.func8, Try.ntmps8
  go_wp2_with fail
  go_ret
  exact ⟨none, rfl, .inl ⟨rfl, rfl⟩, fun i hi => by omega, Below.refl _ _⟩

set_option maxRecDepth 100000 in
set_option maxHeartbeats 2000000 in
theorem copy_some (ad : Addr) (n cap : Nat) (Ka : Nat → Option Addr) (Kl Kc : Nat → Nat) (M : Nat → Option Addr) (S : Nat → Nat → ByteArray) (w : World) (hn : n ≤ 1048576) (hk : Hid (SelsAt w (some ad) n Ka Kl Kc M S)) :
    Calls Try.prog 8 #[.slice (some ad) n cap] w fun e w' => CopyEnd n Ka Kl Kc M S w e w' := by
  obtain ⟨i0, hi, hz0, hz1, hz2⟩ := info_parts info47
  have hne := fun wx => Lib.run_eql_slice_nil (P := Try.prog) wx 22 45 (some ad) n cap 0 0 Try.underlying22
  go_enter Try.func8, Try.ntmps8
  go_wp2_with (at_make; go_must (refine wpList_make_full _ rfl (.tmp 8) (.tmp 8) 26 rfl w.heap.size 47 i0 (.agg #[.slice none 0 0, .pointer none]) 2 Try.underlying26 hi hz0 hz1 _ _ _ _ n rfl rfl rfl rfl (by rw [hz2]; omega) (by unfold maxLen; omega) (Nat.le_refl _) ?_))
  intro w1 own1 gr1
  obtain ⟨cur, hcur, hcs⟩ := out_made own1
  have HB1 : Hid (Below w.heap.size w w1) := (Below.refl _ _).grown gr1 (Nat.le_refl _) (fun k h => by cases h)
  have HC1 : Hid (OutAt w1 w.heap.size cur) := hcur
  obtain ⟨g, hg⟩ : ∃ g, w.heap.size = g := ⟨_, rfl⟩
  have Hg : Hid (w.heap.size = g) := hg
  rw [hg] at HC1 ⊢
  clear own1 gr1 hcur hne hg
  go_wp2_with fail
  go_loopw [4] (fun s4 wr => ∃ (i : Nat) (cur : Array Value), i ≤ n ∧ s4 = .int .i64 i ∧ Hid (OutAt wr g cur) ∧ cur.size = n * 2 ∧ Hid (Done cur i Ka Kl Kc M) ∧ Hid (Below w.heap.size w wr)) (fun s4 _ => n - (intOf s4).toNat)
  case atStart => exact ⟨0, cur, by omega, rfl, HC1, hcs, fun k hk => by omega, HB1⟩
  case round =>
    clear HC1 hcs HB1
    obtain ⟨i, cur, hin, rfl, HC, hcs, HD, HB⟩ := hrel
    by_cases hlt : i < n
    · have i1 : (i : Int) < (n : Int) := by omega
      obtain ⟨b, off, e, hl, h0, h1, _, _⟩ := hk.out.below HB.out i hlt
      cases e
      have o0 := HC.out.cell (i * 2)
      rw [Array.getElem?_eq_getElem (by omega)] at o0
      have o1 := HC.out.cell (i * 2 + 1)
      rw [Array.getElem?_eq_getElem (by omega)] at o1
      have f0 := HC.out.free (i * 2)
      have f1 := HC.out.free (i * 2 + 1)
      have hd' := done_step HD.out (by omega)
      have HD' : Hid (Done ((cur.setIfInBounds (i * 2) (.slice (Ka i) (Kl i) (Kc i))).setIfInBounds (i * 2 + 1) (.pointer (M i))) (i + 1) Ka Kl Kc M) := hd'
      have HC' : Hid (OutAt ((wr.setCell ⟨g, i * 2, none⟩ (.slice (Ka i) (Kl i) (Kc i))).setCell ⟨g, i * 2 + 1, none⟩ (.pointer (M i))).drew g ((cur.setIfInBounds (i * 2) (.slice (Ka i) (Kl i) (Kc i))).setIfInBounds (i * 2 + 1) (.pointer (M i)))) := (HC.out.put _ _).put _ _
      have HB' : Hid (Below w.heap.size w ((wr.setCell ⟨g, i * 2, none⟩ (.slice (Ka i) (Kl i) (Kc i))).setCell ⟨g, i * 2 + 1, none⟩ (.pointer (M i))).drew) := ((HB.out.setCell (by rw [Hg.out]; exact Nat.le_refl _) _).setCell (by rw [Hg.out]; exact Nat.le_refl _) _).drew
      clear hd'
      go_wp2_with fail
      go_region
      go_wp2_with fail
      go_roundw
      case rel => exact ⟨i + 1, _, by omega, by go_num, HC', by simp [hcs], HD', HB'⟩
      case measure => simp [intOf]; omega
    · have i1 : ¬ (i : Int) < (n : Int) := by omega
      have HS : Hid (SelsAt wr (some ⟨g, 0, none⟩) n Ka Kl Kc M S) := fun k hkn => by
        obtain ⟨d0, d1⟩ := HD.out k (by omega)
        obtain ⟨b, off, e, hl, h0, h1, hks, hm⟩ := hk.out.below HB.out k hkn
        exact ⟨g, 0, rfl, HC.out.lt, by rw [HC.out.cell, Nat.zero_add]; exact d0, by rw [HC.out.cell, Nat.zero_add]; exact d1, hks, hm⟩
      go_wp2_with fail
      go_ret
      exact ⟨some ⟨g, 0, none⟩, rfl, .inr ⟨g, rfl⟩, HS.out, HB.out⟩

theorem copy_any (a : Option Addr) (n cap : Nat) (Ka : Nat → Option Addr) (Kl Kc : Nat → Nat) (M : Nat → Option Addr) (S : Nat → Nat → ByteArray) (w : World) (hn : n ≤ 1048576) (ha : a = none → n = 0) (hk : Hid (SelsAt w a n Ka Kl Kc M S)) :
    Calls Try.prog 8 #[.slice a n cap] w fun e w' => CopyEnd n Ka Kl Kc M S w e w' := by
  rcases a with _ | ad
  · rw [ha rfl]; exact copy_nil cap Ka Kl Kc M S w
  · exact copy_some ad n cap Ka Kl Kc M S w hn hk

end Go.Proofs.Qxb6618693a
