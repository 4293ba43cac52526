/-
  THE WALK OF FnTakesBalanceJoinedSelectors. By an AI agent.
-/
import Derived.Test.Qxb6618693aCopy
namespace Go.Proofs.Qxb6618693a
open Go.RowKit

/-! ### plainly -/
theorem named_cut (n k : Nat) (Kl : Nat → Nat) (S : Nat → Nat → ByteArray) (x : ByteArray) (h : k ≤ n) :
    named n Kl S x = (named k Kl S x || named (n - k) (fun i => Kl (k + i)) (fun i => S (k + i)) x) := by
  rw [Bool.eq_iff_iff, Bool.or_eq_true]
  unfold named
  simp only [decide_eq_true_iff]
  constructor
  · rintro ⟨i, hi, e⟩
    by_cases hk : i < k
    · exact .inl ⟨i, hk, e⟩
    · exact .inr ⟨i - k, by omega, by rw [show k + (i - k) = i from by omega]; exact e⟩
  · rintro (⟨i, hi, e⟩ | ⟨i, hi, e⟩)
    · exact ⟨i, by omega, e⟩
    · exact ⟨k + i, by omega, e⟩

theorem SelsAt.first {w : World} {a : Option Addr} {n k : Nat} {Ka : Nat → Option Addr} {Kl Kc : Nat → Nat} {M : Nat → Option Addr} {S : Nat → Nat → ByteArray} (h : SelsAt w a n Ka Kl Kc M S) (hk : k ≤ n) : SelsAt w a k Ka Kl Kc M S :=
  fun i hi => h i (by omega)
theorem SelsAt.rest {w : World} {g n k : Nat} {Ka : Nat → Option Addr} {Kl Kc : Nat → Nat} {M : Nat → Option Addr} {S : Nat → Nat → ByteArray} (h : SelsAt w (some ⟨g, 0, none⟩) n Ka Kl Kc M S) :
    SelsAt w (some ⟨g, k * 2, none⟩) (n - k) (fun i => Ka (k + i)) (fun i => Kl (k + i)) (fun i => Kc (k + i)) (fun i => M (k + i)) (fun i => S (k + i)) := fun i hi => by
  obtain ⟨b, off, e, hl, h0, h1, hks, hm⟩ := h (k + i) (by omega)
  cases e
  exact ⟨g, k * 2, rfl, hl, by rw [show k * 2 + i * 2 = 0 + (k + i) * 2 from by omega]; exact h0, by rw [show k * 2 + i * 2 = 0 + (k + i) * 2 from by omega]; exact h1, hks, hm⟩
theorem SelsAt.none {w : World} {a : Option Addr} {Ka : Nat → Option Addr} {Kl Kc : Nat → Nat} {M : Nat → Option Addr} {S : Nat → Nat → ByteArray} : SelsAt w a 0 Ka Kl Kc M S := fun i hi => by omega

/-! ### four new boxes -/
theorem four_boxes (w : World) (A B C D : Array Value) (W : World) (h : W = (((w.alloc (.cells A 35)).alloc (.cells B 38)).alloc (.cells C 38)).alloc (.cells D 38)) :
    W.heap.size = w.heap.size + 4 ∧ Below w.heap.size w W ∧ (∀ i, W.cell? ⟨w.heap.size, i, none⟩ = A[i]?) ∧ (∀ i, W.cell? ⟨w.heap.size + 1, i, none⟩ = B[i]?) ∧ (∀ i, W.cell? ⟨w.heap.size + 2, i, none⟩ = C[i]?) ∧ (∀ i, W.cell? ⟨w.heap.size + 3, i, none⟩ = D[i]?) := by
  subst h
  refine ⟨by simp, ((((Below.refl _ _).alloc (Nat.le_refl _) _).alloc (by simp <;> omega) _).alloc (by simp <;> omega) _).alloc (by simp <;> omega) _, fun i => ?_, fun i => ?_, fun i => ?_, fun i => ?_⟩
  · rw [World.cell?_alloc_past _ _ _ (by simp <;> omega), World.cell?_alloc_past _ _ _ (by simp <;> omega), World.cell?_alloc_past _ _ _ (by simp <;> omega), World.cell?_alloc_at _ _ _ _ rfl]
  · rw [World.cell?_alloc_past _ _ _ (by simp <;> omega), World.cell?_alloc_past _ _ _ (by simp <;> omega), World.cell?_alloc_at _ _ _ _ (by simp <;> omega)]
  · rw [World.cell?_alloc_past _ _ _ (by simp <;> omega), World.cell?_alloc_at _ _ _ _ (by simp <;> omega)]
  · rw [World.cell?_alloc_at _ _ _ _ (by simp <;> omega)]

/-- the boxes that are read again -/
def Boxes (W : World) (T : Nat) (ta : Bool) (s3 s4 s5 s6 : ByteArray) (vL vR : Value) : Prop :=
  T + 4 ≤ W.heap.size ∧ (W.cell? ⟨T, 0, none⟩ = some (.string s3) ∧ W.cell? ⟨T, 1, none⟩ = some (.string s4) ∧ W.cell? ⟨T, 2, none⟩ = some (.string s5) ∧ W.cell? ⟨T, 3, none⟩ = some (.string s6) ∧ W.cell? ⟨T, 4, none⟩ = some (.pointer none) ∧ W.cell? ⟨T, 5, none⟩ = some (.int .i32 0)) ∧
  (W.cell? ⟨T + 1 + 1, 0, none⟩ = some (.bool ta) ∧ W.cell? ⟨T + 1 + 1, 1, none⟩ = some vL) ∧ (W.cell? ⟨T + 1 + 1 + 1, 0, none⟩ = some (.bool ta) ∧ W.cell? ⟨T + 1 + 1 + 1, 1, none⟩ = some vR)
theorem Boxes.below {W W' : World} {T : Nat} {ta : Bool} {s3 s4 s5 s6 : ByteArray} {vL vR : Value} (h : Boxes W T ta s3 s4 s5 s6 vL vR) (hb : Below W.heap.size W W') : Boxes W' T ta s3 s4 s5 s6 vL vR := by
  obtain ⟨hs, ⟨a0, a1, a2, a3, a4, a5⟩, ⟨c0, c1⟩, ⟨d0, d1⟩⟩ := h
  have e : ∀ X i, X < W.heap.size → W'.cell? ⟨X, i, none⟩ = W.cell? ⟨X, i, none⟩ := fun X i hX => hb.cell (p := ⟨X, i, none⟩) hX
  have := hb.size
  exact ⟨by omega, ⟨(e _ _ (by omega)).trans a0, (e _ _ (by omega)).trans a1, (e _ _ (by omega)).trans a2, (e _ _ (by omega)).trans a3, (e _ _ (by omega)).trans a4, (e _ _ (by omega)).trans a5⟩, ⟨(e _ _ (by omega)).trans c0, (e _ _ (by omega)).trans c1⟩, ⟨(e _ _ (by omega)).trans d0, (e _ _ (by omega)).trans d1⟩⟩
theorem boxes_made {w W : World} {ta : Bool} {s3 s4 s5 s6 : ByteArray} {vW vL vR : Value}
    (h : W = (((w.alloc (.cells #[.string s3, .string s4, .string s5, .string s6, .pointer none, .int .i32 0] 35)).alloc (.cells #[.bool ta, vW] 38)).alloc (.cells #[.bool ta, vL] 38)).alloc (.cells #[.bool ta, vR] 38)) :
    Boxes W w.heap.size ta s3 s4 s5 s6 vL vR ∧ Below w.heap.size w W := by
  obtain ⟨hs, hb, a, b, c, d⟩ := four_boxes w _ _ _ _ W h
  exact ⟨⟨by omega, ⟨a 0, a 1, a 2, a 3, a 4, a 5⟩, ⟨c 0, c 1⟩, ⟨d 0, d 1⟩⟩, hb⟩

theorem takes_is {ta : Bool} {a : Option Addr} {n cap : Nat} {Ka : Nat → Option Addr} {Kl Kc : Nat → Nat} {M : Nat → Option Addr} {S : Nat → Nat → ByteArray} {item kind side text : ByteArray} {w : World} {T : Bool} (hT : takes ta side (named n Kl S kind) = T) (hn : n ≤ maxLen) (hk : SelsAt w a n Ka Kl Kc M S) :
    Calls Try.prog 10 #[.agg #[.bool ta, .slice a n cap], .agg #[.string item, .string kind, .string side, .string text, .pointer none, .int .i32 0]] w fun e w' => e = .returned (.bool T) ∧ Below w.heap.size w w' := by
  rw [← hT]; exact takes_any ta a n cap Ka Kl Kc M S item kind side text w hn hk
theorem kindNamed_is {a : Option Addr} {n cap : Nat} {Ka : Nat → Option Addr} {Kl Kc : Nat → Nat} {M : Nat → Option Addr} {S : Nat → Nat → ByteArray} {x : ByteArray} {w : World} {T : Bool} (hT : named n Kl S x = T) (hn : n ≤ maxLen) (hk : SelsAt w a n Ka Kl Kc M S) :
    Calls Try.prog 11 #[.slice a n cap, .string x] w fun e w' => e = .returned (.bool T) ∧ w = w' := by
  rw [← hT]; exact kindNamed_any a n cap Ka Kl Kc M S x w hn hk

/-- the three answers, and what they have to do with one another -/
theorem three (ta : Bool) (side x : ByteArray) (n k : Nat) (Kl : Nat → Nat) (S : Nat → Nat → ByteArray) (h : k ≤ n) : ∃ TW TL TR : Bool, takes ta side (named n Kl S x) = TW ∧ takes ta side (named k Kl S x) = TL ∧ takes ta side (named (n - k) (fun i => Kl (k + i)) (fun i => S (k + i)) x) = TR ∧
    ((ta = true ∧ ∃ q, (side.toList == [97, 115, 115, 101, 116]) = q ∧ TW = q ∧ TL = q ∧ TR = q) ∨ (ta = false ∧ TW = (TL || TR))) := by
  refine ⟨_, _, _, rfl, rfl, rfl, ?_⟩
  cases ta
  · exact .inr ⟨rfl, named_cut n k Kl S x h⟩
  · exact .inl ⟨rfl, _, rfl, rfl, rfl, rfl⟩

theorem law_long (ta : Bool) (a : Option Addr) (n cap : Nat) (cut : Int) (s3 s4 s5 s6 : ByteArray) (w : World) (hn : n ≤ maxLen) (h : 1048576 < n) :
    Calls Try.prog 3 #[.bool ta, .slice a n cap, .int .i64 cut, .string s3, .string s4, .string s5, .string s6] w fun e w' => e = .returned (.bool true) ∧ Below w.heap.size w w' := by
  have HK : Hid (Calls Try.prog 5 #[.bool ta, .slice a n cap, .int .i64 cut, .string s3, .string s4, .string s5, .string s6] w fun e w' => e = .returned (.bool false) ∧ w = w') := bytes_long ta a n cap cut s3 s4 s5 s6 w hn h
  go_enter Try.func3, Try.ntmps3
  go_wp2_with fail
  refine Calls.mono (Hid.out HK) ?_
  rintro e w1 ⟨rfl, rfl⟩
  go_wp2_with fail
  go_ret
  exact ⟨rfl, Below.refl _ _⟩

set_option maxRecDepth 100000 in
set_option maxHeartbeats 4000000 in
theorem law_main (ta : Bool) (a : Option Addr) (n cap : Nat) (cut : Int) (s3 s4 s5 s6 : ByteArray) (Ka : Nat → Option Addr) (Kl Kc : Nat → Nat) (M : Nat → Option Addr) (S : Nat → Nat → ByteArray) (w : World) (hn : n ≤ 1048576) (ha : Hid (a = none → n = 0)) (h3 : s3.size ≤ maxLen) (h4 : s4.size ≤ maxLen) (h5 : s5.size ≤ maxLen) (h6 : s6.size ≤ maxLen) (hk : Hid (SelsAt w a n Ka Kl Kc M S)) :
    Calls Try.prog 3 #[.bool ta, .slice a n cap, .int .i64 cut, .string s3, .string s4, .string s5, .string s6] w fun e w' => e = .returned (.bool true) ∧ Below w.heap.size w w' := by
  have HK : Hid (Calls Try.prog 5 #[.bool ta, .slice a n cap, .int .i64 cut, .string s3, .string s4, .string s5, .string s6] w fun e w' => BytesEnd w e w') := bytes_any ta a n cap cut s3 s4 s5 s6 Ka Kl Kc M S w hn h3 h4 h5 h6 hk
  have hmx : n ≤ maxLen := by unfold maxLen; omega
  unfold maxLen at h3 h4 h5 h6
  go_enter Try.func3, Try.ntmps3
  go_wp2_with fail
  refine Calls.mono (Hid.out HK) ?_
  rintro e w1 ⟨b, rfl, rfl⟩
  clear HK
  cases b
  · go_wp2_with fail
    go_ret
    exact ⟨rfl, Below.refl _ _⟩
  · go_wp2_with fail
    refine (selBytes_any 0 a n cap Ka Kl Kc M S w (by omega) (by omega) hmx hk).mono ?_
    rintro e w1 ⟨r1, rfl, r10, r11, rfl⟩
    go_wp2_with fail
    refine (grow_any r1 _ _ r10 r11 (by omega)).mono ?_
    rintro e w1 ⟨r2, rfl, r20, r21, rfl⟩
    clear r10 r11
    go_wp2_with fail
    refine (grow_any r2 _ _ r20 r21 (by omega)).mono ?_
    rintro e w1 ⟨r3, rfl, r30, r31, rfl⟩
    clear r20 r21
    go_wp2_with fail
    refine (grow_any r3 _ _ r30 r31 (by omega)).mono ?_
    rintro e w1 ⟨r4, rfl, r40, r41, rfl⟩
    clear r30 r31
    go_wp2_with fail
    refine (grow_any r4 _ _ r40 r41 (by omega)).mono ?_
    rintro e w1 ⟨r5, rfl, r50, r51, rfl⟩
    clear r40 r41
    by_cases hbig : 1048576 < r5
    · go_wp2_with fail
      go_ret
      exact ⟨rfl, Below.refl _ _⟩
    · by_cases hc0 : cut < 0
      · go_wp2_with fail
        go_ret
        exact ⟨rfl, Below.refl _ _⟩
      · by_cases hc1 : (n : Int) < cut
        · go_wp2_with fail
          go_ret
          exact ⟨rfl, Below.refl _ _⟩
        · obtain ⟨k, rfl⟩ : ∃ k : Nat, cut = k := ⟨cut.toNat, by omega⟩
          have hkn : k ≤ n := by omega
          clear r50 r51
          go_wp2_with fail
          refine (copy_any a n cap Ka Kl Kc M S w hn ha.out hk).mono ?_
          rintro e w1 ⟨c, rfl, hcg, hcs, b1⟩
          have HS1 : Hid (SelsAt w1 c n Ka Kl Kc M S) := hcs
          have HB1 : Hid (Below w.heap.size w w1) := b1
          have sz1 := b1.size
          clear hcs b1
          go_wp2_with fail
          refine (balance_any s3 s4 s5 s6 w1).mono ?_
          rintro e w2 ⟨rfl, b2⟩
          have HS2 : Hid (SelsAt w2 c n Ka Kl Kc M S) := HS1.out.below b2
          have HB2 : Hid (Below w.heap.size w w2) := HB1.out.trans (b2.mono sz1)
          have sz2 := HB2.out.size
          clear b2 HS1 HB1 sz1
          unfold balA
          obtain ⟨TW, TL, TR, hW, hL, hR, hfin⟩ := three ta s5 s4 n k Kl S hkn
          have HW : Hid (takes ta s5 (named n Kl S s4) = TW) := hW
          have HL : Hid (takes ta s5 (named k Kl S s4) = TL) := hL
          have HR : Hid (takes ta s5 (named (n - k) (fun i => Kl (k + i)) (fun i => S (k + i)) s4) = TR) := hR
          clear hW hL hR
          rcases hcg with ⟨rfl, hn0⟩ | ⟨g, rfl⟩
          · obtain rfl : n = 0 := hn0
            obtain rfl : k = 0 := by omega
            have HSL : Hid (SelsAt w2 none 0 Ka Kl Kc M S) := SelsAt.none
            have HSR : Hid (SelsAt w2 none (0 - 0) (fun i => Ka (0 + i)) (fun i => Kl (0 + i)) (fun i => Kc (0 + i)) (fun i => M (0 + i)) (fun i => S (0 + i))) := SelsAt.none
            have hmk : 0 ≤ maxLen := Nat.zero_le _
            have hmr : 0 - 0 ≤ maxLen := Nat.zero_le _
            obtain ⟨W0, hW0⟩ : ∃ W0 : World, W0 = (((w2.alloc (.cells #[.string s3, .string s4, .string s5, .string s6, .pointer none, .int .i32 0] 35)).alloc (.cells #[.bool ta, .slice none 0 0] 38)).alloc (.cells #[.bool ta, .slice none 0 0] 38)).alloc (.cells #[.bool ta, .slice none 0 0] 38) := ⟨_, rfl⟩
            obtain ⟨hbx, hb0⟩ := boxes_made hW0
            have HX0 : Hid (Boxes W0 w2.heap.size ta s3 s4 s5 s6 (.slice none 0 0) (.slice none 0 0)) := hbx
            have HB0 : Hid (Below w.heap.size w W0) := HB2.out.trans (hb0.mono sz2)
            have HSW0 := HS2.out.below hb0
            have HSL0 := HSL.out.below hb0
            have HSR0 := HSR.out.below hb0
            have HSA0 := hk.out.below HB0.out
            have sz0 := HB0.out.size
            have GW : Hid (Calls Try.prog 10 #[.agg #[.bool ta, .slice none 0 0], .agg #[.string s3, .string s4, .string s5, .string s6, .pointer none, .int .i32 0]] W0 fun e w' => e = .returned (.bool TW) ∧ Below W0.heap.size W0 w') := takes_is HW.out hmx HSW0
            have GL : Hid (∀ wx, Below W0.heap.size W0 wx → Calls Try.prog 10 #[.agg #[.bool ta, .slice none 0 0], .agg #[.string s3, .string s4, .string s5, .string s6, .pointer none, .int .i32 0]] wx fun e w' => e = .returned (.bool TL) ∧ Below wx.heap.size wx w') := fun wx hb => takes_is HL.out hmk (HSL0.below hb)
            have GR : Hid (∀ wx, Below W0.heap.size W0 wx → Calls Try.prog 10 #[.agg #[.bool ta, .slice none 0 0], .agg #[.string s3, .string s4, .string s5, .string s6, .pointer none, .int .i32 0]] wx fun e w' => e = .returned (.bool TR) ∧ Below wx.heap.size wx w') := fun wx hb => takes_is HR.out hmr (HSR0.below hb)
            have GN : Hid (ta = false → ∀ wx, Below W0.heap.size W0 wx → Calls Try.prog 11 #[.slice a 0 cap, .string s4] wx fun e w' => e = .returned (.bool TW) ∧ wx = w') := fun hta wx hb => kindNamed_is (by have := HW.out; rw [hta] at this; exact this) hmx (HSA0.below hb)
            clear hbx hb0 HSW0 HSL0 HSR0 HSA0 HSL HSR HS2 HW HL HR
            go_wp2_with fail
            rw [← hW0]
            clear hW0
            refine Calls.mono (Hid.out GW) ?_
            rintro e w3 ⟨rfl, b3⟩
            obtain ⟨hx3, ⟨a0, a1, a2, a3, a4, a5⟩, ⟨c0, c1⟩, _⟩ := HX0.out.below b3
            have HB3 : Hid (Below W0.heap.size W0 w3) := b3
            have sz3 := b3.size
            clear b3 GW
            go_wp2_with fail
            refine Calls.mono (GL.out _ HB3.out) ?_
            rintro e w4 ⟨rfl, b4⟩
            clear a0 a1 a2 a3 a4 a5 c0 c1 hx3
            have HB4 : Hid (Below W0.heap.size W0 w4) := HB3.out.trans (b4.mono sz3)
            obtain ⟨hx4, ⟨a0, a1, a2, a3, a4, a5⟩, _, ⟨d0, d1⟩⟩ := HX0.out.below HB4.out
            have sz4 := HB4.out.size
            clear b4 GL HB3
            go_wp2_with fail
            refine Calls.mono (GR.out _ HB4.out) ?_
            rintro e w5 ⟨rfl, b5⟩
            clear a0 a1 a2 a3 a4 a5 d0 d1 hx4
            have HB5 : Hid (Below W0.heap.size W0 w5) := HB4.out.trans (b5.mono sz4)
            have HB6 : Hid (Below w.heap.size w w5) := HB0.out.trans (HB5.out.mono sz0)
            clear b5 GR HB4 HX0
            rcases hfin with ⟨rfl, q, hq, rfl, rfl, rfl⟩ | ⟨rfl, hTW⟩
            · cases TR
              all_goals
                go_wp2_with fail
                go_ret
                exact ⟨rfl, HB6.out⟩
            · have GN' := GN.out rfl w5 HB5.out
              have HGN : Hid (Calls Try.prog 11 #[.slice a 0 cap, .string s4] w5 fun e w' => e = .returned (.bool TW) ∧ w5 = w') := GN'
              clear GN' GN
              cases TL
              all_goals
                cases TR
                all_goals
                  subst hTW
                  go_wp2_with fail
                  refine Calls.mono (Hid.out HGN) ?_
                  rintro e w6 ⟨rfl, rfl⟩
                  go_wp2_with fail
                  go_ret
                  exact ⟨rfl, HB6.out⟩
          · by_cases hkk : k = n
            · subst hkk
              have HSL : Hid (SelsAt w2 (some ⟨g, 0, none⟩) k Ka Kl Kc M S) := HS2
              have HSR : Hid (SelsAt w2 (some ⟨g, 0, none⟩) 0 (fun i => Ka (k + i)) (fun i => Kl (k + i)) (fun i => Kc (k + i)) (fun i => M (k + i)) (fun i => S (k + i))) := SelsAt.none
              rw [Nat.sub_self] at HR
              have hmk := hmx
              have hmr : 0 ≤ maxLen := Nat.zero_le _
              obtain ⟨W0, hW0⟩ : ∃ W0 : World, W0 = (((w2.alloc (.cells #[.string s3, .string s4, .string s5, .string s6, .pointer none, .int .i32 0] 35)).alloc (.cells #[.bool ta, .slice (some ⟨g, 0, none⟩) k k] 38)).alloc (.cells #[.bool ta, .slice (some ⟨g, 0, none⟩) k k] 38)).alloc (.cells #[.bool ta, .slice (some ⟨g, 0, none⟩) 0 0] 38) := ⟨_, rfl⟩
              obtain ⟨hbx, hb0⟩ := boxes_made hW0
              have HX0 : Hid (Boxes W0 w2.heap.size ta s3 s4 s5 s6 (.slice (some ⟨g, 0, none⟩) k k) (.slice (some ⟨g, 0, none⟩) 0 0)) := hbx
              have HB0 : Hid (Below w.heap.size w W0) := HB2.out.trans (hb0.mono sz2)
              have HSW0 := HS2.out.below hb0
              have HSL0 := HSL.out.below hb0
              have HSR0 := HSR.out.below hb0
              have HSA0 := hk.out.below HB0.out
              have sz0 := HB0.out.size
              have GW : Hid (Calls Try.prog 10 #[.agg #[.bool ta, .slice (some ⟨g, 0, none⟩) k k], .agg #[.string s3, .string s4, .string s5, .string s6, .pointer none, .int .i32 0]] W0 fun e w' => e = .returned (.bool TW) ∧ Below W0.heap.size W0 w') := takes_is HW.out hmx HSW0
              have GL : Hid (∀ wx, Below W0.heap.size W0 wx → Calls Try.prog 10 #[.agg #[.bool ta, .slice (some ⟨g, 0, none⟩) k k], .agg #[.string s3, .string s4, .string s5, .string s6, .pointer none, .int .i32 0]] wx fun e w' => e = .returned (.bool TL) ∧ Below wx.heap.size wx w') := fun wx hb => takes_is HL.out hmk (HSL0.below hb)
              have GR : Hid (∀ wx, Below W0.heap.size W0 wx → Calls Try.prog 10 #[.agg #[.bool ta, .slice (some ⟨g, 0, none⟩) 0 0], .agg #[.string s3, .string s4, .string s5, .string s6, .pointer none, .int .i32 0]] wx fun e w' => e = .returned (.bool TR) ∧ Below wx.heap.size wx w') := fun wx hb => takes_is HR.out hmr (HSR0.below hb)
              have GN : Hid (ta = false → ∀ wx, Below W0.heap.size W0 wx → Calls Try.prog 11 #[.slice a k cap, .string s4] wx fun e w' => e = .returned (.bool TW) ∧ wx = w') := fun hta wx hb => kindNamed_is (by have := HW.out; rw [hta] at this; exact this) hmx (HSA0.below hb)
              clear hbx hb0 HSW0 HSL0 HSR0 HSA0 HSL HSR HS2 HW HL HR
              go_wp2_with fail
              rw [← hW0]
              clear hW0
              refine Calls.mono (Hid.out GW) ?_
              rintro e w3 ⟨rfl, b3⟩
              obtain ⟨hx3, ⟨a0, a1, a2, a3, a4, a5⟩, ⟨c0, c1⟩, _⟩ := HX0.out.below b3
              have HB3 : Hid (Below W0.heap.size W0 w3) := b3
              have sz3 := b3.size
              clear b3 GW
              go_wp2_with fail
              refine Calls.mono (GL.out _ HB3.out) ?_
              rintro e w4 ⟨rfl, b4⟩
              clear a0 a1 a2 a3 a4 a5 c0 c1 hx3
              have HB4 : Hid (Below W0.heap.size W0 w4) := HB3.out.trans (b4.mono sz3)
              obtain ⟨hx4, ⟨a0, a1, a2, a3, a4, a5⟩, _, ⟨d0, d1⟩⟩ := HX0.out.below HB4.out
              have sz4 := HB4.out.size
              clear b4 GL HB3
              go_wp2_with fail
              refine Calls.mono (GR.out _ HB4.out) ?_
              rintro e w5 ⟨rfl, b5⟩
              clear a0 a1 a2 a3 a4 a5 d0 d1 hx4
              have HB5 : Hid (Below W0.heap.size W0 w5) := HB4.out.trans (b5.mono sz4)
              have HB6 : Hid (Below w.heap.size w w5) := HB0.out.trans (HB5.out.mono sz0)
              clear b5 GR HB4 HX0
              rcases hfin with ⟨rfl, q, hq, rfl, rfl, rfl⟩ | ⟨rfl, hTW⟩
              · cases TR
                all_goals
                  go_wp2_with fail
                  go_ret
                  exact ⟨rfl, HB6.out⟩
              · have GN' := GN.out rfl w5 HB5.out
                have HGN : Hid (Calls Try.prog 11 #[.slice a k cap, .string s4] w5 fun e w' => e = .returned (.bool TW) ∧ w5 = w') := GN'
                clear GN' GN
                cases TL
                all_goals
                  cases TR
                  all_goals
                    subst hTW
                    go_wp2_with fail
                    refine Calls.mono (Hid.out HGN) ?_
                    rintro e w6 ⟨rfl, rfl⟩
                    go_wp2_with fail
                    go_ret
                    exact ⟨rfl, HB6.out⟩
            · have hkl : k < n := by omega
              have hkk' : ¬ n = k := by omega
              have HSL : Hid (SelsAt w2 (some ⟨g, 0, none⟩) k Ka Kl Kc M S) := HS2.out.first hkn
              have HSR : Hid (SelsAt w2 (some ⟨g, k * 2, none⟩) (n - k) (fun i => Ka (k + i)) (fun i => Kl (k + i)) (fun i => Kc (k + i)) (fun i => M (k + i)) (fun i => S (k + i))) := HS2.out.rest
              have hmk : k ≤ maxLen := by omega
              have hmr : n - k ≤ maxLen := by omega
              obtain ⟨W0, hW0⟩ : ∃ W0 : World, W0 = (((w2.alloc (.cells #[.string s3, .string s4, .string s5, .string s6, .pointer none, .int .i32 0] 35)).alloc (.cells #[.bool ta, .slice (some ⟨g, 0, none⟩) n n] 38)).alloc (.cells #[.bool ta, .slice (some ⟨g, 0, none⟩) k n] 38)).alloc (.cells #[.bool ta, .slice (some ⟨g, k * 2, none⟩) (n - k) (n - k)] 38) := ⟨_, rfl⟩
              obtain ⟨hbx, hb0⟩ := boxes_made hW0
              have HX0 : Hid (Boxes W0 w2.heap.size ta s3 s4 s5 s6 (.slice (some ⟨g, 0, none⟩) k n) (.slice (some ⟨g, k * 2, none⟩) (n - k) (n - k))) := hbx
              have HB0 : Hid (Below w.heap.size w W0) := HB2.out.trans (hb0.mono sz2)
              have HSW0 := HS2.out.below hb0
              have HSL0 := HSL.out.below hb0
              have HSR0 := HSR.out.below hb0
              have HSA0 := hk.out.below HB0.out
              have sz0 := HB0.out.size
              have GW : Hid (Calls Try.prog 10 #[.agg #[.bool ta, .slice (some ⟨g, 0, none⟩) n n], .agg #[.string s3, .string s4, .string s5, .string s6, .pointer none, .int .i32 0]] W0 fun e w' => e = .returned (.bool TW) ∧ Below W0.heap.size W0 w') := takes_is HW.out hmx HSW0
              have GL : Hid (∀ wx, Below W0.heap.size W0 wx → Calls Try.prog 10 #[.agg #[.bool ta, .slice (some ⟨g, 0, none⟩) k n], .agg #[.string s3, .string s4, .string s5, .string s6, .pointer none, .int .i32 0]] wx fun e w' => e = .returned (.bool TL) ∧ Below wx.heap.size wx w') := fun wx hb => takes_is HL.out hmk (HSL0.below hb)
              have GR : Hid (∀ wx, Below W0.heap.size W0 wx → Calls Try.prog 10 #[.agg #[.bool ta, .slice (some ⟨g, k * 2, none⟩) (n - k) (n - k)], .agg #[.string s3, .string s4, .string s5, .string s6, .pointer none, .int .i32 0]] wx fun e w' => e = .returned (.bool TR) ∧ Below wx.heap.size wx w') := fun wx hb => takes_is HR.out hmr (HSR0.below hb)
              have GN : Hid (ta = false → ∀ wx, Below W0.heap.size W0 wx → Calls Try.prog 11 #[.slice a n cap, .string s4] wx fun e w' => e = .returned (.bool TW) ∧ wx = w') := fun hta wx hb => kindNamed_is (by have := HW.out; rw [hta] at this; exact this) hmx (HSA0.below hb)
              clear hbx hb0 HSW0 HSL0 HSR0 HSA0 HSL HSR HS2 HW HL HR
              go_wp2_with fail
              rw [← hW0]
              clear hW0
              refine Calls.mono (Hid.out GW) ?_
              rintro e w3 ⟨rfl, b3⟩
              obtain ⟨hx3, ⟨a0, a1, a2, a3, a4, a5⟩, ⟨c0, c1⟩, _⟩ := HX0.out.below b3
              have HB3 : Hid (Below W0.heap.size W0 w3) := b3
              have sz3 := b3.size
              clear b3 GW
              go_wp2_with fail
              refine Calls.mono (GL.out _ HB3.out) ?_
              rintro e w4 ⟨rfl, b4⟩
              clear a0 a1 a2 a3 a4 a5 c0 c1 hx3
              have HB4 : Hid (Below W0.heap.size W0 w4) := HB3.out.trans (b4.mono sz3)
              obtain ⟨hx4, ⟨a0, a1, a2, a3, a4, a5⟩, _, ⟨d0, d1⟩⟩ := HX0.out.below HB4.out
              have sz4 := HB4.out.size
              clear b4 GL HB3
              go_wp2_with fail
              refine Calls.mono (GR.out _ HB4.out) ?_
              rintro e w5 ⟨rfl, b5⟩
              clear a0 a1 a2 a3 a4 a5 d0 d1 hx4
              have HB5 : Hid (Below W0.heap.size W0 w5) := HB4.out.trans (b5.mono sz4)
              have HB6 : Hid (Below w.heap.size w w5) := HB0.out.trans (HB5.out.mono sz0)
              clear b5 GR HB4 HX0
              rcases hfin with ⟨rfl, q, hq, rfl, rfl, rfl⟩ | ⟨rfl, hTW⟩
              · cases TR
                all_goals
                  go_wp2_with fail
                  go_ret
                  exact ⟨rfl, HB6.out⟩
              · have GN' := GN.out rfl w5 HB5.out
                have HGN : Hid (Calls Try.prog 11 #[.slice a n cap, .string s4] w5 fun e w' => e = .returned (.bool TW) ∧ w5 = w') := GN'
                clear GN' GN
                cases TL
                all_goals
                  cases TR
                  all_goals
                    subst hTW
                    go_wp2_with fail
                    refine Calls.mono (Hid.out HGN) ?_
                    rintro e w6 ⟨rfl, rfl⟩
                    go_wp2_with fail
                    go_ret
                    exact ⟨rfl, HB6.out⟩

end Go.Proofs.Qxb6618693a
