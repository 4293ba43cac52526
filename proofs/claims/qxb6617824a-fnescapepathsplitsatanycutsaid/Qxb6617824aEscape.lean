/-
  THE WALK OF sigv4.escapePath. By an AI agent.
-/
import Derived.Test.Qxb6617824aBuilder
import Derived.Test.Qxb6617824aPlain
import Derived.Deep.DeepCutAuto
import Derived.Deep.Cut
import Derived.Deep.CutRange
namespace Go.Proofs.Qxb6617824a
open Go.RowKit

theorem cells_ofN {X : List Int} (h : Bytes X) : Lib.byteCells (ofN X) = X.map (Value.int .u8) := by
  have : Lib.byteCells (ofN X) = (toN (ofN X)).map (Value.int .u8) := by simp [Lib.byteCells, toN]
  rw [this, toN_ofN h]

theorem take_snocN (s : ByteArray) (k : Nat) (h : k < s.size) : (toN s.data.toList).take (k + 1) = (toN s.data.toList).take k ++ [(s[k].toNat : Int)] := by
  have h' : k < (toN s.data.toList).length := by rw [toN_length]; simpa using h
  rw [List.take_succ_eq_append_getElem h']
  simp [toN]
  rfl

theorem ret_str {X Y : List Int} (h : X = Y) : Ending.returned (.string ⟨(ofN X).toArray⟩) = .returned (.string ⟨(ofN Y).toArray⟩) := by rw [h]
theorem hex_lt (n : Int) (h1 : n ≤ 15) : n.toNat < (⟨#[48, 49, 50, 51, 52, 53, 54, 55, 56, 57, 65, 66, 67, 68, 69, 70]⟩ : ByteArray).size := by
  show n.toNat < 16
  omega
theorem hex_at (n : Int) (h0 : 0 ≤ n) (h1 : n ≤ 15) (h : n.toNat < (⟨#[48, 49, 50, 51, 52, 53, 54, 55, 56, 57, 65, 66, 67, 68, 69, 70]⟩ : ByteArray).size) :
    (((⟨#[48, 49, 50, 51, 52, 53, 54, 55, 56, 57, 65, 66, 67, 68, 69, 70]⟩ : ByteArray)[n.toNat]'h).toNat : Int) = hexN n := by
  obtain ⟨m, rfl⟩ : ∃ m : Nat, n = m := ⟨n.toNat, by omega⟩
  have hm : m ≤ 15 := by omega
  revert h
  rw [Int.toNat_natCast]
  intro h
  have : m = 0 ∨ m = 1 ∨ m = 2 ∨ m = 3 ∨ m = 4 ∨ m = 5 ∨ m = 6 ∨ m = 7 ∨ m = 8 ∨ m = 9 ∨ m = 10 ∨ m = 11 ∨ m = 12 ∨ m = 13 ∨ m = 14 ∨ m = 15 := by omega
  rcases this with rfl | rfl | rfl | rfl | rfl | rfl | rfl | rfl | rfl | rfl | rfl | rfl | rfl | rfl | rfl | rfl <;> rfl

theorem lit_cases (x : Int) : (litN x = true ∧ ((65 ≤ x ∧ x ≤ 90) ∨ (97 ≤ x ∧ x ≤ 122) ∨ (48 ≤ x ∧ x ≤ 57) ∨ (45 ≤ x ∧ x ≤ 45) ∨ (46 ≤ x ∧ x ≤ 46) ∨ (95 ≤ x ∧ x ≤ 95) ∨ (126 ≤ x ∧ x ≤ 126) ∨ (47 ≤ x ∧ x ≤ 47))) ∨
    (litN x = false ∧ ((x ≤ 44 ∧ x < 45) ∨ (58 ≤ x ∧ x ≤ 64) ∨ (91 ≤ x ∧ x ≤ 94) ∨ (96 ≤ x ∧ x ≤ 96) ∨ (123 ≤ x ∧ x ≤ 125) ∨ (127 ≤ x ∧ 126 < x))) := by
  have key : litN x = true ↔ ((65 ≤ x ∧ x ≤ 90) ∨ (97 ≤ x ∧ x ≤ 122) ∨ (48 ≤ x ∧ x ≤ 57) ∨ x = 45 ∨ x = 46 ∨ x = 95 ∨ x = 126 ∨ x = 47) := by
    simp only [litN, Bool.or_eq_true, Bool.and_eq_true, decide_eq_true_eq, beq_iff_eq]
    omega
  by_cases h : litN x = true
  · exact .inl ⟨h, by have := key.1 h; omega⟩
  · refine .inr ⟨by simpa using h, ?_⟩
    have : ¬ ((65 ≤ x ∧ x ≤ 90) ∨ (97 ≤ x ∧ x ≤ 122) ∨ (48 ≤ x ∧ x ≤ 57) ∨ x = 45 ∨ x = 46 ∨ x = 95 ∨ x = 126 ∨ x = 47) := fun g => h (key.2 g)
    omega

set_option maxRecDepth 100000 in
set_option maxHeartbeats 2000000 in
theorem escapePath_any (s : ByteArray) (w : World) (hs : s.size ≤ 1048576) :
    Calls Try.prog 11 #[.string s] w fun e w' => e = .returned (.string ⟨(ofN (escL (toN s.data.toList))).toArray⟩) ∧ Below w.heap.size w w' := by
  go_enter Try.func11, Try.ntmps11
  go_wp2_with fail
  go_loopw [8] (fun s8 wr => ∃ (k : Nat) (X : List Int), k ≤ s.size ∧ s8 = .int .i64 k ∧ Hid (X = escL ((toN s.data.toList).take k)) ∧ X.length ≤ 3 * k ∧ Lib.IsBuilder 31 5 w.heap.size w.heap.size (X.map (Value.int .u8)) wr ∧ Below w.heap.size w wr) (fun s8 _ => s.size - (intOf s8).toNat)
  case atStart => exact ⟨0, [], by omega, rfl, rfl, by simp, Lib.fresh_isBuilder 31 5 w, (Below.refl _ _).alloc (Nat.le_refl _) _⟩
  case round =>
    obtain ⟨k, X, hk, rfl, HX, hXl, hI, bl⟩ := hrel
    have szr := bl.size
    by_cases hlt : k < s.size
    · have i1 : (k : Int) < (s.size : Int) := by omega
      obtain ⟨x, hx⟩ : ∃ x : Int, (s[k].toNat : Int) = x := ⟨_, rfl⟩
      have hxb : 0 ≤ x ∧ x ≤ 255 := by have := s[k].toNat_lt; omega
      have HN : Hid (escL ((toN s.data.toList).take (k + 1)) = X ++ escN x) := by rw [take_snocN s k hlt, escL_snoc, HX.out, hx]; exact rfl
      have Hx : Hid (0 ≤ x ∧ x ≤ 255) := hxb
      go_upto_region 6 with fail
      go_cut [5, 55] (fun c v wx => c = .int .u8 x ∧ v = .bool (litN x) ∧ wx = wr)
      case first =>
        rcases lit_cases x with ⟨hl, hc⟩ | ⟨hl, hc⟩
        · have HL : Hid (litN x = true) := hl
          clear hl
          rcases hc with hc | hc | hc | hc | hc | hc | hc | hc
          all_goals
            obtain ⟨hc1, hc2⟩ := hc
            go_wp2_with fail
            go_meet
            case rel => exact ⟨by go_num, by first | (rw [HL.out]; done) | (rw [HL.out]; congr 1; simp; omega), rfl⟩
        · have HL : Hid (litN x = false) := hl
          clear hl
          rcases hc with hc | hc | hc | hc | hc | hc
          all_goals
            obtain ⟨hc1, hc2⟩ := hc
            go_wp2_with fail
            go_meet
            case rel => exact ⟨by go_num, by first | (rw [HL.out]; done) | (rw [HL.out]; congr 1; simp; omega), rfl⟩
      case rest =>
        obtain ⟨rfl, rfl, rfl⟩ := hcut
        cases hl : litN x
        · have HE : Hid (escN x = [37, hexN (x / 16), hexN (x % 16)]) := by simp [Hid, escN, hl]
          clear hl
          go_wp2_with fail
          refine (writeByte_any w.heap.size w.heap.size _ 37 _ hI (by simp; omega) szr).mono ?_
          rintro e w1 ⟨rfl, hI1, bl1⟩
          have hJ1 : Lib.IsBuilder 31 5 w.heap.size w.heap.size ((X ++ [37]).map (Value.int .u8)) w1 := .inr (by rw [List.map_append]; exact hI1)
          have bm1 : Below w.heap.size w w1 := bl.trans bl1
          have sz1 := bm1.size
          clear hI1 bl1 hI bl
          generalize hY : X ++ [37] = Y at hJ1
          have hYl : Y.length ≤ 3 * k + 1 := by rw [← hY]; simp; omega
          have HY : Hid (X ++ [37] = Y) := hY
          clear hY
          go_wp2_with fail
          refine (writeByte_any w.heap.size w.heap.size _ _ _ hJ1 (by simp; omega) sz1).mono ?_
          rintro e w2 ⟨rfl, hI2, bl2⟩
          have hJ2 : Lib.IsBuilder 31 5 w.heap.size w.heap.size ((Y ++ [hexN (x / 16)]).map (Value.int .u8)) w2 := .inr (by rw [List.map_append, ← hex_at (x / 16) (by omega) (by omega) (hex_lt _ (by omega))]; exact hI2)
          have bm2 : Below w.heap.size w w2 := bm1.trans bl2
          have sz2 := bm2.size
          clear hI2 bl2 hJ1 bm1
          generalize hZ : Y ++ [hexN (x / 16)] = Z at hJ2
          have hZl : Z.length ≤ 3 * k + 2 := by rw [← hZ]; simp; omega
          have HZ : Hid (Y ++ [hexN (x / 16)] = Z) := hZ
          clear hZ
          go_wp2_with fail
          refine (writeByte_any w.heap.size w.heap.size _ _ _ hJ2 (by simp; omega) sz2).mono ?_
          rintro e w3 ⟨rfl, hI3, bl3⟩
          have HJ3 : Hid (Lib.IsBuilder 31 5 w.heap.size w.heap.size ((Z ++ [hexN (x % 16)]).map (Value.int .u8)) w3) := .inr (by rw [List.map_append, ← hex_at (x % 16) (by omega) (by omega) (hex_lt _ (by omega))]; exact hI3)
          have HB3 : Hid (Below w.heap.size w w3) := bm2.trans bl3
          have HX3 : Hid (Z ++ [hexN (x % 16)] = escL ((toN s.data.toList).take (k + 1))) := by rw [HN.out, HE.out, ← HZ.out, ← HY.out]; simp [Hid]
          clear hI3 bl3 hJ2 bm2
          go_wp2_with fail
          go_roundw
          case rel => exact ⟨k + 1, Z ++ [hexN (x % 16)], by omega, by go_num, HX3, by simp; omega, HJ3.out, HB3.out⟩
          case measure => simp [intOf]; omega
        · have HE : Hid (escN x = [x]) := by simp [Hid, escN, hl]
          clear hl
          go_wp2_with fail
          refine (writeByte_any w.heap.size w.heap.size _ x _ hI (by simp; omega) szr).mono ?_
          rintro e w1 ⟨rfl, hI1, bl1⟩
          have HB1 : Hid (Lib.BuilderAt 31 5 w.heap.size w.heap.size (.pointer (some ⟨w.heap.size, 0, none⟩)) ((X ++ [x]).map (Value.int .u8)) w1) := by rw [List.map_append]; exact hI1
          have HBl : Hid (Below w.heap.size w w1) := bl.trans bl1
          have HX1 : Hid (X ++ [x] = escL ((toN s.data.toList).take (k + 1))) := by rw [HN.out, HE.out]; exact rfl
          clear hI1 bl1 hI bl
          go_wp2_with fail
          go_roundw
          case rel => exact ⟨k + 1, X ++ [x], by omega, by go_num, HX1, by simp; omega, .inr HB1.out, HBl.out⟩
          case measure => simp [intOf]; omega
    · have i1 : ¬ (k : Int) < (s.size : Int) := by omega
      have hXe : X = escL (toN s.data.toList) := by rw [HX.out, List.take_of_length_le (by rw [toN_length]; simp; omega)]
      have hXb : Bytes X := by rw [hXe]; exact (toN_bytes _).escL
      have hI' : Lib.IsBuilder 31 5 w.heap.size w.heap.size (Lib.byteCells (ofN X)) wr := by rw [cells_ofN hXb]; exact hI
      have HXe : Hid (X = escL (toN s.data.toList)) := hXe
      have HI : Hid (Lib.IsBuilder 31 5 w.heap.size w.heap.size (Lib.byteCells (ofN X)) wr) := hI'
      have HB : Hid (Below w.heap.size w wr) := bl
      clear hI hI' bl hXe hXb HX
      go_wp2_with fail
      refine (Try.Builder_String_any w.heap.size w.heap.size (ofN X) _ HI.out szr).mono ?_
      rintro e w1 ⟨rfl, bl1⟩
      have HB1 : Hid (Below w.heap.size w w1) := HB.out.trans bl1
      clear bl1
      go_wp2_with fail
      go_ret
      exact ⟨ret_str HXe.out, HB1.out⟩

end Go.Proofs.Qxb6617824a
