/-
  THE WALK OF zzGlob. By an AI agent.
-/
import Derived.Test.Qxb6617818aTokWalk
import Derived.Test.Qxb6617818aDp
import Derived.BigRegion
import Derived.RegionTactic
namespace Go.Proofs.Qxb6617818a
open Go.RowKit

/-! ### a row of bools in memory -/
def rowA (c : List Bool) : Array Value := (c.map Value.bool).toArray
def RowAt (w : World) (g : Nat) (c : List Bool) : Prop := w.heap[g]? = some (.cells (rowA c) 4 (0, 0))
theorem RowAt.cell {w : World} {g : Nat} {c : List Bool} (h : RowAt w g c) {k : Nat} (hk : k < c.length) : w.cell? ⟨g, k, none⟩ = some (.bool (c.getD k false)) := by
  rw [cell_of_row w g k _ 4 _ h]
  simp [rowA, List.getD, hk]
theorem RowAt.free {w : World} {g : Nat} {c : List Bool} (h : RowAt w g c) (k : Nat) : w.frozen? ⟨g, k, none⟩ = false := frozen_of_row w g k _ 4 h
theorem RowAt.put {w : World} {g : Nat} {c : List Bool} (h : RowAt w g c) (k : Nat) (b : Bool) : RowAt (w.setCell ⟨g, k, none⟩ (.bool b)) g (c.set k b) := by
  unfold RowAt
  rw [heap_setCell_same w g k _ 4 _ h]
  simp [rowA]
theorem RowAt.other {w : World} {g : Nat} {c : List Bool} (h : RowAt w g c) {a : Addr} (v : Value) (hne : g ≠ a.block) : RowAt (w.setCell a v) g c := by
  unfold RowAt
  rw [heap_setCell_other w a g v hne]; exact h
theorem RowAt.lt {w : World} {g : Nat} {c : List Bool} (h : RowAt w g c) : g < w.heap.size := (Array.getElem?_eq_some_iff.1 h).1
theorem RowAt.kept {w w' : World} {g : Nat} {c : List Bool} {row : Option Nat} (h : RowAt w g c) (hg : w.grownBy w' row) (hne : some g ≠ row) : RowAt w' g c := (hg.block g h.lt hne).trans h
theorem info4 : (Try.prog.info? 4).map (fun i => (i.zero, i.size, i.bytes)) = some (some (.bool false), 1, 1) := by kernel_rfl
theorem row_made {w : World} {base g m : Nat} (h : w.ownsRow base 4 1 (.slice (some ⟨g, 0, none⟩) m m) m (madeCells #[Value.bool false] m).toList) : RowAt w g (List.replicate m false) := by
  rcases h.2 with ⟨h', _⟩ | ⟨g', cap', cur, h', hb, hg, hnc, hcm, hcs, htake⟩
  · simp at h'
  · simp only [Value.slice.injEq, Option.some.injEq, Addr.mk.injEq, and_true, true_and] at h'
    obtain ⟨rfl, rfl⟩ := h'
    unfold RowAt
    rw [hg]
    have e : cur = rowA (List.replicate m false) := by
      apply Array.toList_inj.1
      rw [List.take_of_length_le (by simp [hcs])] at htake
      rw [htake, toList_madeCells_one]
      simp [rowA]
    rw [e]

/-- the tokens, where they lie -/
def ToksAt (w : World) (g : Nat) (ts : List (Bool × (Nat → Bool))) : Prop := ∃ cur : Array Value, w.heap[g]? = some (.cells cur 44 (0, 0)) ∧ cur.toList.take (ts.length * 257) = tokCells ts
theorem flat_at (ts : List (Bool × (Nat → Bool))) : ∀ (t : Nat) (st : Bool) (f : Nat → Bool), ts[t]? = some (st, f) → ∀ j, j < 257 → (tokCells ts)[t * 257 + j]? = (tokL st f)[j]? := by
  induction ts with
  | nil => intro t st f h; simp at h
  | cons a ts ih =>
    intro t st f h j hj
    have e : tokCells (a :: ts) = tokL a.1 a.2 ++ tokCells ts := by simp [tokCells]
    rw [e]
    cases t with
    | zero =>
      simp only [List.getElem?_cons_zero, Option.some.injEq] at h
      subst h
      rw [List.getElem?_append_left (by rw [tokL_length]; omega)]; simp
    | succ t =>
      rw [List.getElem?_append_right (by rw [tokL_length]; omega), tokL_length, show (t + 1) * 257 + j - 257 = t * 257 + j from by omega]
      exact ih t st f (by simpa using h) j hj
theorem tokCells_length (ts : List (Bool × (Nat → Bool))) : (tokCells ts).length = ts.length * 257 := by
  induction ts with
  | nil => rfl
  | cons a ts ih =>
    have e : tokCells (a :: ts) = tokL a.1 a.2 ++ tokCells ts := by simp [tokCells]
    rw [e, List.length_append, ih, tokL_length, List.length_cons]; omega
theorem ToksAt.at {w : World} {g : Nat} {ts : List (Bool × (Nat → Bool))} (h : ToksAt w g ts) {t : Nat} {st : Bool} {f : Nat → Bool} (ht : ts[t]? = some (st, f)) {j : Nat} (hj : j < 257) : w.cell? ⟨g, t * 257 + j, none⟩ = (tokL st f)[j]? := by
  obtain ⟨cur, hg, ht2⟩ := h
  have htl : t < ts.length := (List.getElem?_eq_some_iff.1 ht).1
  rw [cell_of_row w g _ _ 44 _ hg, ← flat_at ts t st f ht j hj, ← ht2, List.getElem?_take]
  rw [if_pos (by have : t * 257 + 257 ≤ ts.length * 257 := by rw [← Nat.succ_mul]; exact Nat.mul_le_mul_right _ htl
                 omega)]
  simp
theorem ToksAt.star {w : World} {g : Nat} {ts : List (Bool × (Nat → Bool))} (h : ToksAt w g ts) {t : Nat} {st : Bool} {f : Nat → Bool} (ht : ts[t]? = some (st, f)) : w.cell? ⟨g, t * 257, none⟩ = some (.bool st) := by
  have := h.at ht (j := 0) (by omega)
  simpa [tokL] using this
theorem ToksAt.set {w : World} {g : Nat} {ts : List (Bool × (Nat → Bool))} (h : ToksAt w g ts) {t : Nat} {st : Bool} {f : Nat → Bool} (ht : ts[t]? = some (st, f)) {x : Nat} (hx : x < 256) : w.cell? ⟨g, t * 257 + 1 + x, none⟩ = some (.bool (f x)) := by
  have := h.at ht (j := x + 1) (by omega)
  rw [show t * 257 + 1 + x = t * 257 + (x + 1) from by omega, this]
  simp [tokL, setL, hx]
theorem ToksAt.lt {w : World} {g : Nat} {ts : List (Bool × (Nat → Bool))} (h : ToksAt w g ts) : g < w.heap.size := by
  obtain ⟨cur, hg, _⟩ := h
  exact (Array.getElem?_eq_some_iff.1 hg).1
theorem ToksAt.other {w : World} {g : Nat} {ts : List (Bool × (Nat → Bool))} (h : ToksAt w g ts) {a : Addr} (v : Value) (hne : g ≠ a.block) : ToksAt (w.setCell a v) g ts := by
  obtain ⟨cur, hg, ht⟩ := h
  exact ⟨cur, by rw [heap_setCell_other w a g v hne]; exact hg, ht⟩
theorem ToksAt.kept {w w' : World} {g : Nat} {ts : List (Bool × (Nat → Bool))} {row : Option Nat} (h : ToksAt w g ts) (hg : w.grownBy w' row) (hne : some g ≠ row) : ToksAt w' g ts := by
  have hl := h.lt
  obtain ⟨cur, hh, ht⟩ := h
  exact ⟨cur, (hg.block g hl hne).trans hh, ht⟩
theorem toks_shape {w : World} {base n : Nat} {v : Value} {ts : List (Bool × (Nat → Bool))} (h : w.ownsRow base 44 257 v n (tokCells ts)) (hn : ts.length = n) : (v = .slice none 0 0 ∧ n = 0) ∨ ∃ g cap, v = .slice (some ⟨g, 0, none⟩) n cap ∧ base ≤ g ∧ ToksAt w g ts := by
  rcases h.2 with h' | ⟨g, cap, cur, hv, hb, hg, hnc, hcm, hcs, htake⟩
  · exact .inl h'
  · exact .inr ⟨g, cap, hv, hb, cur, hg, by rw [hn]; exact htake⟩

/-! ### the two rows and the tokens, together -/
structure Two (w wr : World) (ga : Option Addr) (ts : List (Bool × (Nat → Bool))) (m g1 g2 : Nat) (c1 c2 : List Bool) : Prop where
  r1 : RowAt wr g1 c1
  r2 : RowAt wr g2 c2
  ne : g1 ≠ g2
  l1 : c1.length = m
  l2 : c2.length = m
  b1 : w.heap.size ≤ g1
  b2 : w.heap.size ≤ g2
  tv : 0 < ts.length → ∃ g, ga = some ⟨g, 0, none⟩ ∧ ToksAt wr g ts ∧ g ≠ g1 ∧ g ≠ g2
  bl : Below w.heap.size w wr

theorem Two.put2 {w wr : World} {ga : Option Addr} {ts : List (Bool × (Nat → Bool))} {m g1 g2 : Nat} {c1 c2 : List Bool} (h : Two w wr ga ts m g1 g2 c1 c2) (k : Nat) (b : Bool) : Two w (wr.setCell ⟨g2, k, none⟩ (.bool b)) ga ts m g1 g2 c1 (c2.set k b) where
  r1 := h.r1.other _ h.ne
  r2 := h.r2.put k b
  ne := h.ne
  l1 := h.l1
  l2 := by rw [List.length_set]; exact h.l2
  b1 := h.b1
  b2 := h.b2
  tv := fun ht => by
    obtain ⟨g, hg, hT, n1, n2⟩ := h.tv ht
    exact ⟨g, hg, hT.other _ n2, n1, n2⟩
  bl := h.bl.setCell h.b2 _
theorem Two.put1 {w wr : World} {ga : Option Addr} {ts : List (Bool × (Nat → Bool))} {m g1 g2 : Nat} {c1 c2 : List Bool} (h : Two w wr ga ts m g1 g2 c1 c2) (k : Nat) (b : Bool) : Two w (wr.setCell ⟨g1, k, none⟩ (.bool b)) ga ts m g1 g2 (c1.set k b) c2 where
  r1 := h.r1.put k b
  r2 := h.r2.other _ (Ne.symm h.ne)
  ne := h.ne
  l1 := by rw [List.length_set]; exact h.l1
  l2 := h.l2
  b1 := h.b1
  b2 := h.b2
  tv := fun ht => by
    obtain ⟨g, hg, hT, n1, n2⟩ := h.tv ht
    exact ⟨g, hg, hT.other _ n1, n1, n2⟩
  bl := h.bl.setCell h.b1 _
theorem Two.swap {w wr : World} {ga : Option Addr} {ts : List (Bool × (Nat → Bool))} {m g1 g2 : Nat} {c1 c2 : List Bool} (h : Two w wr ga ts m g1 g2 c1 c2) : Two w wr ga ts m g2 g1 c2 c1 where
  r1 := h.r2
  r2 := h.r1
  ne := Ne.symm h.ne
  l1 := h.l2
  l2 := h.l1
  b1 := h.b2
  b2 := h.b1
  tv := fun ht => by
    obtain ⟨g, hg, hT, n1, n2⟩ := h.tv ht
    exact ⟨g, hg, hT, n2, n1⟩
  bl := h.bl
theorem Two.drew {w wr : World} {ga : Option Addr} {ts : List (Bool × (Nat → Bool))} {m g1 g2 : Nat} {c1 c2 : List Bool} (h : Two w wr ga ts m g1 g2 c1 c2) (n : Nat) : Two w (wr.drewN n) ga ts m g1 g2 c1 c2 where
  r1 := h.r1
  r2 := h.r2
  ne := h.ne
  l1 := h.l1
  l2 := h.l2
  b1 := h.b1
  b2 := h.b2
  tv := h.tv
  bl := below_drewN h.bl n

theorem getD_set_self (c : List Bool) (k : Nat) (b : Bool) (h : k < c.length) : (c.set k b).getD k false = b := by simp [List.getD, h]
theorem getD_set_other (c : List Bool) (k j : Nat) (b : Bool) (h : j ≠ k) : (c.set k b).getD j false = c.getD j false := by simp [List.getD, Ne.symm h]

theorem corr_length : ∀ (ts : List (Bool × (Nat → Bool))) (us : List (Option (Int → Bool))), Corr ts us → ts.length = us.length
  | [], [], _ => rfl
  | _ :: ts, _ :: us, h => by simp [corr_length ts us h.2]
  | [], _ :: _, h => h.elim
  | _ :: _, [], h => h.elim
theorem corr_at : ∀ (ts : List (Bool × (Nat → Bool))) (us : List (Option (Int → Bool))), Corr ts us → ∀ t, t < ts.length → ∃ st f u, ts[t]? = some (st, f) ∧ us.take (t + 1) = us.take t ++ [u] ∧ CorrT st f u
  | (st, f) :: ts, u :: us, h, 0, _ => ⟨st, f, u, rfl, rfl, h.1⟩
  | _ :: ts, u0 :: us, h, t + 1, ht => by
    obtain ⟨st, f, u, e1, e2, e3⟩ := corr_at ts us h.2 t (by simp at ht; omega)
    exact ⟨st, f, u, by simpa using e1, by rw [List.take_succ_cons, e2, List.take_succ_cons]; rfl, e3⟩
  | [], _, _, t, ht => by simp at ht
  | _ :: _, [], h, _, _ => h.elim

/-- how zzGlob ends -/
def GlobEnd (p : List Int) (s : ByteArray) (w : World) (e : Ending) (w' : World) : Prop := ∃ B : Bool, e = .returned (.bool B) ∧ (B = true ↔ Lang (toks p) (nums s)) ∧ Below w.heap.size w w'

theorem star_step {c1 c2 : List Bool} {k : Nat} {r x : Bool} (h1 : k < c1.length) (h2 : k < c2.length) (hr : anyTo c1 k = r) (hx : c1.getD k false = x) (h : ∀ j, j < k → c2.getD j false = anyTo c1 (j + 1)) :
    anyTo c1 (k + 1) = (r || x) ∧ ∀ j, j < k + 1 → (c2.set k (r || x)).getD j false = anyTo c1 (j + 1) := by
  have e : anyTo c1 (k + 1) = (r || x) := by rw [anyTo_succ c1 k h1, hr, hx]
  refine ⟨e, fun j hj => ?_⟩
  by_cases hjk : j = k
  · subst hjk; rw [getD_set_self _ _ _ h2, e]
  · rw [getD_set_other _ _ _ _ hjk]; exact h j (by omega)
theorem one_step {c1 c2 : List Bool} {N : List Int} {F : Int → Bool} {j : Nat} {y : Bool} (h2 : j + 1 < c2.length) (hy : (c1.getD j false && F (N.getD j 0)) = y) (h : c2.getD 0 false = false ∧ ∀ i, i < j → c2.getD (i + 1) false = (c1.getD i false && F (N.getD i 0))) :
    (c2.set (j + 1) y).getD 0 false = false ∧ ∀ i, i < j + 1 → (c2.set (j + 1) y).getD (i + 1) false = (c1.getD i false && F (N.getD i 0)) := by
  refine ⟨by rw [getD_set_other _ _ _ _ (by omega)]; exact h.1, fun i hi => ?_⟩
  by_cases hij : i = j
  · subst hij; rw [getD_set_self _ _ _ h2, hy]
  · rw [getD_set_other _ _ _ _ (by omega)]; exact h.2 i (by omega)

set_option maxRecDepth 100000 in
set_option maxHeartbeats 2000000 in
theorem glob_walk (v : Value) (len : Nat) (p : List Int) (s : ByteArray) (w : World) (hs : s.size ≤ 10000) (hl : len ≤ 10000) (HK : Hid (Calls Try.prog 25 #[v] w fun e w' => TokEnd p len w e w')) :
    Calls Try.prog 10 #[v, .string s] w fun e w' => GlobEnd p s w e w' := by
  obtain ⟨ib, hib, hb0, hb1, hb2⟩ := info_parts info4
  go_enter Try.func10, Try.ntmps10
  go_wp2_with fail
  refine Calls.mono (Hid.out HK) ?_
  rintro e w1 ⟨v1, ts, rfl, hts, own, hco, b1⟩
  clear HK
  obtain ⟨m, hm, hmA, hmB⟩ : ∃ m : Nat, Hid (m = s.size + 1) ∧ s.size < m ∧ m ≤ s.size + 1 := ⟨_, rfl, by omega, by omega⟩
  obtain ⟨ga, cap, rfl, hga⟩ : ∃ ga cap, v1 = .slice ga ts.length cap ∧ Hid (0 < ts.length → ∃ g, ga = some ⟨g, 0, none⟩ ∧ ToksAt w1 g ts) := by
    rcases toks_shape own rfl with ⟨rfl, h0⟩ | ⟨g, cap, rfl, hb, hT⟩
    · exact ⟨none, 0, by rw [h0], fun h => by omega⟩
    · exact ⟨_, cap, rfl, fun _ => ⟨g, rfl, hT⟩⟩
  have HC : Hid (Corr ts (toks p)) := hco
  have HB1 : Hid (Below w.heap.size w w1) := b1
  clear hco b1 own
  have sz1 := HB1.out.size
  have em : Hid ((s.size : Int) + 1 = (m : Int)) := by show (s.size : Int) + 1 = (m : Int); omega
  go_wp2_with (at_make; go_must (refine wpList_make_full _ rfl (.tmp 18) (.tmp 18) 41 rfl w1.heap.size 4 ib (.bool false) 1 Try.underlying41 hib hb0 hb1 _ _ _ _ m rfl rfl em.out em.out (by rw [hb2]; omega) (by unfold maxLen; omega) (Nat.le_refl _) ?_))
  intro w2 own2 gr2
  have HR1 := row_made own2
  obtain ⟨g1, hg1⟩ : ∃ g1, w1.heap.size = g1 := ⟨_, rfl⟩
  have sz2 : g1 < w2.heap.size := by rw [← hg1]; exact HR1.lt
  have HRa : Hid (RowAt w2 g1 (List.replicate m false)) := by rw [← hg1]; exact HR1
  have HTa : Hid (0 < ts.length → ∃ g, ga = some ⟨g, 0, none⟩ ∧ ToksAt w2 g ts ∧ g ≠ g1) := fun h => by
    obtain ⟨g, e, hT⟩ := hga.out h
    exact ⟨g, e, hT.kept gr2 (by simp), by have := hT.lt; omega⟩
  have HB2 : Hid (Below w.heap.size w w2) := HB1.out.grown gr2 sz1 (fun k h => by cases h)
  rw [hg1] at sz1 ⊢
  clear own2 gr2 HR1 hga HB1 hg1
  go_wp2_with (at_make; go_must (refine wpList_make_full _ rfl (.tmp 21) (.tmp 21) 41 rfl w2.heap.size 4 ib (.bool false) 1 Try.underlying41 hib hb0 hb1 _ _ _ _ m rfl rfl em.out em.out (by rw [hb2]; omega) (by unfold maxLen; omega) (Nat.le_refl _) ?_))
  intro w3 own3 gr3
  have HR2 := row_made own3
  obtain ⟨g2, hg2⟩ : ∃ g2, w2.heap.size = g2 := ⟨_, rfl⟩
  have HW3 : Two w w3 ga ts m g1 g2 (List.replicate m false) (List.replicate m false) := {
    r1 := HRa.out.kept gr3 (by simp)
    r2 := by rw [← hg2]; exact HR2
    ne := by omega
    l1 := by simp
    l2 := by simp
    b1 := sz1
    b2 := by omega
    tv := fun h => by
      obtain ⟨g, e, hT, hne⟩ := HTa.out h
      exact ⟨g, e, hT.kept gr3 (by simp), hne, by have := hT.lt; omega⟩
    bl := HB2.out.grown gr3 (by omega) (fun k h => by cases h) }
  have c0 : w3.cell? ⟨g1, 0, none⟩ = some (.bool ((List.replicate m false).getD 0 false)) := HW3.r1.cell (by simp; omega)
  have f0 := HW3.r1.free 0
  have HW : Hid (Two w (w3.setCell ⟨g1, 0, none⟩ (.bool true)) ga ts m g1 g2 ((List.replicate m false).set 0 true) (List.replicate m false)) := HW3.put1 0 true
  have HD : Hid (DpRow ((toks p).take 0) (nums s) ((List.replicate m false).set 0 true)) := dp_start _ _ (by rw [HW.out.l1, nums_length, hm.out]) (getD_set_self _ _ _ (by simp; omega)) (fun k hk => by rw [getD_set_other _ _ _ _ (by omega)]; simp [List.getD, List.getElem?_replicate]; split <;> rfl)
  rw [hg2]
  clear own3 gr3 HR2 HRa HTa HB2 HW3 hg2 sz2
  go_wp2_with fail
  go_loopw [7, 8, 9] (fun s7 s8 s9 wr => ∃ (t g1 g2 : Nat) (c1 c2 : List Bool), t ≤ ts.length ∧ s7 = .slice (some ⟨g1, 0, none⟩) m m ∧ s8 = .slice (some ⟨g2, 0, none⟩) m m ∧ s9 = .int .i64 t ∧ Hid (Two w wr ga ts m g1 g2 c1 c2) ∧ Hid (DpRow ((toks p).take t) (nums s) c1)) (fun _ _ s9 _ => ts.length - (intOf s9).toNat)
  case atStart => exact ⟨0, g1, g2, _, _, by omega, rfl, rfl, rfl, HW, HD⟩
  case round =>
    clear c0 f0 HW HD sz1
    obtain ⟨t, h1, h2, c1, c2, ht, rfl, rfl, rfl, HW, HD⟩ := hrel
    obtain ⟨wo, rfl⟩ : ∃ wo : World, wo = wr := ⟨_, rfl⟩
    by_cases hlt : t < ts.length
    · have i1 : (t : Int) < (ts.length : Int) := by omega
      obtain ⟨g, rfl, hT, n1, n2⟩ := HW.out.tv (by omega)
      obtain ⟨st, f, u, ets, eus, hu⟩ := corr_at ts (toks p) HC.out t hlt
      have cs := hT.star ets
      have HT : Hid (ToksAt wo g ts) := hT
      clear hT
      cases st
      · -- one byte
        cases u with
        | none => simp [CorrT] at hu
        | some F =>
          have HF : Hid (∀ c : Nat, c < 256 → f c = F c) := hu.2
          have HU : Hid ((toks p).take (t + 1) = (toks p).take t ++ [some F]) := eus
          have HE : Hid (ts[t]? = some (false, f)) := ets
          clear hu eus ets
          have c0 := HW.out.r2.cell (k := 0) (by rw [HW.out.l2]; omega)
          have f0 := HW.out.r2.free 0
          have HW0 : Hid (Two w (wo.setCell ⟨h2, 0, none⟩ (.bool false)) (some ⟨g, 0, none⟩) ts m h1 h2 c1 (c2.set 0 false)) := HW.out.put2 0 false
          have HZ : Hid ((c2.set 0 false).getD 0 false = false ∧ ∀ i, i < 0 → (c2.set 0 false).getD (i + 1) false = (c1.getD i false && F ((nums s).getD i 0))) := ⟨getD_set_self _ _ _ (by rw [HW.out.l2]; omega), fun i hi => by omega⟩
          go_wp2_with fail
          go_loopw [12] (fun s12 wq => ∃ (j : Nat) (d : List Bool), j ≤ s.size ∧ s12 = .int .i64 ((j : Int) + 1) ∧ Hid (Two w wq (some ⟨g, 0, none⟩) ts m h1 h2 c1 d) ∧ Hid (d.getD 0 false = false ∧ ∀ i, i < j → d.getD (i + 1) false = (c1.getD i false && F ((nums s).getD i 0)))) (fun s12 _ => s.size + 1 - (intOf s12).toNat)
          case atStart => exact ⟨0, _, by omega, rfl, HW0, HZ⟩
          case round =>
            clear c0 f0 HW0 HZ cs HT
            obtain ⟨j, d, hj, rfl, HV, HY⟩ := hrel
            by_cases hjn : j < s.size
            · have i2 : (j : Int) + 1 ≤ (s.size : Int) := by omega
              have hw1 : (j : Int) + 1 - 1 = (j : Int) := by omega
              have hw2 : IntKind.i64.wrap ((j : Int) + 1 - 1) = (j : Int) := by rw [IntKind.wrap_i64]; omega
              have hw3 : ((j : Int) + 1).toNat = j + 1 := by omega
              obtain ⟨x, hx⟩ : ∃ x, c1.getD j false = x := ⟨_, rfl⟩
              have cC := HV.out.r1.cell (k := j) (by rw [HV.out.l1]; omega)
              rw [hx] at cC
              have cD := HV.out.r2.cell (k := j + 1) (by rw [HV.out.l2]; omega)
              have fD := HV.out.r2.free (j + 1)
              obtain ⟨y, hy⟩ : ∃ y, f (s[j].toNat) = y := ⟨_, rfl⟩
              have cT : wr.cell? ⟨g, t * 257 + 1 + s[j].toNat, none⟩ = some (.bool y) := by
                obtain ⟨g', e, hT, _, _⟩ := HV.out.tv (by omega)
                cases e
                rw [← hy]; exact hT.set HE.out (UInt8.toNat_lt _)
              have hz : (c1.getD j false && F ((nums s).getD j 0)) = (x && y) := by rw [hx, ← hy, nums_getD s j hjn, HF.out _ (UInt8.toNat_lt _)]
              have HS : Hid ((d.set (j + 1) (x && y)).getD 0 false = false ∧ ∀ i, i < j + 1 → (d.set (j + 1) (x && y)).getD (i + 1) false = (c1.getD i false && F ((nums s).getD i 0))) := one_step (by rw [HV.out.l2]; omega) hz HY.out
              have HV' : Hid (Two w (wr.setCell ⟨h2, j + 1, none⟩ (.bool (x && y))) (some ⟨g, 0, none⟩) ts m h1 h2 c1 (d.set (j + 1) (x && y))) := HV.out.put2 (j + 1) _
              have hq1 : s[j].toNat < 256 := UInt8.toNat_lt _
              have hq2 : (s[j].toNat : Int) < 256 := by omega
              clear hz hx hy
              have HV'' : Hid (Two w (wr.setCell ⟨h2, j + 1, none⟩ (.bool (x && y))).drew (some ⟨g, 0, none⟩) ts m h1 h2 c1 (d.set (j + 1) (x && y))) := HV'.out.drew 1
              cases x
              · go_wp2_with fail
                go_region
                go_wp2_with fail
                go_roundw
                case rel => exact ⟨j + 1, _, by omega, by go_num, HV'', HS⟩
                case measure => simp [intOf]; omega
              · go_wp2_with fail
                go_region
                go_wp2_with fail
                go_roundw
                case rel => exact ⟨j + 1, _, by omega, by go_num, HV'', HS⟩
                case measure => simp [intOf]; omega
            · have i2 : ¬ (j : Int) + 1 ≤ (s.size : Int) := by omega
              have HD' : Hid (DpRow ((toks p).take (t + 1)) (nums s) d) := by
                rw [HU.out]
                exact dp_one HD.out (by rw [HV.out.l2, nums_length, hm.out]) HY.out.1 (fun k hk => HY.out.2 k (by rw [nums_length] at hk; omega))
              have HV' := HV.out.swap
              go_wp2_with fail
              go_roundw
              case rel => exact ⟨t + 1, h2, h1, d, c1, by omega, rfl, rfl, by go_num, HV', HD'⟩
              case measure => simp [intOf]; omega
      · -- a star
        cases u with
        | some F => simp [CorrT] at hu
        | none =>
          have HU : Hid ((toks p).take (t + 1) = (toks p).take t ++ [none]) := eus
          clear hu eus ets
          go_wp2_with fail
          go_loopw [10, 11] (fun s10 s11 wq => ∃ (k : Nat) (r : Bool) (d : List Bool), k ≤ m ∧ s10 = .bool r ∧ s11 = .int .i64 k ∧ Hid (anyTo c1 k = r) ∧ Hid (Two w wq (some ⟨g, 0, none⟩) ts m h1 h2 c1 d) ∧ Hid (∀ j, j < k → d.getD j false = anyTo c1 (j + 1))) (fun _ s11 _ => m - (intOf s11).toNat)
          case atStart => exact ⟨0, false, c2, by omega, rfl, rfl, rfl, HW, fun j hj => by omega⟩
          case round =>
            clear cs HT
            obtain ⟨k, r, d, hk, rfl, rfl, HR, HV, HY⟩ := hrel
            by_cases hkm : k < m
            · have i2 : (k : Int) ≤ (s.size : Int) := by omega
              obtain ⟨x, hx⟩ : ∃ x, c1.getD k false = x := ⟨_, rfl⟩
              have HX : Hid (c1.getD k false = x) := hx
              have cC := HV.out.r1.cell (k := k) (by rw [HV.out.l1]; exact hkm)
              rw [hx] at cC
              have cD := HV.out.r2.cell (k := k) (by rw [HV.out.l2]; exact hkm)
              have fD := HV.out.r2.free k
              have hS := star_step (by rw [HV.out.l1]; exact hkm) (by rw [HV.out.l2]; exact hkm) HR.out hx HY.out
              have HS1 : Hid (anyTo c1 (k + 1) = (r || x)) := hS.1
              have HS2 : Hid (∀ j, j < k + 1 → (d.set k (r || x)).getD j false = anyTo c1 (j + 1)) := hS.2
              have HV' : Hid (Two w (wr.setCell ⟨h2, k, none⟩ (.bool (r || x))) (some ⟨g, 0, none⟩) ts m h1 h2 c1 (d.set k (r || x))) := HV.out.put2 k _
              clear hS hx
              cases r
              all_goals
                go_wp2_with fail
                go_roundw
                case rel => exact ⟨k + 1, _, _, by omega, rfl, by go_num, HS1, HV', HS2⟩
                case measure => simp [intOf]; omega
            · have i2 : ¬ (k : Int) ≤ (s.size : Int) := by omega
              have HD' : Hid (DpRow ((toks p).take (t + 1)) (nums s) d) := by
                rw [HU.out]
                exact dp_star HD.out (by rw [HV.out.l2, nums_length, hm.out]) (fun k hk => HY.out k (by rw [nums_length] at hk; omega))
              have HV' := HV.out.swap
              go_wp2_with fail
              go_roundw
              case rel => exact ⟨t + 1, h2, h1, d, c1, by omega, rfl, rfl, by go_num, HV', HD'⟩
              case measure => simp [intOf]; omega
    · have i1 : ¬ (t : Int) < (ts.length : Int) := by omega
      have HD' : Hid (DpRow (toks p) (nums s) c1) := by
        have := HD.out
        rw [List.take_of_length_le (by rw [← corr_length _ _ HC.out]; omega)] at this
        exact this
      have cC := HW.out.r1.cell (k := s.size) (by rw [HW.out.l1]; exact hmA)
      have HL : Hid (c1.getD s.size false = true ↔ Lang (toks p) (nums s)) := by have := dp_end HD'.out; rw [nums_length] at this; exact this
      have iA : (s.size : Int) < (m : Int) := by omega
      generalize c1.getD s.size false = B at cC HL
      go_wp2_with fail
      go_ret
      exact ⟨B, rfl, HL.out, HW.out.bl⟩

end Go.Proofs.Qxb6617818a
