/-
  ARRAYS OF 256 BOOLS IN MEMORY; THE WALK OF zzClassSet. By an AI agent.
-/
import Derived.Test.Qxb6617818aClass
import Derived.Test.Qxb6617818aGlob
import Derived.Deep.WholeRow
import Derived.Laws.CopyRow
import Derived.Laws.CopyOwn
import Derived.Deep.DeepCutAuto
import Derived.Deep.Cut
import Derived.Deep.CutRange
namespace Go.Proofs.Qxb6617818a
open Go.RowKit

/-- a set of bytes as an array's cells -/
def setL (f : Nat → Bool) : List Value := (List.range 256).map fun i => Value.bool (f i)
def setA (f : Nat → Bool) : Array Value := (setL f).toArray
def noneF : Nat → Bool := fun _ => false
def putF (f : Nat → Bool) (x : Nat) (b : Bool) : Nat → Bool := fun i => if i = x then b else f i
theorem setL_length (f : Nat → Bool) : (setL f).length = 256 := by simp [setL]
theorem setA_size (f : Nat → Bool) : (setA f).size = 256 := by simp [setA, setL_length]
theorem setA_at (f : Nat → Bool) (i : Nat) (h : i < 256) : (setA f)[i]? = some (.bool (f i)) := by simp [setA, setL, h]
theorem setA_put (f : Nat → Bool) (x : Nat) (b : Bool) : (setA f).setIfInBounds x (.bool b) = setA (putF f x b) := by
  apply Array.ext_getElem?
  intro i
  rw [Array.getElem?_setIfInBounds]
  by_cases hi : i < 256
  · rw [setA_at (putF f x b) i hi]
    by_cases h : x = i
    · subst h; rw [if_pos rfl, if_pos (by rw [setA_size]; exact hi)]; simp [putF]
    · rw [if_neg h, setA_at f i hi]; simp [putF, Ne.symm h]
  · have e : (setA (putF f x b))[i]? = none := Array.getElem?_eq_none (by rw [setA_size]; omega)
    have e2 : (setA f)[i]? = none := Array.getElem?_eq_none (by rw [setA_size]; omega)
    rw [e]
    split
    · subst_vars; rw [if_neg (by rw [setA_size]; omega)]
    · exact e2
theorem setA_ext {f g : Nat → Bool} (h : ∀ i, i < 256 → f i = g i) : setA f = setA g := by
  apply Array.ext_getElem?
  intro i
  by_cases hi : i < 256
  · rw [setA_at f i hi, setA_at g i hi, h i hi]
  · rw [Array.getElem?_eq_none (by rw [setA_size]; omega), Array.getElem?_eq_none (by rw [setA_size]; omega)]
theorem setL_one (f : Nat → Bool) : ∀ v ∈ setL f, v.oneCell' = true := by
  intro v hv
  simp only [setL, List.mem_map] at hv
  obtain ⟨i, _, rfl⟩ := hv
  rfl

theorem info42 : (Try.prog.info? 42).map (fun i => (i.zero, i.size)) = some (some (.agg (setA noneF)), 256) := by kernel_rfl
theorem zero42 : ∀ w, (zeroValue 42).run Try.prog w = .ok (.agg (setA noneF)) w := (zero_of_info info42).1
theorem size42 : (Try.prog.info? 42).map (·.size) = some 256 := (zero_of_info info42).2

/-- block g holds the set f -/
def SetAt (w : World) (g : Nat) (f : Nat → Bool) : Prop := w.heap[g]? = some (.cells (setA f) 42 (0, 0))
theorem SetAt.cell {w : World} {g : Nat} {f : Nat → Bool} (h : SetAt w g f) {x : Nat} (hx : x < 256) : w.cell? ⟨g, x, none⟩ = some (.bool (f x)) := by
  rw [cell_of_row w g x _ 42 _ h, setA_at f x hx]
theorem SetAt.free {w : World} {g : Nat} {f : Nat → Bool} (h : SetAt w g f) (x : Nat) : w.frozen? ⟨g, x, none⟩ = false := frozen_of_row w g x _ 42 h
theorem SetAt.put {w : World} {g : Nat} {f : Nat → Bool} (h : SetAt w g f) (x : Nat) (b : Bool) : SetAt (w.setCell ⟨g, x, none⟩ (.bool b)) g (putF f x b) := by
  unfold SetAt
  rw [heap_setCell_same w g x _ 42 _ h, setA_put]
theorem SetAt.other {w : World} {g : Nat} {f : Nat → Bool} (h : SetAt w g f) {a : Addr} (v : Value) (hne : g ≠ a.block) : SetAt (w.setCell a v) g f := by
  unfold SetAt
  rw [heap_setCell_other w a g v hne]; exact h
theorem SetAt.lt {w : World} {g : Nat} {f : Nat → Bool} (h : SetAt w g f) : g < w.heap.size := (Array.getElem?_eq_some_iff.1 h).1
theorem SetAt.alloc {w : World} {g : Nat} {f : Nat → Bool} (h : SetAt w g f) (o : Obj) : SetAt (w.alloc o) g f := by
  unfold SetAt
  rw [heap_alloc_old w o h.lt]; exact h
theorem SetAt.new (w : World) (f : Nat → Bool) : SetAt (w.alloc (.cells (setA f) 42)) w.heap.size f := heap_alloc_new w _
theorem SetAt.ext {w : World} {g : Nat} {f f' : Nat → Bool} (h : SetAt w g f) (e : ∀ i, i < 256 → f i = f' i) : SetAt w g f' := by
  unfold SetAt
  rw [← setA_ext e]; exact h

/-- what the scan of the class knows at index i -/
def ScanI (p : List Int) (i0 i : Nat) (f : Nat → Bool) : Prop := ∀ c : Nat, c < 256 → clsAt p c i (f c) = clsAt p c i0 false

/-! ### a whole array stored: a law for the walk -/
theorem wpList_store_row {P : Program} {w : World} {ops : Array Oper} {rest : List Oper} {o : Oper} {a : Act} {Q : Exit → Act → World → Prop} (hgd : o.guard = none) (ty : TypeId) (x y : Operand) (ho : o.op = .store ty x y)
    (g : Nat) (hx : a.eval x = .pointer (some ⟨g, 0, none⟩)) (cs : Array Value) (hy : a.eval y = .agg cs) (t : TypeId) (old : Array Value) (hg : w.heap[g]? = some (.cells old t (0, 0)))
    (hi : (P.info? ty).map (·.size) = some cs.size) (hs : old.size = cs.size) (h1 : cs.all (·.oneCell') = true)
    (h : wpList P ops Q rest (a.put o.dst undef) (w.setRow g cs)) : wpList P ops Q (o :: rest) a w := by
  refine wpList_plain hgd fun K hK => ?_
  unfold Oper.wp execOp
  simp only [ho, hx, hy, Instr.storeAt, Instr.sureAddr, Sem.run_bind, Sem.run_pure, Result.andThen_ok, run_storeVar_row w g t ty old cs hg hi hs h1]
  exact hK _ _ h

theorem st1 (w : World) : SetAt ((w.alloc (.cells (setA noneF) 42)).alloc (.cells (setA noneF) 42)) (w.heap.size + 1) noneF := by
  have := SetAt.new (w.alloc (.cells (setA noneF) 42)) noneF
  rwa [show (w.alloc (.cells (setA noneF) 42)).heap.size = w.heap.size + 1 from by show (w.heap.push _).size = _; simp] at this
theorem st0 (w : World) : SetAt ((w.alloc (.cells (setA noneF) 42)).alloc (.cells (setA noneF) 42)) w.heap.size noneF := (SetAt.new w noneF).alloc _
theorem st2 (w : World) : Below w.heap.size w ((w.alloc (.cells (setA noneF) 42)).alloc (.cells (setA noneF) 42)) := ((Below.refl _ _).alloc (Nat.le_refl _) _).alloc (by show _ ≤ (w.heap.push _).size; simp) _
theorem exit_ways {i len : Nat} {Q : Nat → Nat} (h : ¬ (i < len ∧ Q i ≠ 93)) : (i < len ∧ Q i = 93) ∨ len ≤ i := by
  by_cases a : i < len
  · refine .inl ⟨a, ?_⟩
    rcases Nat.decEq (Q i) 93 with g | g
    · exact absurd ⟨a, g⟩ h
    · exact g
  · exact .inr (by omega)
theorem cell_later' {w wr : World} {b o : Nat} {v : Value} (hb : Below w.heap.size w wr) (hlt : b < w.heap.size) (h : w.cell? ⟨b, o, none⟩ = some v) : wr.cell? ⟨b, o, none⟩ = some v := (hb.cell (p := ⟨b, o, none⟩) hlt).trans h

theorem setA_one (f : Nat → Bool) : (setA f).all (·.oneCell') = true := by
  rw [Array.all_eq_true_iff_forall_mem]
  intro v hv
  exact setL_one f v (by simpa [setA] using hv)

/-- what the scan has come to at its end, index W behind the class -/
def EndI (p : List Int) (i0 W : Nat) (f : Nat → Bool) : Prop := ∀ c : Nat, c < 256 → (f c, W) = clsAt p c i0 false
theorem exit_close {p : List Int} {Q : Nat → Nat} {len i i0 : Nat} {f : Nat → Bool} (hp : Hid (p.length = len)) (hP : Hid (∀ j, p.getD j 0 = (Q j : Int))) (hlt : i < len) (h93 : Hid (Q i = 93)) (HI : Hid (ScanI p i0 i f)) : EndI p i0 (i + 1) f := by
  intro c hc
  rw [← HI.out c hc, clsAt_close p c i (f c) (by rw [hp.out]; exact hlt) (by rw [hP.out, h93.out]; rfl)]
theorem exit_end {p : List Int} {len i i0 : Nat} {f : Nat → Bool} (hp : Hid (p.length = len)) (hge : len ≤ i) (HI : Hid (ScanI p i0 i f)) : EndI p i0 i f := by
  intro c hc
  rw [← HI.out c hc, clsAt_end p c i (f c) (by rw [hp.out]; exact hge)]
theorem fill_end {p : List Int} {i0 W k : Nat} {f g : Nat → Bool} {ng : Bool} (hk : k ≤ 256) (HG : Hid (∀ c, c < 256 → g c = if c < k then (f c != ng) else false)) (hk2 : 256 ≤ k) (h : EndI p i0 W f) : Hid (∀ c : Nat, c < 256 → g c = ((clsAt p c i0 false).1 != ng)) := by
  intro c hc
  rw [HG.out c hc, if_pos (by omega), ← h c hc]
theorem width_end {p : List Int} {i0 W : Nat} {f : Nat → Bool} (h : EndI p i0 W f) : Hid (W = (clsAt p 0 i0 false).2) := by
  have := h 0 (by omega)
  exact congrArg Prod.snd this

theorem res_set {tmps : Array Value} {g : Nat → Bool} {A : Nat} {W : Int} (wr : World) (hA : SetAt wr A noneF) (h2 : tmps.getD 2 undef = .pointer (some ⟨A, 0, none⟩)) (h3 : tmps.getD 3 undef = .int .i64 W) (hf : Try.f30.results = #[.cell 2 42, .tmp 3]) :
    (results Try.f30 tmps).run Try.prog (wr.setRow A (setA g)) = .ok (.tuple #[.agg (setA g), .int .i64 W]) (wr.setRow A (setA g)) := by
  rw [results_cell_tmp hf, h2, h3]
  have hl := run_loadVar_row (P := Try.prog) (wr.setRow A (setA g)) A 42 42 (setA g) (0, 0) _ (setRow_heap wr A _ _ 42 _ hA) Try.underlying42 rfl (by rw [setA_size]; exact size42)
  simp [asAddr, hl]

/-- how zzClassSet ends -/
def SetEnd (p : List Int) (ng : Bool) (i0 : Nat) (w : World) (e : Ending) (w' : World) : Prop :=
  ∃ (f : Nat → Bool) (W : Nat), e = .returned (.tuple #[.agg (setA f), .int .i64 W]) ∧ (∀ c : Nat, c < 256 → f c = ((clsAt p c i0 false).1 != ng)) ∧ W = (clsAt p 0 i0 false).2 ∧ Below w.heap.size w w'

/-- one round of the loop that fills the set -/
theorem fill_step {w wr : World} {C k : Nat} {f g : Nat → Bool} {ng : Bool} (HC : Hid (SetAt wr C g)) (HG : Hid (∀ c, c < 256 → g c = if c < k then (f c != ng) else false)) (HB : Hid (SetAt wr (w.heap.size + 1) f)) (HA : Hid (SetAt wr w.heap.size noneF)) (HBl : Hid (Below w.heap.size w wr))
    (_h0 : w.heap.size < C) (h1 : w.heap.size + 1 < C) (_hk : k < 256) :
    Hid (∀ v, v = (f k != ng) → Hid (SetAt (wr.setCell ⟨C, k, none⟩ (.bool v)) C (putF g k v)) ∧ Hid (∀ c, c < 256 → putF g k v c = if c < k + 1 then (f c != ng) else false) ∧ Hid (SetAt (wr.setCell ⟨C, k, none⟩ (.bool v)) (w.heap.size + 1) f) ∧ Hid (SetAt (wr.setCell ⟨C, k, none⟩ (.bool v)) w.heap.size noneF) ∧ Hid (Below w.heap.size w (wr.setCell ⟨C, k, none⟩ (.bool v)))) := by
  rintro v rfl
  refine ⟨HC.out.put k _, ?_, HB.out.other _ (by show w.heap.size + 1 ≠ C; omega), HA.out.other _ (by show w.heap.size ≠ C; omega), HBl.out.setCell (by show w.heap.size ≤ C; omega) _⟩
  intro c hc'
  by_cases e : c = k
  · subst e; simp [putF]
  · simp only [putF, if_neg e]
    rw [HG.out c hc']
    by_cases e2 : c < k
    · rw [if_pos e2, if_pos (by omega)]
    · rw [if_neg e2, if_neg (by omega)]

/-! ### the scan's steps -/
theorem put_true (f : Nat → Bool) (x c : Nat) : putF f x true c = (f c || ((x : Int) == (c : Int))) := by
  unfold putF
  by_cases h : c = x
  · subst h; simp
  · rw [if_neg h]
    have : ((x : Int) == (c : Int)) = false := by simp; omega
    simp [this]
theorem scan_esc {p : List Int} {Q : Nat → Nat} {len i i0 : Nat} {f : Nat → Bool} (hp : Hid (p.length = len)) (hP : Hid (∀ j, p.getD j 0 = (Q j : Int))) (hlt1 : i + 1 < len) (h92 : Q i = 92) (HI : Hid (ScanI p i0 i f)) : Hid (ScanI p i0 (i + 2) (putF f (Q (i + 1)) true)) := by
  intro c hc
  rw [← HI.out c hc, clsAt_esc p c i (f c) (by rw [hp.out]; exact hlt1) (by rw [hP.out, h92]; rfl), put_true, hP.out]
theorem scan_one {p : List Int} {Q : Nat → Nat} {len i i0 : Nat} {f : Nat → Bool} (hp : Hid (p.length = len)) (hP : Hid (∀ j, p.getD j 0 = (Q j : Int))) (hlt : i < len) (h93 : Hid (Q i ≠ 93)) (h92 : Hid (¬ (Q i = 92 ∧ i + 1 < len))) (hrg : ¬ (i + 2 < len ∧ Q (i + 1) = 45)) (HI : Hid (ScanI p i0 i f)) :
    Hid (ScanI p i0 (i + 1) (putF f (Q i) true)) := by
  intro c hc
  rw [← HI.out c hc, clsAt_one p c i (f c) (by rw [hp.out]; exact hlt) (by rw [hP.out]; have := h93.out; omega) (by rw [hP.out, hp.out]; rintro ⟨a, b⟩; exact h92.out ⟨by omega, b⟩) (by rw [hP.out, hp.out]; rintro ⟨a, b⟩; exact hrg ⟨a, by omega⟩), put_true, hP.out]
theorem scan_range {p : List Int} {Q : Nat → Nat} {len i i0 lo hi : Nat} {f g : Nat → Bool} (hp : Hid (p.length = len)) (hP : Hid (∀ j, p.getD j 0 = (Q j : Int))) (hlt2 : i + 2 < len) (h93 : Hid (Q i ≠ 93)) (h92 : Hid (¬ (Q i = 92 ∧ i + 1 < len))) (h45 : Hid (Q (i + 1) = 45))
    (hlo : Hid (lo = min (Q i) (Q (i + 2)))) (hhi : Hid (hi = max (Q i) (Q (i + 2)))) (HI : Hid (ScanI p i0 i f)) (hg : Hid (∀ c, c < 256 → g c = (f c || (decide (lo ≤ c) && decide (c < hi + 1))))) :
    Hid (ScanI p i0 (i + 3) g) := by
  intro c hc
  rw [← HI.out c hc, clsAt_range p c i (f c) (by rw [hp.out]; exact hlt2) (by rw [hP.out]; have := h93.out; omega) (by rw [hP.out]; intro a; exact h92.out ⟨by omega, by omega⟩) (by rw [hP.out, h45.out]; rfl), hg.out c hc]
  simp only [hP.out]
  have e1 : (min (Q i : Int) (Q (i + 2) : Int) ≤ (c : Int)) = (lo ≤ c) := by rw [hlo.out]; apply propext; omega
  have e2 : ((c : Int) ≤ max (Q i : Int) (Q (i + 2) : Int)) = (c < hi + 1) := by rw [hhi.out]; apply propext; omega
  simp only [e1, e2]

theorem rng_start {lo : Nat} {f : Nat → Bool} : Hid (∀ c, c < 256 → f c = (f c || (decide (lo ≤ c) && decide (c < lo)))) := by
  intro c _
  by_cases h : c < lo
  · have : ¬ lo ≤ c := by omega
    simp [this]
  · simp [h]
theorem rng_step {lo v : Nat} {f g : Nat → Bool} (hg : Hid (∀ c, c < 256 → g c = (f c || (decide (lo ≤ c) && decide (c < v))))) (hv : lo ≤ v) : Hid (∀ c, c < 256 → putF g v true c = (f c || (decide (lo ≤ c) && decide (c < v + 1)))) := by
  intro c hc
  by_cases h : c = v
  · subst h; simp [putF, hv]
  · simp only [putF, if_neg h]
    rw [hg.out c hc]
    have : (c < v + 1) = (c < v) := by apply propext; omega
    simp only [this]

set_option maxRecDepth 100000 in
set_option maxHeartbeats 4000000 in
theorem set_walk (b off len cap : Nat) (p : List Int) (Q : Nat → Nat) (ng : Bool) (i0 : Nat) (w : World) (hp : Hid (p.length = len)) (hP : Hid (∀ j, p.getD j 0 = (Q j : Int))) (hQ : Hid (∀ j, Q j < 256)) (hl : 1 ≤ len) (hm : len ≤ 10000) (hb : b < w.heap.size)
    (hc : Hid (∀ j, j < len → w.cell? ⟨b, off + j, none⟩ = some (.int .u8 (Q j : Int))))
    (hst : (1 < len ∧ Q 1 = 94 ∧ ng = true ∧ i0 = 2) ∨ (1 < len ∧ Q 1 ≠ 94 ∧ ng = false ∧ i0 = 1) ∨ (len = 1 ∧ ng = false ∧ i0 = 1)) :
    Calls Try.prog 30 #[.slice (some ⟨b, off, none⟩) len cap] w fun e w' => SetEnd p ng i0 w e w' := by
  have hz := zero42
  rcases hst with ⟨h1, hx, rfl, rfl⟩ | ⟨h1, hx, rfl, rfl⟩ | ⟨h1, rfl, rfl⟩
  · have c1 := hc.out 1 h1
    have hn : ((Q 1 : Int) == 94) = true := by simp; omega
    clear hx
    go_enter Try.func30, Try.ntmps30
    go_wp2_with fail
    go_loopw [6] (fun s6 wr => ∃ (i : Nat) (f : Nat → Bool), i ≤ len ∧ s6 = .int .i64 i ∧ Hid (ScanI p 2 i f) ∧ Hid (SetAt wr (w.heap.size + 1) f) ∧ Hid (SetAt wr w.heap.size noneF) ∧ Hid (Below w.heap.size w wr)) (fun s6 _ => len - (intOf s6).toNat)
    case atStart => exact ⟨2, noneF, by omega, rfl, fun _ _ => rfl, st1 w, st0 w, st2 w⟩
    case round =>
      obtain ⟨i, f, hi, rfl, HI, HBs, HA, HBl⟩ := hrel
      have szr := HBl.out.size
      by_cases hcont : i < len ∧ Q i ≠ 93
      · obtain ⟨hlt, h93⟩ := hcont
        have i1 : (i : Int) < (len : Int) := by omega
        have hqi := hQ.out i
        have ci := cell_later' HBl.out hb (hc.out i hlt)
        have t1 : ((Q i : Int) != 93) = true := by rw [bne_iff_ne]; omega
        have H93 : Hid (Q i ≠ 93) := h93
        have A1 := HA.out.lt
        clear h93
        by_cases h92 : Q i = 92 ∧ i + 1 < len
        · obtain ⟨h92, hlt1⟩ := h92
          have t2 : ((Q i : Int) == 92) = true := by simp; omega
          have hq1 := hQ.out (i + 1)
          have ci1 := cell_later' HBl.out hb (hc.out (i + 1) hlt1)
          have cB := HBs.out.cell hq1
          have fB := HBs.out.free (Q (i + 1))
          have HI' := scan_esc hp hP hlt1 h92 HI
          have HB' : Hid (SetAt (wr.setCell ⟨w.heap.size + 1, Q (i + 1), none⟩ (.bool true)) (w.heap.size + 1) (putF f (Q (i + 1)) true)) := HBs.out.put _ _
          have HA' : Hid (SetAt (wr.setCell ⟨w.heap.size + 1, Q (i + 1), none⟩ (.bool true)) w.heap.size noneF) := HA.out.other _ (by show w.heap.size ≠ w.heap.size + 1; omega)
          have HBl' : Hid (Below w.heap.size w (wr.setCell ⟨w.heap.size + 1, Q (i + 1), none⟩ (.bool true))) := HBl.out.setCell (by show w.heap.size ≤ w.heap.size + 1; omega) _
          clear h92
          go_wp2_with fail
          go_roundw
          case rel => exact ⟨i + 2, _, by omega, by go_num, HI', HB', HA', HBl'⟩
          case measure => simp [intOf]; omega
        · have ht2 : ((Q i : Int) == 92) = false ∨ (((Q i : Int) == 92) = true ∧ ¬ i + 1 < len) := by
            by_cases e : Q i = 92
            · exact .inr ⟨by simp; omega, fun h => h92 ⟨e, h⟩⟩
            · exact .inl (by simp; omega)
          have H92 : Hid (¬ (Q i = 92 ∧ i + 1 < len)) := h92
          clear h92
          by_cases hrg : i + 2 < len ∧ Q (i + 1) = 45
          · obtain ⟨hlt2, h45⟩ := hrg
            obtain t2 : ((Q i : Int) == 92) = false := by rcases ht2 with h | ⟨_, h⟩; exact h; exact absurd (by omega) h
            have t3 : ((Q (i + 1) : Int) == 45) = true := by simp; omega
            have ci1 := cell_later' HBl.out hb (hc.out (i + 1) (by omega))
            have ci2 := cell_later' HBl.out hb (hc.out (i + 2) hlt2)
            have hq2 := hQ.out (i + 2)
            have H45 : Hid (Q (i + 1) = 45) := h45
            clear ht2 h45
            by_cases hsw : Q (i + 2) < Q i
            · have hsw' : (Q (i + 2) : Int) < (Q i : Int) := by omega
              have HLo : Hid (Q (i + 2) = min (Q i) (Q (i + 2))) := by show _ = _; omega
              have HHi : Hid (Q i = max (Q i) (Q (i + 2))) := by show _ = _; omega
              have HI' := fun g hg => scan_range (g := g) hp hP hlt2 H93 H92 H45 HLo HHi HI hg
              have HIh : Hid (∀ g, Hid (∀ c, c < 256 → g c = (f c || (decide (Q (i + 2) ≤ c) && decide (c < Q i + 1)))) → Hid (ScanI p 2 (i + 3) g)) := HI'
              clear HI'
              go_wp2_with fail
              go_loopw [9] (fun s9 wq => ∃ (v : Nat) (g : Nat → Bool), Q (i + 2) ≤ v ∧ v ≤ Q i + 1 ∧ s9 = .int .i64 v ∧ Hid (SetAt wq (w.heap.size + 1) g) ∧ Hid (∀ c, c < 256 → g c = (f c || (decide (Q (i + 2) ≤ c) && decide (c < v)))) ∧ Hid (SetAt wq w.heap.size noneF) ∧ Hid (Below w.heap.size w wq)) (fun s9 _ => Q i + 1 - (intOf s9).toNat)
              case atStart => exact ⟨Q (i + 2), f, by omega, by omega, rfl, HBs, rng_start, HA, HBl⟩
              case round =>
                clear HBs HA HBl ci ci1 ci2 A1 szr
                obtain ⟨v, g, hv1, hv2, rfl, HBs, HG, HA, HBl⟩ := hrel
                by_cases hv : v ≤ Q i
                · have i3 : (v : Int) ≤ (Q i : Int) := by omega
                  have hv256 : v < 256 := by omega
                  have i4 : (v : Int) < 256 := by omega
                  have cB := HBs.out.cell hv256
                  have fB := HBs.out.free v
                  have HB' : Hid (SetAt (wr.setCell ⟨w.heap.size + 1, v, none⟩ (.bool true)) (w.heap.size + 1) (putF g v true)) := HBs.out.put _ _
                  have HA' : Hid (SetAt (wr.setCell ⟨w.heap.size + 1, v, none⟩ (.bool true)) w.heap.size noneF) := HA.out.other _ (by show w.heap.size ≠ w.heap.size + 1; omega)
                  have HBl' : Hid (Below w.heap.size w (wr.setCell ⟨w.heap.size + 1, v, none⟩ (.bool true))) := HBl.out.setCell (by show w.heap.size ≤ w.heap.size + 1; omega) _
                  have HG' := rng_step HG hv1
                  go_wp2_with fail
                  go_roundw
                  case rel => exact ⟨v + 1, _, by omega, by omega, by go_num, HB', HG', HA', HBl'⟩
                  case measure => simp [intOf]; omega
                · have i3 : ¬ (v : Int) ≤ (Q i : Int) := by omega
                  obtain rfl : v = Q i + 1 := by omega
                  have HI3 := HIh.out g HG
                  go_wp2_with fail
                  go_roundw
                  case rel => exact ⟨i + 3, g, by omega, by go_num, HI3, HBs, HA, HBl⟩
                  case measure => simp [intOf]; omega
            · have hsw' : ¬ (Q (i + 2) : Int) < (Q i : Int) := by omega
              have HLo : Hid (Q i = min (Q i) (Q (i + 2))) := by show _ = _; omega
              have HHi : Hid (Q (i + 2) = max (Q i) (Q (i + 2))) := by show _ = _; omega
              have HI' := fun g hg => scan_range (g := g) hp hP hlt2 H93 H92 H45 HLo HHi HI hg
              have HIh : Hid (∀ g, Hid (∀ c, c < 256 → g c = (f c || (decide (Q i ≤ c) && decide (c < Q (i + 2) + 1)))) → Hid (ScanI p 2 (i + 3) g)) := HI'
              clear HI'
              go_wp2_with fail
              go_loopw [9] (fun s9 wq => ∃ (v : Nat) (g : Nat → Bool), Q i ≤ v ∧ v ≤ Q (i + 2) + 1 ∧ s9 = .int .i64 v ∧ Hid (SetAt wq (w.heap.size + 1) g) ∧ Hid (∀ c, c < 256 → g c = (f c || (decide (Q i ≤ c) && decide (c < v)))) ∧ Hid (SetAt wq w.heap.size noneF) ∧ Hid (Below w.heap.size w wq)) (fun s9 _ => Q (i + 2) + 1 - (intOf s9).toNat)
              case atStart => exact ⟨Q i, f, by omega, by omega, rfl, HBs, rng_start, HA, HBl⟩
              case round =>
                clear HBs HA HBl ci ci1 ci2 A1 szr
                obtain ⟨v, g, hv1, hv2, rfl, HBs, HG, HA, HBl⟩ := hrel
                by_cases hv : v ≤ Q (i + 2)
                · have i3 : (v : Int) ≤ (Q (i + 2) : Int) := by omega
                  have hv256 : v < 256 := by omega
                  have i4 : (v : Int) < 256 := by omega
                  have cB := HBs.out.cell hv256
                  have fB := HBs.out.free v
                  have HB' : Hid (SetAt (wr.setCell ⟨w.heap.size + 1, v, none⟩ (.bool true)) (w.heap.size + 1) (putF g v true)) := HBs.out.put _ _
                  have HA' : Hid (SetAt (wr.setCell ⟨w.heap.size + 1, v, none⟩ (.bool true)) w.heap.size noneF) := HA.out.other _ (by show w.heap.size ≠ w.heap.size + 1; omega)
                  have HBl' : Hid (Below w.heap.size w (wr.setCell ⟨w.heap.size + 1, v, none⟩ (.bool true))) := HBl.out.setCell (by show w.heap.size ≤ w.heap.size + 1; omega) _
                  have HG' := rng_step HG hv1
                  go_wp2_with fail
                  go_roundw
                  case rel => exact ⟨v + 1, _, by omega, by omega, by go_num, HB', HG', HA', HBl'⟩
                  case measure => simp [intOf]; omega
                · have i3 : ¬ (v : Int) ≤ (Q (i + 2) : Int) := by omega
                  obtain rfl : v = Q (i + 2) + 1 := by omega
                  have HI3 := HIh.out g HG
                  go_wp2_with fail
                  go_roundw
                  case rel => exact ⟨i + 3, g, by omega, by go_num, HI3, HBs, HA, HBl⟩
                  case measure => simp [intOf]; omega
          · have HI' := scan_one hp hP hlt H93 H92 hrg HI
            have ht3 : ¬ i + 2 < len ∨ (i + 2 < len ∧ ((Q (i + 1) : Int) == 45) = false ∧ wr.cell? ⟨b, off + (i + 1), none⟩ = some (.int .u8 (Q (i + 1) : Int))) := by
              by_cases e : i + 2 < len
              · exact .inr ⟨e, by simp; intro h; exact hrg ⟨e, by omega⟩, cell_later' HBl.out hb (hc.out (i + 1) (by omega))⟩
              · exact .inl e
            clear hrg
            have cB := HBs.out.cell hqi
            have fB := HBs.out.free (Q i)
            have HB' : Hid (SetAt (wr.setCell ⟨w.heap.size + 1, Q i, none⟩ (.bool true)) (w.heap.size + 1) (putF f (Q i) true)) := HBs.out.put _ _
            have HA' : Hid (SetAt (wr.setCell ⟨w.heap.size + 1, Q i, none⟩ (.bool true)) w.heap.size noneF) := HA.out.other _ (by show w.heap.size ≠ w.heap.size + 1; omega)
            have HBl' : Hid (Below w.heap.size w (wr.setCell ⟨w.heap.size + 1, Q i, none⟩ (.bool true))) := HBl.out.setCell (by show w.heap.size ≤ w.heap.size + 1; omega) _
            rcases ht2 with ht2 | ⟨ht2, ht2'⟩
            all_goals
              rcases ht3 with ht3 | ⟨ht3, ht3', ci1⟩
              all_goals (try (exfalso; omega))
              all_goals
                go_wp2_with fail
                go_roundw
                case rel => exact ⟨i + 1, _, by omega, by go_num, HI', HB', HA', HBl'⟩
                case measure => simp [intOf]; omega
      · rcases exit_ways hcont with ⟨hlt, h93⟩ | hge
        · have ci := cell_later' HBl.out hb (hc.out i hlt)
          have t1 : ((Q i : Int) != 93) = false := by simp; omega
          have i1 : (i : Int) < (len : Int) := by omega
          have H93 : Hid (Q i = 93) := h93
          clear h93
          · have A1 := HA.out.lt
            have B1 := HBs.out.lt
            obtain ⟨C, hC⟩ : ∃ C, wr.heap.size = C := ⟨_, rfl⟩
            have HN : Hid (SetAt (wr.alloc (.cells (setA noneF) 42)) C noneF) := by rw [← hC]; exact SetAt.new _ _
            rw [hC] at A1 B1 szr
            go_wp2_with fail
            go_loopw [12] (fun s12 wq => ∃ (k : Nat) (g : Nat → Bool), k ≤ 256 ∧ s12 = .int .i64 k ∧ Hid (SetAt wq C g) ∧ Hid (∀ c, c < 256 → g c = if c < k then (f c != true) else false) ∧ Hid (SetAt wq (w.heap.size + 1) f) ∧ Hid (SetAt wq w.heap.size noneF) ∧ Hid (Below w.heap.size w wq)) (fun s12 _ => 256 - (intOf s12).toNat)
            case atStart => exact ⟨0, noneF, by omega, rfl, HN, fun c _ => by simp [noneF], HBs.out.alloc _, HA.out.alloc _, HBl.out.alloc (by omega) _⟩
            case round =>
              obtain ⟨k, g, hk, rfl, HC, HG, HB2, HA2, HBl2⟩ := hrel
              by_cases hk2 : k < 256
              · have i2 : (k : Int) < 256 := by omega
                have cB := HB2.out.cell hk2
                have cC := HC.out.cell hk2
                have fC := HC.out.free k
                have ST := fill_step (ng := true) (k := k) HC HG HB2 HA2 HBl2 (by omega) (by omega) (by omega)
                go_wp2_with fail
                go_roundw
                case rel => exact ⟨k + 1, _, by omega, by go_num, (ST.out _ (by simp)).1, (ST.out _ (by simp)).2.1, (ST.out _ (by simp)).2.2.1, (ST.out _ (by simp)).2.2.2.1, (ST.out _ (by simp)).2.2.2.2⟩
                case measure => simp [intOf]; omega
              · have i2 : ¬ (k : Int) < 256 := by omega
                have HF : Hid (∀ c : Nat, c < 256 → g c = ((clsAt p c 2 false).1 != true)) := fill_end hk HG (by omega) (exit_close hp hP hlt H93 HI)
                have HW := width_end (exit_close hp hP hlt H93 HI)
                go_wp2_with (first | (refine wpList_load_row rfl 42 (.tmp 11) rfl C rfl 42 (setA g) (0, 0) _ HC.out Try.underlying42 rfl (by rw [setA_size]; exact size42) ?_) | (refine wpList_store_row rfl 42 (.tmp 2) (.tmp 117) rfl w.heap.size rfl (setA g) rfl 42 (setA noneF) HA2.out (by rw [setA_size]; exact size42) (by rw [setA_size, setA_size]) (setA_one g) ?_))
                refine bodyPost_ret (v := .tuple #[.agg (setA g), .int .i64 ((i : Int) + 1)]) ?_ rfl ⟨g, i + 1, rfl, HF.out, HW.out, below_setRow HBl2.out (Nat.le_refl _) _⟩
                exact res_set wr HA2.out rfl rfl rfl
        · have i1 : ¬ (i : Int) < (len : Int) := by omega
          · have A1 := HA.out.lt
            have B1 := HBs.out.lt
            obtain ⟨C, hC⟩ : ∃ C, wr.heap.size = C := ⟨_, rfl⟩
            have HN : Hid (SetAt (wr.alloc (.cells (setA noneF) 42)) C noneF) := by rw [← hC]; exact SetAt.new _ _
            rw [hC] at A1 B1 szr
            go_wp2_with fail
            go_loopw [12] (fun s12 wq => ∃ (k : Nat) (g : Nat → Bool), k ≤ 256 ∧ s12 = .int .i64 k ∧ Hid (SetAt wq C g) ∧ Hid (∀ c, c < 256 → g c = if c < k then (f c != true) else false) ∧ Hid (SetAt wq (w.heap.size + 1) f) ∧ Hid (SetAt wq w.heap.size noneF) ∧ Hid (Below w.heap.size w wq)) (fun s12 _ => 256 - (intOf s12).toNat)
            case atStart => exact ⟨0, noneF, by omega, rfl, HN, fun c _ => by simp [noneF], HBs.out.alloc _, HA.out.alloc _, HBl.out.alloc (by omega) _⟩
            case round =>
              obtain ⟨k, g, hk, rfl, HC, HG, HB2, HA2, HBl2⟩ := hrel
              by_cases hk2 : k < 256
              · have i2 : (k : Int) < 256 := by omega
                have cB := HB2.out.cell hk2
                have cC := HC.out.cell hk2
                have fC := HC.out.free k
                have ST := fill_step (ng := true) (k := k) HC HG HB2 HA2 HBl2 (by omega) (by omega) (by omega)
                go_wp2_with fail
                go_roundw
                case rel => exact ⟨k + 1, _, by omega, by go_num, (ST.out _ (by simp)).1, (ST.out _ (by simp)).2.1, (ST.out _ (by simp)).2.2.1, (ST.out _ (by simp)).2.2.2.1, (ST.out _ (by simp)).2.2.2.2⟩
                case measure => simp [intOf]; omega
              · have i2 : ¬ (k : Int) < 256 := by omega
                have HF : Hid (∀ c : Nat, c < 256 → g c = ((clsAt p c 2 false).1 != true)) := fill_end hk HG (by omega) (exit_end hp hge HI)
                have HW := width_end (exit_end hp hge HI)
                go_wp2_with (first | (refine wpList_load_row rfl 42 (.tmp 11) rfl C rfl 42 (setA g) (0, 0) _ HC.out Try.underlying42 rfl (by rw [setA_size]; exact size42) ?_) | (refine wpList_store_row rfl 42 (.tmp 2) (.tmp 117) rfl w.heap.size rfl (setA g) rfl 42 (setA noneF) HA2.out (by rw [setA_size]; exact size42) (by rw [setA_size, setA_size]) (setA_one g) ?_))
                refine bodyPost_ret (v := .tuple #[.agg (setA g), .int .i64 ((i : Int))]) ?_ rfl ⟨g, i, rfl, HF.out, HW.out, below_setRow HBl2.out (Nat.le_refl _) _⟩
                exact res_set wr HA2.out rfl rfl rfl
  · have c1 := hc.out 1 h1
    have hn : ((Q 1 : Int) == 94) = false := by simp; omega
    clear hx
    go_enter Try.func30, Try.ntmps30
    go_wp2_with fail
    go_loopw [6] (fun s6 wr => ∃ (i : Nat) (f : Nat → Bool), i ≤ len ∧ s6 = .int .i64 i ∧ Hid (ScanI p 1 i f) ∧ Hid (SetAt wr (w.heap.size + 1) f) ∧ Hid (SetAt wr w.heap.size noneF) ∧ Hid (Below w.heap.size w wr)) (fun s6 _ => len - (intOf s6).toNat)
    case atStart => exact ⟨1, noneF, by omega, rfl, fun _ _ => rfl, st1 w, st0 w, st2 w⟩
    case round =>
      obtain ⟨i, f, hi, rfl, HI, HBs, HA, HBl⟩ := hrel
      have szr := HBl.out.size
      by_cases hcont : i < len ∧ Q i ≠ 93
      · obtain ⟨hlt, h93⟩ := hcont
        have i1 : (i : Int) < (len : Int) := by omega
        have hqi := hQ.out i
        have ci := cell_later' HBl.out hb (hc.out i hlt)
        have t1 : ((Q i : Int) != 93) = true := by rw [bne_iff_ne]; omega
        have H93 : Hid (Q i ≠ 93) := h93
        have A1 := HA.out.lt
        clear h93
        by_cases h92 : Q i = 92 ∧ i + 1 < len
        · obtain ⟨h92, hlt1⟩ := h92
          have t2 : ((Q i : Int) == 92) = true := by simp; omega
          have hq1 := hQ.out (i + 1)
          have ci1 := cell_later' HBl.out hb (hc.out (i + 1) hlt1)
          have cB := HBs.out.cell hq1
          have fB := HBs.out.free (Q (i + 1))
          have HI' := scan_esc hp hP hlt1 h92 HI
          have HB' : Hid (SetAt (wr.setCell ⟨w.heap.size + 1, Q (i + 1), none⟩ (.bool true)) (w.heap.size + 1) (putF f (Q (i + 1)) true)) := HBs.out.put _ _
          have HA' : Hid (SetAt (wr.setCell ⟨w.heap.size + 1, Q (i + 1), none⟩ (.bool true)) w.heap.size noneF) := HA.out.other _ (by show w.heap.size ≠ w.heap.size + 1; omega)
          have HBl' : Hid (Below w.heap.size w (wr.setCell ⟨w.heap.size + 1, Q (i + 1), none⟩ (.bool true))) := HBl.out.setCell (by show w.heap.size ≤ w.heap.size + 1; omega) _
          clear h92
          go_wp2_with fail
          go_roundw
          case rel => exact ⟨i + 2, _, by omega, by go_num, HI', HB', HA', HBl'⟩
          case measure => simp [intOf]; omega
        · have ht2 : ((Q i : Int) == 92) = false ∨ (((Q i : Int) == 92) = true ∧ ¬ i + 1 < len) := by
            by_cases e : Q i = 92
            · exact .inr ⟨by simp; omega, fun h => h92 ⟨e, h⟩⟩
            · exact .inl (by simp; omega)
          have H92 : Hid (¬ (Q i = 92 ∧ i + 1 < len)) := h92
          clear h92
          by_cases hrg : i + 2 < len ∧ Q (i + 1) = 45
          · obtain ⟨hlt2, h45⟩ := hrg
            obtain t2 : ((Q i : Int) == 92) = false := by rcases ht2 with h | ⟨_, h⟩; exact h; exact absurd (by omega) h
            have t3 : ((Q (i + 1) : Int) == 45) = true := by simp; omega
            have ci1 := cell_later' HBl.out hb (hc.out (i + 1) (by omega))
            have ci2 := cell_later' HBl.out hb (hc.out (i + 2) hlt2)
            have hq2 := hQ.out (i + 2)
            have H45 : Hid (Q (i + 1) = 45) := h45
            clear ht2 h45
            by_cases hsw : Q (i + 2) < Q i
            · have hsw' : (Q (i + 2) : Int) < (Q i : Int) := by omega
              have HLo : Hid (Q (i + 2) = min (Q i) (Q (i + 2))) := by show _ = _; omega
              have HHi : Hid (Q i = max (Q i) (Q (i + 2))) := by show _ = _; omega
              have HI' := fun g hg => scan_range (g := g) hp hP hlt2 H93 H92 H45 HLo HHi HI hg
              have HIh : Hid (∀ g, Hid (∀ c, c < 256 → g c = (f c || (decide (Q (i + 2) ≤ c) && decide (c < Q i + 1)))) → Hid (ScanI p 1 (i + 3) g)) := HI'
              clear HI'
              go_wp2_with fail
              go_loopw [9] (fun s9 wq => ∃ (v : Nat) (g : Nat → Bool), Q (i + 2) ≤ v ∧ v ≤ Q i + 1 ∧ s9 = .int .i64 v ∧ Hid (SetAt wq (w.heap.size + 1) g) ∧ Hid (∀ c, c < 256 → g c = (f c || (decide (Q (i + 2) ≤ c) && decide (c < v)))) ∧ Hid (SetAt wq w.heap.size noneF) ∧ Hid (Below w.heap.size w wq)) (fun s9 _ => Q i + 1 - (intOf s9).toNat)
              case atStart => exact ⟨Q (i + 2), f, by omega, by omega, rfl, HBs, rng_start, HA, HBl⟩
              case round =>
                clear HBs HA HBl ci ci1 ci2 A1 szr
                obtain ⟨v, g, hv1, hv2, rfl, HBs, HG, HA, HBl⟩ := hrel
                by_cases hv : v ≤ Q i
                · have i3 : (v : Int) ≤ (Q i : Int) := by omega
                  have hv256 : v < 256 := by omega
                  have i4 : (v : Int) < 256 := by omega
                  have cB := HBs.out.cell hv256
                  have fB := HBs.out.free v
                  have HB' : Hid (SetAt (wr.setCell ⟨w.heap.size + 1, v, none⟩ (.bool true)) (w.heap.size + 1) (putF g v true)) := HBs.out.put _ _
                  have HA' : Hid (SetAt (wr.setCell ⟨w.heap.size + 1, v, none⟩ (.bool true)) w.heap.size noneF) := HA.out.other _ (by show w.heap.size ≠ w.heap.size + 1; omega)
                  have HBl' : Hid (Below w.heap.size w (wr.setCell ⟨w.heap.size + 1, v, none⟩ (.bool true))) := HBl.out.setCell (by show w.heap.size ≤ w.heap.size + 1; omega) _
                  have HG' := rng_step HG hv1
                  go_wp2_with fail
                  go_roundw
                  case rel => exact ⟨v + 1, _, by omega, by omega, by go_num, HB', HG', HA', HBl'⟩
                  case measure => simp [intOf]; omega
                · have i3 : ¬ (v : Int) ≤ (Q i : Int) := by omega
                  obtain rfl : v = Q i + 1 := by omega
                  have HI3 := HIh.out g HG
                  go_wp2_with fail
                  go_roundw
                  case rel => exact ⟨i + 3, g, by omega, by go_num, HI3, HBs, HA, HBl⟩
                  case measure => simp [intOf]; omega
            · have hsw' : ¬ (Q (i + 2) : Int) < (Q i : Int) := by omega
              have HLo : Hid (Q i = min (Q i) (Q (i + 2))) := by show _ = _; omega
              have HHi : Hid (Q (i + 2) = max (Q i) (Q (i + 2))) := by show _ = _; omega
              have HI' := fun g hg => scan_range (g := g) hp hP hlt2 H93 H92 H45 HLo HHi HI hg
              have HIh : Hid (∀ g, Hid (∀ c, c < 256 → g c = (f c || (decide (Q i ≤ c) && decide (c < Q (i + 2) + 1)))) → Hid (ScanI p 1 (i + 3) g)) := HI'
              clear HI'
              go_wp2_with fail
              go_loopw [9] (fun s9 wq => ∃ (v : Nat) (g : Nat → Bool), Q i ≤ v ∧ v ≤ Q (i + 2) + 1 ∧ s9 = .int .i64 v ∧ Hid (SetAt wq (w.heap.size + 1) g) ∧ Hid (∀ c, c < 256 → g c = (f c || (decide (Q i ≤ c) && decide (c < v)))) ∧ Hid (SetAt wq w.heap.size noneF) ∧ Hid (Below w.heap.size w wq)) (fun s9 _ => Q (i + 2) + 1 - (intOf s9).toNat)
              case atStart => exact ⟨Q i, f, by omega, by omega, rfl, HBs, rng_start, HA, HBl⟩
              case round =>
                clear HBs HA HBl ci ci1 ci2 A1 szr
                obtain ⟨v, g, hv1, hv2, rfl, HBs, HG, HA, HBl⟩ := hrel
                by_cases hv : v ≤ Q (i + 2)
                · have i3 : (v : Int) ≤ (Q (i + 2) : Int) := by omega
                  have hv256 : v < 256 := by omega
                  have i4 : (v : Int) < 256 := by omega
                  have cB := HBs.out.cell hv256
                  have fB := HBs.out.free v
                  have HB' : Hid (SetAt (wr.setCell ⟨w.heap.size + 1, v, none⟩ (.bool true)) (w.heap.size + 1) (putF g v true)) := HBs.out.put _ _
                  have HA' : Hid (SetAt (wr.setCell ⟨w.heap.size + 1, v, none⟩ (.bool true)) w.heap.size noneF) := HA.out.other _ (by show w.heap.size ≠ w.heap.size + 1; omega)
                  have HBl' : Hid (Below w.heap.size w (wr.setCell ⟨w.heap.size + 1, v, none⟩ (.bool true))) := HBl.out.setCell (by show w.heap.size ≤ w.heap.size + 1; omega) _
                  have HG' := rng_step HG hv1
                  go_wp2_with fail
                  go_roundw
                  case rel => exact ⟨v + 1, _, by omega, by omega, by go_num, HB', HG', HA', HBl'⟩
                  case measure => simp [intOf]; omega
                · have i3 : ¬ (v : Int) ≤ (Q (i + 2) : Int) := by omega
                  obtain rfl : v = Q (i + 2) + 1 := by omega
                  have HI3 := HIh.out g HG
                  go_wp2_with fail
                  go_roundw
                  case rel => exact ⟨i + 3, g, by omega, by go_num, HI3, HBs, HA, HBl⟩
                  case measure => simp [intOf]; omega
          · have HI' := scan_one hp hP hlt H93 H92 hrg HI
            have ht3 : ¬ i + 2 < len ∨ (i + 2 < len ∧ ((Q (i + 1) : Int) == 45) = false ∧ wr.cell? ⟨b, off + (i + 1), none⟩ = some (.int .u8 (Q (i + 1) : Int))) := by
              by_cases e : i + 2 < len
              · exact .inr ⟨e, by simp; intro h; exact hrg ⟨e, by omega⟩, cell_later' HBl.out hb (hc.out (i + 1) (by omega))⟩
              · exact .inl e
            clear hrg
            have cB := HBs.out.cell hqi
            have fB := HBs.out.free (Q i)
            have HB' : Hid (SetAt (wr.setCell ⟨w.heap.size + 1, Q i, none⟩ (.bool true)) (w.heap.size + 1) (putF f (Q i) true)) := HBs.out.put _ _
            have HA' : Hid (SetAt (wr.setCell ⟨w.heap.size + 1, Q i, none⟩ (.bool true)) w.heap.size noneF) := HA.out.other _ (by show w.heap.size ≠ w.heap.size + 1; omega)
            have HBl' : Hid (Below w.heap.size w (wr.setCell ⟨w.heap.size + 1, Q i, none⟩ (.bool true))) := HBl.out.setCell (by show w.heap.size ≤ w.heap.size + 1; omega) _
            rcases ht2 with ht2 | ⟨ht2, ht2'⟩
            all_goals
              rcases ht3 with ht3 | ⟨ht3, ht3', ci1⟩
              all_goals (try (exfalso; omega))
              all_goals
                go_wp2_with fail
                go_roundw
                case rel => exact ⟨i + 1, _, by omega, by go_num, HI', HB', HA', HBl'⟩
                case measure => simp [intOf]; omega
      · rcases exit_ways hcont with ⟨hlt, h93⟩ | hge
        · have ci := cell_later' HBl.out hb (hc.out i hlt)
          have t1 : ((Q i : Int) != 93) = false := by simp; omega
          have i1 : (i : Int) < (len : Int) := by omega
          have H93 : Hid (Q i = 93) := h93
          clear h93
          · have A1 := HA.out.lt
            have B1 := HBs.out.lt
            obtain ⟨C, hC⟩ : ∃ C, wr.heap.size = C := ⟨_, rfl⟩
            have HN : Hid (SetAt (wr.alloc (.cells (setA noneF) 42)) C noneF) := by rw [← hC]; exact SetAt.new _ _
            rw [hC] at A1 B1 szr
            go_wp2_with fail
            go_loopw [12] (fun s12 wq => ∃ (k : Nat) (g : Nat → Bool), k ≤ 256 ∧ s12 = .int .i64 k ∧ Hid (SetAt wq C g) ∧ Hid (∀ c, c < 256 → g c = if c < k then (f c != false) else false) ∧ Hid (SetAt wq (w.heap.size + 1) f) ∧ Hid (SetAt wq w.heap.size noneF) ∧ Hid (Below w.heap.size w wq)) (fun s12 _ => 256 - (intOf s12).toNat)
            case atStart => exact ⟨0, noneF, by omega, rfl, HN, fun c _ => by simp [noneF], HBs.out.alloc _, HA.out.alloc _, HBl.out.alloc (by omega) _⟩
            case round =>
              obtain ⟨k, g, hk, rfl, HC, HG, HB2, HA2, HBl2⟩ := hrel
              by_cases hk2 : k < 256
              · have i2 : (k : Int) < 256 := by omega
                have cB := HB2.out.cell hk2
                have cC := HC.out.cell hk2
                have fC := HC.out.free k
                have ST := fill_step (ng := false) (k := k) HC HG HB2 HA2 HBl2 (by omega) (by omega) (by omega)
                go_wp2_with fail
                go_roundw
                case rel => exact ⟨k + 1, _, by omega, by go_num, (ST.out _ (by simp)).1, (ST.out _ (by simp)).2.1, (ST.out _ (by simp)).2.2.1, (ST.out _ (by simp)).2.2.2.1, (ST.out _ (by simp)).2.2.2.2⟩
                case measure => simp [intOf]; omega
              · have i2 : ¬ (k : Int) < 256 := by omega
                have HF : Hid (∀ c : Nat, c < 256 → g c = ((clsAt p c 1 false).1 != false)) := fill_end hk HG (by omega) (exit_close hp hP hlt H93 HI)
                have HW := width_end (exit_close hp hP hlt H93 HI)
                go_wp2_with (first | (refine wpList_load_row rfl 42 (.tmp 11) rfl C rfl 42 (setA g) (0, 0) _ HC.out Try.underlying42 rfl (by rw [setA_size]; exact size42) ?_) | (refine wpList_store_row rfl 42 (.tmp 2) (.tmp 117) rfl w.heap.size rfl (setA g) rfl 42 (setA noneF) HA2.out (by rw [setA_size]; exact size42) (by rw [setA_size, setA_size]) (setA_one g) ?_))
                refine bodyPost_ret (v := .tuple #[.agg (setA g), .int .i64 ((i : Int) + 1)]) ?_ rfl ⟨g, i + 1, rfl, HF.out, HW.out, below_setRow HBl2.out (Nat.le_refl _) _⟩
                exact res_set wr HA2.out rfl rfl rfl
        · have i1 : ¬ (i : Int) < (len : Int) := by omega
          · have A1 := HA.out.lt
            have B1 := HBs.out.lt
            obtain ⟨C, hC⟩ : ∃ C, wr.heap.size = C := ⟨_, rfl⟩
            have HN : Hid (SetAt (wr.alloc (.cells (setA noneF) 42)) C noneF) := by rw [← hC]; exact SetAt.new _ _
            rw [hC] at A1 B1 szr
            go_wp2_with fail
            go_loopw [12] (fun s12 wq => ∃ (k : Nat) (g : Nat → Bool), k ≤ 256 ∧ s12 = .int .i64 k ∧ Hid (SetAt wq C g) ∧ Hid (∀ c, c < 256 → g c = if c < k then (f c != false) else false) ∧ Hid (SetAt wq (w.heap.size + 1) f) ∧ Hid (SetAt wq w.heap.size noneF) ∧ Hid (Below w.heap.size w wq)) (fun s12 _ => 256 - (intOf s12).toNat)
            case atStart => exact ⟨0, noneF, by omega, rfl, HN, fun c _ => by simp [noneF], HBs.out.alloc _, HA.out.alloc _, HBl.out.alloc (by omega) _⟩
            case round =>
              obtain ⟨k, g, hk, rfl, HC, HG, HB2, HA2, HBl2⟩ := hrel
              by_cases hk2 : k < 256
              · have i2 : (k : Int) < 256 := by omega
                have cB := HB2.out.cell hk2
                have cC := HC.out.cell hk2
                have fC := HC.out.free k
                have ST := fill_step (ng := false) (k := k) HC HG HB2 HA2 HBl2 (by omega) (by omega) (by omega)
                go_wp2_with fail
                go_roundw
                case rel => exact ⟨k + 1, _, by omega, by go_num, (ST.out _ (by simp)).1, (ST.out _ (by simp)).2.1, (ST.out _ (by simp)).2.2.1, (ST.out _ (by simp)).2.2.2.1, (ST.out _ (by simp)).2.2.2.2⟩
                case measure => simp [intOf]; omega
              · have i2 : ¬ (k : Int) < 256 := by omega
                have HF : Hid (∀ c : Nat, c < 256 → g c = ((clsAt p c 1 false).1 != false)) := fill_end hk HG (by omega) (exit_end hp hge HI)
                have HW := width_end (exit_end hp hge HI)
                go_wp2_with (first | (refine wpList_load_row rfl 42 (.tmp 11) rfl C rfl 42 (setA g) (0, 0) _ HC.out Try.underlying42 rfl (by rw [setA_size]; exact size42) ?_) | (refine wpList_store_row rfl 42 (.tmp 2) (.tmp 117) rfl w.heap.size rfl (setA g) rfl 42 (setA noneF) HA2.out (by rw [setA_size]; exact size42) (by rw [setA_size, setA_size]) (setA_one g) ?_))
                refine bodyPost_ret (v := .tuple #[.agg (setA g), .int .i64 ((i : Int))]) ?_ rfl ⟨g, i, rfl, HF.out, HW.out, below_setRow HBl2.out (Nat.le_refl _) _⟩
                exact res_set wr HA2.out rfl rfl rfl
  · have h1' : ¬ (1 : Int) < (len : Int) := by omega
    go_enter Try.func30, Try.ntmps30
    go_wp2_with fail
    go_loopw [6] (fun s6 wr => ∃ (i : Nat) (f : Nat → Bool), len ≤ i ∧ i ≤ len ∧ s6 = .int .i64 i ∧ Hid (ScanI p 1 i f) ∧ Hid (SetAt wr (w.heap.size + 1) f) ∧ Hid (SetAt wr w.heap.size noneF) ∧ Hid (Below w.heap.size w wr)) (fun s6 _ => len - (intOf s6).toNat)
    case atStart => exact ⟨1, noneF, by omega, by omega, rfl, fun _ _ => rfl, st1 w, st0 w, st2 w⟩
    case round =>
      obtain ⟨i, f, hge, hi, rfl, HI, HBs, HA, HBl⟩ := hrel
      have szr := HBl.out.size
      have i1 : ¬ (i : Int) < (len : Int) := by omega
      · have A1 := HA.out.lt
        have B1 := HBs.out.lt
        obtain ⟨C, hC⟩ : ∃ C, wr.heap.size = C := ⟨_, rfl⟩
        have HN : Hid (SetAt (wr.alloc (.cells (setA noneF) 42)) C noneF) := by rw [← hC]; exact SetAt.new _ _
        rw [hC] at A1 B1 szr
        go_wp2_with fail
        go_loopw [12] (fun s12 wq => ∃ (k : Nat) (g : Nat → Bool), k ≤ 256 ∧ s12 = .int .i64 k ∧ Hid (SetAt wq C g) ∧ Hid (∀ c, c < 256 → g c = if c < k then (f c != false) else false) ∧ Hid (SetAt wq (w.heap.size + 1) f) ∧ Hid (SetAt wq w.heap.size noneF) ∧ Hid (Below w.heap.size w wq)) (fun s12 _ => 256 - (intOf s12).toNat)
        case atStart => exact ⟨0, noneF, by omega, rfl, HN, fun c _ => by simp [noneF], HBs.out.alloc _, HA.out.alloc _, HBl.out.alloc (by omega) _⟩
        case round =>
          obtain ⟨k, g, hk, rfl, HC, HG, HB2, HA2, HBl2⟩ := hrel
          by_cases hk2 : k < 256
          · have i2 : (k : Int) < 256 := by omega
            have cB := HB2.out.cell hk2
            have cC := HC.out.cell hk2
            have fC := HC.out.free k
            have ST := fill_step (ng := false) (k := k) HC HG HB2 HA2 HBl2 (by omega) (by omega) (by omega)
            go_wp2_with fail
            go_roundw
            case rel => exact ⟨k + 1, _, by omega, by go_num, (ST.out _ (by simp)).1, (ST.out _ (by simp)).2.1, (ST.out _ (by simp)).2.2.1, (ST.out _ (by simp)).2.2.2.1, (ST.out _ (by simp)).2.2.2.2⟩
            case measure => simp [intOf]; omega
          · have i2 : ¬ (k : Int) < 256 := by omega
            have HF : Hid (∀ c : Nat, c < 256 → g c = ((clsAt p c 1 false).1 != false)) := fill_end hk HG (by omega) (exit_end hp hge HI)
            have HW := width_end (exit_end hp hge HI)
            go_wp2_with (first | (refine wpList_load_row rfl 42 (.tmp 11) rfl C rfl 42 (setA g) (0, 0) _ HC.out Try.underlying42 rfl (by rw [setA_size]; exact size42) ?_) | (refine wpList_store_row rfl 42 (.tmp 2) (.tmp 117) rfl w.heap.size rfl (setA g) rfl 42 (setA noneF) HA2.out (by rw [setA_size]; exact size42) (by rw [setA_size, setA_size]) (setA_one g) ?_))
            refine bodyPost_ret (v := .tuple #[.agg (setA g), .int .i64 ((i : Int))]) ?_ rfl ⟨g, i, rfl, HF.out, HW.out, below_setRow HBl2.out (Nat.le_refl _) _⟩
            exact res_set wr HA2.out rfl rfl rfl

end Go.Proofs.Qxb6617818a
