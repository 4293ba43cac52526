/-
  THE WALK OF zzTokens. By an AI agent.
-/
import Derived.Test.Qxb6617818aToks
import Derived.Great.BuildSlice
import Derived.Great.FillDense
namespace Go.Proofs.Qxb6617818a
open Go.RowKit

theorem below_grown {w w' : World} (h : Below w.heap.size w w') : w.grownBy w' none := ⟨h.os, h.tape, h.output, h.size, fun k hk _ => h.block k hk⟩
theorem own_keep {w w' : World} {base e size n : Nat} {v : Value} {xs : List Value} (h : w.ownsRow base e size v n xs) (hb : Below w.heap.size w w') : w'.ownsRow base e size v n xs := by
  refine h.kept (below_grown hb) ?_
  rcases v.ownBlock with _ | g
  · exact .inl rfl
  · exact .inr (by simp)

/-! ### the list of tokens -/
def Corr : List (Bool × (Nat → Bool)) → List (Option (Int → Bool)) → Prop
  | [], [] => True
  | t :: ts, u :: us => CorrT t.1 t.2 u ∧ Corr ts us
  | _, _ => False
theorem corr_snoc {st : Bool} {f : Nat → Bool} {u : Option (Int → Bool)} (h2 : CorrT st f u) : ∀ (ts : List (Bool × (Nat → Bool))) (us : List (Option (Int → Bool))), Corr ts us → Corr (ts ++ [(st, f)]) (us ++ [u])
  | [], [], _ => ⟨h2, trivial⟩
  | _ :: ts, _ :: us, h => ⟨h.1, corr_snoc h2 ts us h.2⟩
  | [], _ :: _, h => h.elim
  | _ :: _, [], h => h.elim
def tokCells (ts : List (Bool × (Nat → Bool))) : List Value := ts.flatMap fun t => tokL t.1 t.2
theorem tokCells_snoc (ts : List (Bool × (Nat → Bool))) (st : Bool) (f : Nat → Bool) : tokCells (ts ++ [(st, f)]) = tokCells ts ++ tokL st f := by simp [tokCells]
def TokRel (p : List Int) (i : Nat) (ts : List (Bool × (Nat → Bool))) : Prop := ∃ us, toks p = us ++ toks (p.drop i) ∧ Corr ts us
theorem rel_step {p : List Int} {i i' : Nat} {ts : List (Bool × (Nat → Bool))} {st : Bool} {f : Nat → Bool} (h : TokRel p i ts) (hs : TokStep p i i' st f) : TokRel p i' (ts ++ [(st, f)]) := by
  obtain ⟨us, e, hc⟩ := h
  obtain ⟨u, e2, hu⟩ := hs
  exact ⟨us ++ [u], by rw [e, e2]; simp, corr_snoc hu ts us hc⟩
theorem rel_end {p : List Int} {i : Nat} {ts : List (Bool × (Nat → Bool))} (h : TokRel p i ts) (hi : p.length ≤ i) : Corr ts (toks p) := by
  obtain ⟨us, e, hc⟩ := h
  rw [List.drop_of_length_le hi, toks_nil, List.append_nil] at e
  rw [e]; exact hc
theorem tok_cells_new (w : World) (st : Bool) (f : Nat → Bool) : ∀ j u, (tokL st f)[j]? = some u → (w.alloc (.cells (tokA st f) 44)).cell? ((⟨w.heap.size, 0, none⟩ : Addr).add j) = some u := by
  intro j u hu
  rw [Addr.add_lit, Nat.zero_add, cell_of_row _ _ j _ 44 _ (heap_alloc_new w _)]
  simpa [tokA] using hu
theorem tokL_one (st : Bool) (f : Nat → Bool) : ∀ u ∈ tokL st f, u.oneCell' = true := by
  intro u hu
  simp only [tokL, List.mem_cons] at hu
  rcases hu with rfl | hu
  · rfl
  · exact setL_one f u hu

/-- how zzTokens ends -/
def TokEnd (p : List Int) (len : Nat) (w : World) (e : Ending) (w' : World) : Prop :=
  ∃ (v : Value) (ts : List (Bool × (Nat → Bool))), e = .returned v ∧ ts.length ≤ len ∧ w'.ownsRow w.heap.size 44 257 v ts.length (tokCells ts) ∧ Corr ts (toks p) ∧ Below w.heap.size w w'

/-- what the switch leaves: the token at block T, the index behind it -/
def SwEnd (p : List Int) (len i T : Nat) (wr : World) (s4 : Value) (wx : World) : Prop :=
  ∃ (i' : Nat) (st : Bool) (f : Nat → Bool), i < i' ∧ i' ≤ len ∧ s4 = .int .i64 i' ∧ TokAt wx T st f ∧ Below wr.heap.size wr wx ∧ TokStep p i i' st f

theorem all_step {k : Nat} {f : Nat → Bool} (h : Hid (∀ c, c < 256 → f c = decide (c < k))) : Hid (∀ c, c < 256 → putF f k true c = decide (c < k + 1)) := by
  intro c hc
  by_cases e : c = k
  · subst e; simp [putF]
  · simp only [putF, if_neg e]
    rw [h.out c hc]
    have : (c < k + 1) = (c < k) := by apply propext; omega
    simp only [this]

theorem shift_Q {p : List Int} {Q : Nat → Nat} {len i : Nat} (hp : Hid (p.length = len)) (hP : Hid (∀ j, p.getD j 0 = (Q j : Int))) (hlt : i < len) : ∀ j, ((Q i : Int) :: p.drop (i + 1)).getD j 0 = (Q (i + j) : Int) := by
  intro j
  rw [← drop_Q hp hP hlt, ← hP.out (i + j)]
  simp [List.getD]

theorem fill_tok (st : Bool) (f : Nat → Bool) (ie : TypeInfo) (hs : ie.size = 257) (base : Array Value) (hb : base.size = 257) : Instr.fill (fun i => some (i * ie.size, ie.size)) base [(0, Value.agg (tokA st f))] = some (tokA st f) := by
  rw [hs]
  have := Great.fill_whole (s := 257) (by omega) [Value.agg (tokA st f)] base (by intro v hv; simp at hv; subst hv; exact tokA_size st f) (by simp [hb])
  simpa [Value.cells] using this

theorem fill_tok' (st : Bool) (f : Nat → Bool) (ie : TypeInfo) (hs : ie.size = 257) (base : Array Value) (a : Act) (ha : a.eval (.tmp 76) = .agg (tokA st f)) (hb : base.size = 257) :
    Instr.fill (fun i => some (i * ie.size, ie.size)) base (Array.map (fun (x : Nat × Operand) => match x with | (i, x) => (i, a.eval x)) #[(0, Operand.tmp 76)]).toList = some (tokA st f) := by
  have := fill_tok st f ie hs base hb
  simpa [ha] using this

/-! ### an array stored into the middle of a block: a law for the walk -/
theorem run_storeVar_off {P : Program} (w : World) (g off : Nat) (t ty : TypeId) (old cs : Array Value) (hg : w.heap[g]? = some (.cells old t (0, 0))) (hi : (P.info? ty).map (·.size) = some cs.size) (hs : off + cs.size ≤ old.size) (h1 : cs.all (·.oneCell') = true) :
    (storeVar ty ⟨g, off, none⟩ (.agg cs)).run P w = .ok () (w.setRow g (old.toList.take off ++ cs.toList ++ old.toList.drop (off + cs.size)).toArray) := by
  have := run_storeCells_at (P := P) g off t cs.toList 0 old w hg (by simp; omega) (fun v hv => (Array.all_eq_true_iff_forall_mem.1 h1) v (by simpa using hv))
  cases hq : P.info? ty with
  | none => simp [hq] at hi
  | some i =>
    have hs : cs.size = i.size := by simp [hq] at hi; omega
    simp [storeVar, sizeOf, typeInfo, hq, Value.cells, hs]
    simpa [hs] using this
theorem wpList_store_off {P : Program} {w : World} {ops : Array Oper} {rest : List Oper} {o : Oper} {a : Act} {Q : Exit → Act → World → Prop} (hgd : o.guard = none) (ty : TypeId) (x y : Operand) (ho : o.op = .store ty x y)
    (g off : Nat) (hx : a.eval x = .pointer (some ⟨g, off, none⟩)) (cs : Array Value) (hy : a.eval y = .agg cs) (t : TypeId) (old : Array Value) (hg : w.heap[g]? = some (.cells old t (0, 0)))
    (hi : (P.info? ty).map (·.size) = some cs.size) (hs : off + cs.size ≤ old.size) (h1 : cs.all (·.oneCell') = true)
    (h : wpList P ops Q rest (a.put o.dst undef) (w.setRow g (old.toList.take off ++ cs.toList ++ old.toList.drop (off + cs.size)).toArray)) : wpList P ops Q (o :: rest) a w := by
  refine wpList_plain hgd fun K hK => ?_
  unfold Oper.wp execOp
  simp only [ho, hx, hy, Instr.storeAt, Instr.sureAddr, Sem.run_bind, Sem.run_pure, Result.andThen_ok, run_storeVar_off w g off t ty old cs hg hi hs h1]
  exact hK _ _ h
theorem tok_filled (s : Bool) (f g : Nat → Bool) : ((tokA s f).toList.take 1 ++ (setA g).toList ++ (tokA s f).toList.drop (1 + (setA g).size)).toArray = tokA s g := by
  rw [setA_size]
  simp only [tokA, setA, tokL]
  have : List.drop (1 + 256) (Value.bool s :: setL f) = [] := List.drop_of_length_le (by simp [setL_length])
  simp [this]

set_option maxRecDepth 100000 in
set_option maxHeartbeats 2000000 in
theorem toks_walk (b off len cap : Nat) (p : List Int) (Q : Nat → Nat) (w : World) (hp : Hid (p.length = len)) (hP : Hid (∀ j, p.getD j 0 = (Q j : Int))) (hQ : Hid (∀ j, Q j < 256)) (hm : len ≤ 10000) (hlc : len ≤ cap) (hb : b < w.heap.size)
    (hc : Hid (∀ j, j < len → w.cell? ⟨b, off + j, none⟩ = some (.int .u8 (Q j : Int)))) :
    Calls Try.prog 25 #[.slice (some ⟨b, off, none⟩) len cap] w fun e w' => TokEnd p len w e w' := by
  have hz := zero44
  obtain ⟨it, hi44, hz0, hz1, hz2⟩ := info_parts info44
  go_enter Try.func25, Try.ntmps25
  go_wp2_with fail
  go_loopw [3, 4] (fun s3 s4 wr => ∃ (i : Nat) (ts : List (Bool × (Nat → Bool))), i ≤ len ∧ ts.length ≤ i ∧ s4 = .int .i64 i ∧ Hid (wr.ownsRow w.heap.size 44 257 s3 ts.length (tokCells ts)) ∧ Hid (TokRel p i ts) ∧ Hid (Below w.heap.size w wr)) (fun _ s4 _ => len - (intOf s4).toNat)
  case atStart => exact ⟨0, [], by omega, by simp, rfl, World.ownsRow_nil _ _ _ _, ⟨[], by simp, trivial⟩, Below.refl _ _⟩
  case round =>
    obtain ⟨i, ts, hi, hts, rfl, HO, HR, HBl⟩ := hrel
    obtain ⟨wo, rfl⟩ : ∃ wo : World, wo = wr := ⟨_, rfl⟩
    by_cases hlt : i < len
    · have i1 : (i : Int) < (len : Int) := by omega
      have ci := cell_later' HBl.out hb (hc.out i hlt)
      have szr := HBl.out.size
      have hbr : b < wo.heap.size := by omega
      have hqi := hQ.out i
      obtain ⟨T, hT⟩ : ∃ T, wo.heap.size = T := ⟨_, rfl⟩
      have HT : Hid (wo.heap.size = T) := hT
      have HT1 : Hid (TokAt (wo.alloc (.cells (tokA false noneF) 44)) T false noneF) := by rw [← hT]; exact TokAt.new _ _ _
      have HT2 : Hid (Below wo.heap.size wo (wo.alloc (.cells (tokA false noneF) 44))) := (Below.refl _ _).alloc (Nat.le_refl _) _
      rw [hT] at hbr szr
      go_upto_block 2 with fail
      go_cut [4, 6, 7, 8] (fun s4 _ _ _ wx => SwEnd p len i T wo s4 wx)
      case first =>
        generalize hwt : wo.alloc (.cells (tokA false noneF) 44) = wt at HT1 HT2 ⊢
        have hTt := HT1.out.lt
        have ci' : wt.cell? ⟨b, off + i, none⟩ = some (.int .u8 (Q i : Int)) := (HT2.out.cell (p := ⟨b, off + i, none⟩) (by rw [hT]; exact hbr)).trans ci
        clear hwt hT ci
        by_cases h42 : Q i = 42
        · have t42 : ((Q i : Int) == 42) = true := by simp; omega
          have HS := step_star hp hP hlt h42 noneF
          have HS' : Hid (TokStep p i (i + 1) true noneF) := HS
          have cS := HT1.out.star
          have fS := HT1.out.free 0
          have HA : Hid (TokAt (wt.setCell ⟨T, 0, none⟩ (.bool true)) T true noneF) := HT1.out.putStar true
          have HB : Hid (Below wo.heap.size wo (wt.setCell ⟨T, 0, none⟩ (.bool true))) := HT2.out.setCell (by rw [HT.out]; exact Nat.le_refl _) _
          clear h42 HS
          go_wp2_with fail
          go_meet
          case rel => exact ⟨i + 1, true, noneF, by omega, by omega, by go_num, HA.out, HB.out, HS'.out⟩
        · have t42 : ((Q i : Int) == 42) = false := by simp; omega
          by_cases h63 : Q i = 63
          · have t63 : ((Q i : Int) == 63) = true := by simp; omega
            have H63 : Hid (Q i = 63) := h63
            clear h42 h63
            go_wp2_with fail
            go_loopw [6] (fun s6 wq => ∃ (k : Nat) (f : Nat → Bool), k ≤ 256 ∧ s6 = .int .i64 k ∧ Hid (TokAt wq T false f) ∧ Hid (∀ c, c < 256 → f c = decide (c < k)) ∧ Hid (Below wo.heap.size wo wq)) (fun s6 _ => 256 - (intOf s6).toNat)
            case atStart => exact ⟨0, noneF, by omega, rfl, HT1, fun c _ => by simp [noneF], HT2⟩
            case round =>
              clear HT1 HT2 ci' hTt
              obtain ⟨k, f, hk, rfl, HA, HF, HB⟩ := hrel
              by_cases hk2 : k < 256
              · have i2 : (k : Int) < 256 := by omega
                have cC := HA.out.cell hk2
                have fC := HA.out.free (1 + k)
                have HA' : Hid (TokAt (wr.setCell ⟨T, 1 + k, none⟩ (.bool true)) T false (putF f k true)) := HA.out.put k true
                have HB' : Hid (Below wo.heap.size wo (wr.setCell ⟨T, 1 + k, none⟩ (.bool true))) := HB.out.setCell (by rw [HT.out]; exact Nat.le_refl _) _
                have HF' := all_step HF
                go_wp2_with fail
                go_roundw
                case rel => exact ⟨k + 1, _, by omega, by go_num, HA', HF', HB'⟩
                case measure => simp [intOf]; omega
              · have i2 : ¬ (k : Int) < 256 := by omega
                have HS : Hid (TokStep p i (i + 1) false f) := step_q hp hP hlt H63.out (fun c hc => by rw [HF.out c hc]; simp; omega)
                go_wp2_with fail
                go_meet
                case rel => exact ⟨i + 1, false, f, by omega, by omega, by go_num, HA.out, HB.out, HS.out⟩
          · have t63 : ((Q i : Int) == 63) = false := by simp; omega
            by_cases h91 : Q i = 91
            · have t91 : ((Q i : Int) == 91) = true := by simp; omega
              have hcp : ¬ cap = i := by omega
              have HK : Hid (Calls Try.prog 30 #[.slice (some ⟨b, off + i, none⟩) (len - i) (cap - i)] wt fun e w' => ∃ (f : Nat → Bool) (W : Nat), e = .returned (.tuple #[.agg (setA f), .int .i64 W]) ∧ (∀ c : Nat, c < 256 → f c = (mcl c (p.drop (i + 1))).1) ∧ W = (mcl 0 (p.drop (i + 1))).2 ∧ Below wt.heap.size wt w') :=
                classSet_any b (off + i) (len - i) (cap - i) (Q i : Int) (p.drop (i + 1)) (fun j => Q (i + j)) wt (by rw [List.length_drop, hp.out]; omega) (by omega) (shift_Q hp hP hlt) (fun j => hQ.out (i + j)) (by have := HT2.out.size; rw [HT.out] at this; omega) (fun j hj => by
                  have := (HT2.out.cell (p := ⟨b, off + (i + j), none⟩) (by rw [HT.out]; exact hbr)).trans (cell_later' HBl.out hb (hc.out (i + j) (by omega)))
                  rw [Nat.add_assoc]; exact this)
              have H91 : Hid (Q i = 91) := h91
              have hz42 := zero42
              clear h42 h63 h91
              go_wp2_with fail
              refine Calls.mono (Hid.out HK) ?_
              rintro e w1 ⟨f, W, rfl, hf, hW, b1⟩
              have HS : Hid (TokStep p i (i + W) false f) := step_cls hp hP hlt H91.out hW hf
              have hWb : 1 ≤ W ∧ i + W ≤ len := by
                have := mcl_bounds 0 (p.drop (i + 1))
                rw [← hW, List.length_drop, hp.out] at this
                omega
              have HA1 : Hid (TokAt w1 T false noneF) := HT1.out.below b1
              have HB1 : Hid (Below wo.heap.size wo w1) := HT2.out.trans (b1.mono HT2.out.size)
              have hT1 := HA1.out.lt
              clear hf hW b1 HT1 HT2 ci' hTt HK
              have hgT : (w1.alloc (.cells (setA f) 42)).heap[T]? = some (.cells (tokA false noneF) 44 (0, 0)) := (heap_alloc_old w1 _ hT1).trans HA1.out
              have HgT : Hid ((w1.alloc (.cells (setA f) 42)).heap[T]? = some (.cells (tokA false noneF) 44 (0, 0))) := hgT
              have HA2 : Hid (TokAt ((w1.alloc (.cells (setA f) 42)).setRow T (tokA false f)) T false f) := setRow_heap _ T _ _ 44 _ hgT
              have HB2 : Hid (Below wo.heap.size wo ((w1.alloc (.cells (setA f) 42)).setRow T (tokA false f))) := below_setRow (HB1.out.alloc HB1.out.size _) (by rw [HT.out]; exact Nat.le_refl _) _
              clear hgT
              go_wp2_with (first | (refine wpList_store_row rfl 42 (.tmp 7) (.tmp 48) rfl w1.heap.size rfl (setA f) rfl 42 (setA noneF) (heap_alloc_new w1 _) (by rw [setA_size]; exact size42) (by rw [setA_size, setA_size]) (setA_one f) ?_; rw [World.setRow_alloc_new]) | (refine wpList_load_row rfl 42 (.tmp 7) rfl w1.heap.size rfl 42 (setA f) (0, 0) _ (heap_alloc_new w1 _) Try.underlying42 rfl (by rw [setA_size]; exact size42) ?_) | (refine wpList_store_off rfl 42 (.tmp 51) (.tmp 50) rfl T 1 rfl (setA f) rfl 44 (tokA false noneF) HgT.out (by rw [setA_size]; exact size42) (by rw [setA_size, tokA_size]; omega) (setA_one f) ?_; rw [tok_filled]))
              go_meet
              case rel => exact ⟨i + W, false, f, by omega, by omega, by go_num, HA2.out, HB2.out, HS.out⟩
            · have t91 : ((Q i : Int) == 91) = false := by simp; omega
              by_cases h92 : Q i = 92
              · have t92 : ((Q i : Int) == 92) = true := by simp; omega
                by_cases hl1 : i + 1 < len
                · have i2 : (i : Int) + 1 < (len : Int) := by omega
                  have hq1 := hQ.out (i + 1)
                  have ci1 : wt.cell? ⟨b, off + (i + 1), none⟩ = some (.int .u8 (Q (i + 1) : Int)) := (HT2.out.cell (p := ⟨b, off + (i + 1), none⟩) (by rw [HT.out]; exact hbr)).trans (cell_later' HBl.out hb (hc.out (i + 1) hl1))
                  have cC := HT1.out.cell hq1
                  have fC := HT1.out.free (1 + Q (i + 1))
                  have HA' : Hid (TokAt (wt.setCell ⟨T, 1 + Q (i + 1), none⟩ (.bool true)) T false (putF noneF (Q (i + 1)) true)) := HT1.out.put _ true
                  have HB' : Hid (Below wo.heap.size wo (wt.setCell ⟨T, 1 + Q (i + 1), none⟩ (.bool true))) := HT2.out.setCell (by rw [HT.out]; exact Nat.le_refl _) _
                  have HS : Hid (TokStep p i (i + 2) false (putF noneF (Q (i + 1)) true)) := step_esc hp hP hl1 h92
                  clear h42 h63 h91 h92
                  go_wp2_with fail
                  go_meet
                  case rel => exact ⟨i + 2, false, _, by omega, by omega, by go_num, HA'.out, HB'.out, HS.out⟩
                · have i2 : ¬ (i : Int) + 1 < (len : Int) := by omega
                  have cC := HT1.out.cell (x := 92) (by omega)
                  have fC := HT1.out.free (1 + 92)
                  have HA' : Hid (TokAt (wt.setCell ⟨T, 1 + 92, none⟩ (.bool true)) T false (putF noneF 92 true)) := HT1.out.put _ true
                  have HB' : Hid (Below wo.heap.size wo (wt.setCell ⟨T, 1 + 92, none⟩ (.bool true))) := HT2.out.setCell (by rw [HT.out]; exact Nat.le_refl _) _
                  have HS : Hid (TokStep p i (i + 1) false (putF noneF 92 true)) := step_esc_end hp hP hlt hl1 h92
                  clear h42 h63 h91 h92
                  go_wp2_with fail
                  go_meet
                  case rel => exact ⟨i + 1, false, _, by omega, by omega, by go_num, HA'.out, HB'.out, HS.out⟩
              · have t92 : ((Q i : Int) == 92) = false := by simp; omega
                have cC := HT1.out.cell hqi
                have fC := HT1.out.free (1 + Q i)
                have HA' : Hid (TokAt (wt.setCell ⟨T, 1 + Q i, none⟩ (.bool true)) T false (putF noneF (Q i) true)) := HT1.out.put _ true
                have HB' : Hid (Below wo.heap.size wo (wt.setCell ⟨T, 1 + Q i, none⟩ (.bool true))) := HT2.out.setCell (by rw [HT.out]; exact Nat.le_refl _) _
                have HS : Hid (TokStep p i (i + 1) false (putF noneF (Q i) true)) := step_lit hp hP hlt h42 h63 h91 h92
                clear h42 h63 h91 h92
                go_wp2_with fail
                go_meet
                case rel => exact ⟨i + 1, false, _, by omega, by omega, by go_num, HA'.out, HB'.out, HS.out⟩
      case rest =>
        obtain ⟨i', st, f, hi1, hi2, rfl, hTA, hTB, hTS⟩ := hcut
        have HTA : Hid (TokAt wc T st f) := hTA
        have HTB : Hid (Below wo.heap.size wo wc) := hTB
        have HTS : Hid (TokStep p i i' st f) := hTS
        clear hTA hTB hTS HT1 HT2
        have szc : w.heap.size ≤ wc.heap.size := by have := HTB.out.size; rw [HT.out] at this; omega
        have HBc : Hid (Below w.heap.size w wc) := HBl.out.trans (HTB.out.mono (by rw [HT.out]; exact szr))
        have hown := own_keep HO.out HTB.out
        clear hT
        go_wp2_with (first
          | (refine wpList_load_row rfl 44 (.tmp 5) rfl T rfl 44 (tokA st f) (0, 0) _ HTA.out Try.underlying44 rfl (by rw [tokA_size]; exact size44) ?_)
          | (refine wpList_buildSlice rfl 39 44 1 #[(0, .tmp 76)] rfl (tokA st f) it (.agg (tokA false noneF)) Try.underlying39 hi44 hz0 (by rw [hz1]; omega) (by rw [hz1]; omega) ?_ ?_; (refine fill_tok' st f it hz1 _ _ rfl ?_; simp [hz1]))
          | (at_builtin; go_must (refine wpList_append_own _ rfl (.tmp 75) (.tmp 77) 39 rfl w.heap.size 44 it (.agg (tokA false noneF)) 257 257 Try.underlying39 hi44 hz0 hz1 hz2 (tokA_size _ _) (by decide) _ ts.length (tokCells ts) rfl (hown.alloc _) ⟨wc.heap.size, 0, none⟩ 1 1 (tokL st f) rfl (tokL_length st f) (tok_cells_new wc st f) (tokL_one st f) (by unfold maxLen; omega) (by omega) (by simp; omega) ?_)))
        intro v2 w2 own2 gr2 _
        have HO2 : Hid (w2.ownsRow w.heap.size 44 257 v2 (ts ++ [(st, f)]).length (tokCells (ts ++ [(st, f)]))) := by rw [tokCells_snoc]; simpa [Hid] using own2
        have HB2 : Hid (Below w.heap.size w w2) := (HBc.out.alloc szc _).grown gr2 (by simp; omega) (fun k hk => (hown.lt k hk).1)
        have HR2 : Hid (TokRel p i' (ts ++ [(st, f)])) := rel_step HR.out HTS.out
        clear own2 gr2 hown
        go_wp2_with fail
        go_roundw
        case rel => exact ⟨i', ts ++ [(st, f)], by omega, by simp; omega, rfl, HO2, HR2, HB2⟩
        case measure => simp [intOf]; omega
    · have i1 : ¬ (i : Int) < (len : Int) := by omega
      have HE : Hid (Corr ts (toks p)) := rel_end HR.out (by rw [hp.out]; omega)
      go_wp2_with fail
      go_ret
      exact ⟨_, ts, rfl, by omega, HO.out, HE.out, HBl.out⟩

end Go.Proofs.Qxb6617818a
