/-
  A SLICE OF BYTES AS A LIST OF NUMBERS, in a world: for the walks of the prefix laws and of the glob law. By an AI agent.
-/
import Derived.Test.Qxb6617818aPref
import Derived.Laws.CopyOwn
import Derived.OpenShut
import Derived.Deep.DeepCutAuto
import Derived.Deep.Cut
import Derived.Deep.CutRange
namespace Go.Proofs.Qxb6617818a
open Go.RowKit

/-- each number is a byte -/
def IsBytes (p : List Int) : Prop := ∀ n ∈ p, 0 ≤ n ∧ n ≤ 255
theorem IsBytes.at {p : List Int} (h : IsBytes p) (j : Nat) : 0 ≤ p.getD j 0 ∧ p.getD j 0 ≤ 255 := by
  by_cases hj : j < p.length
  · have : p.getD j 0 = p[j] := by simp [List.getD, hj]
    rw [this]; exact h _ (List.getElem_mem hj)
  · have : p.getD j 0 = 0 := by simp [List.getD, List.getElem?_eq_none (by omega : p.length ≤ j)]
    rw [this]; omega

/-- the slice value v reads as p: nil and empty; or it lies at an address -/
def View (w : World) (v : Value) (p : List Int) : Prop :=
  (v = .slice none 0 0 ∧ p = []) ∨ ∃ b off cap, v = .slice (some ⟨b, off, none⟩) p.length cap ∧ p.length ≤ cap ∧ b < w.heap.size ∧ ∀ j, j < p.length → w.cell? ⟨b, off + j, none⟩ = some (.int .u8 (p.getD j 0))

theorem View.below {w w' : World} {v : Value} {p : List Int} (h : View w v p) (hb : Below w.heap.size w w') : View w' v p := by
  rcases h with h | ⟨b, off, cap, hv, hc, hlt, hcell⟩
  · exact .inl h
  · exact .inr ⟨b, off, cap, hv, hc, Nat.lt_of_lt_of_le hlt hb.size, fun j hj => (hb.cell (p := ⟨b, off + j, none⟩) hlt).trans (hcell j hj)⟩

/-- what the walk is told of a slice that came in -/
def Src (w : World) (a : Option Addr) (len cap : Nat) (p : List Int) : Prop :=
  p.length = len ∧ (a = none → len = 0 ∧ cap = 0) ∧ ∀ ad, a = some ad → ∀ j u, (p.map (Value.int .u8))[j]? = some u → w.cell? (ad.add j) = some u

theorem Src.view_nil {w wx : World} {len cap : Nat} {p : List Int} (h : Src w none len cap p) : View wx (.slice none len cap) p := by
  obtain ⟨h1, h2, _⟩ := h
  obtain ⟨rfl, rfl⟩ := h2 rfl
  exact .inl ⟨rfl, List.eq_nil_of_length_eq_zero h1⟩
theorem Src.below {w w' : World} {a : Option Addr} {len cap : Nat} {p : List Int} (h : Src w a len cap p) (hb : Below w.heap.size w w') : Src w' a len cap p :=
  ⟨h.1, h.2.1, fun ad ha j u hu => (hb.cell (World.block_lt_of_cell? _ _ (h.2.2 ad ha j u hu))).trans (h.2.2 ad ha j u hu)⟩

/-- out of what the row's frame gives of a slice that came in -/
theorem src_of {w : World} {a : Option Addr} {len cap : Nat} {zs : List Int}
    (h : (a = none ∧ len = 0 ∧ cap = 0 ∧ zs = []) ∨ ∃ x, a = some x ∧ len ≤ cap ∧ cap ≤ maxLen ∧ zs.length = cap ∧ (∀ i, i < zs.length → w.cell? (x.add i) = some (.int .u8 (zs.getD i 0))) ∧ ∀ n ∈ zs, (Lit.int .u8 n).wf = true) :
    len ≤ maxLen ∧ Src w a len cap (zs.take len) ∧ IsBytes (zs.take len) := by
  rcases h with ⟨rfl, rfl, rfl, rfl⟩ | ⟨x, rfl, hlc, hcm, hzl, hcell, hwf⟩
  · exact ⟨by unfold maxLen; omega, ⟨rfl, fun _ => ⟨rfl, rfl⟩, fun ad h => by cases h⟩, fun n hn => by simp at hn⟩
  · have hr : (zs.take len).length = len := by rw [List.length_take]; omega
    refine ⟨by omega, ⟨hr, (fun h => by cases h), ?_⟩, ?_⟩
    · rintro ad ⟨⟩ j u hu
      have hj : j < len := by
        have := (List.getElem?_eq_some_iff.1 hu).1
        rw [List.length_map, hr] at this; exact this
      rw [hcell j (by omega), ← hu]
      simp [hj, List.getD, show j < zs.length by omega]
    · intro n hn
      have := hwf n (List.mem_of_mem_take hn)
      exact ⟨by have := bounds_u8 this; omega, by have := bounds_u8 this; omega⟩

theorem conv_view {w : World} {v : Value} {p : List Int} (h : View w v p) : (convert 22 9 v).run Try.prog w = .ok (.string (strOfNums p)) w := by
  rcases h with ⟨rfl, rfl⟩ | ⟨b, off, cap, rfl, hc, hlt, hcell⟩
  · exact run_convert_bytes_nil w 22 5 Try.underlying22 Try.underlying5 0 0 9 Try.underlying9
  · exact run_convert_bytes_arg w 22 5 Try.underlying22 Try.underlying5 b off p.length cap p rfl hcell 9 Try.underlying9

/-- the copy that was made -/
theorem view_copied {w : World} {g : Nat} {cur : List Value} {p : List Int} (hl : cur.length = p.length) (h : Hid (w.heap[g]? = some (.cells (splice cur 0 (p.map (Value.int .u8))).toArray 5 (0, 0)))) :
    View w (.slice (some ⟨g, 0, none⟩) p.length p.length) p := by
  have e : splice cur 0 (p.map (Value.int .u8)) = p.map (Value.int .u8) := by simp [splice, hl]
  have h' := h.out
  rw [e] at h'
  refine .inr ⟨g, 0, p.length, rfl, Nat.le_refl _, ?_, fun j hj => ?_⟩
  · rcases Nat.lt_or_ge g w.heap.size with h2 | h2
    · exact h2
    · rw [Array.getElem?_eq_none h2] at h'; cases h'
  · simp [World.cell?, h', hj, List.getD]

theorem own_cur {w : World} {base g n : Nat} {xs : List Value} (h : w.ownsRow base 5 1 (.slice (some ⟨g, 0, none⟩) n n) n xs) : ∃ cur : List Value, cur.length = n ∧ w.heap[g]? = some (.cells cur.toArray 5 (0, 0)) := by
  rcases h.2 with ⟨h', _⟩ | ⟨g', cap', cur, h', hb, hg, hnc, hcm, hcs, htake⟩
  · simp at h'
  · simp only [Value.slice.injEq, Option.some.injEq, Addr.mk.injEq, and_true, true_and] at h'
    obtain ⟨rfl, rfl⟩ := h'
    exact ⟨cur.toList, by simp [hcs], by simpa using hg⟩

/-! ### PrefixRange of a viewed slice -/
def toB (p : List Int) : List UInt8 := p.map fun n => UInt8.ofNat n.toNat
theorem toB_str (p : List Int) : (strOfNums p).data.toList = toB p := rfl

theorem ofNat_255 {x : Int} (h : 0 ≤ x ∧ x ≤ 255) : UInt8.ofNat x.toNat = 255 ↔ x = 255 := by
  constructor
  · intro e
    have := congrArg UInt8.toNat e
    rw [UInt8.toNat_ofNat'] at this
    have e2 : (255 : UInt8).toNat = 255 := rfl
    rw [e2] at this
    omega
  · intro e; subst e; rfl
theorem toB_getD (p : List Int) (j : Nat) : (toB p).getD j 0 = UInt8.ofNat (p.getD j 0).toNat := by
  simp only [toB, List.getD, List.getElem?_map]
  rcases p[j]? with _ | x <;> rfl

/-- what PrefixRange gives as its upper end -/
def MaxOf (p : List Int) (K : Int) (M : ByteArray) : Prop := (succL (toB p) = none ∧ K = 1 ∧ M = ⟨#[]⟩) ∨ (succL (toB p) = some M.data.toList ∧ K = 3)

theorem pref_any (v : Value) (p : List Int) (w : World) (hl : p.length ≤ 4096) (hr : IsBytes p) (hv : View w v p) :
    Calls Try.prog 20 #[v] w fun e w' => ∃ K M, e = .returned (.agg #[.int .i64 2, .string (strOfNums p), .int .i64 K, .string M]) ∧ MaxOf p K M ∧ M.size ≤ 4096 ∧ Below w.heap.size w w' := by
  rcases hv with ⟨rfl, rfl⟩ | ⟨b, off, cap, rfl, hc, hlt, hcell⟩
  · refine (pref_nil w).mono ?_
    rintro e w' ⟨rfl, hb⟩
    exact ⟨1, ⟨#[]⟩, rfl, .inl ⟨rfl, rfl, rfl⟩, by simp [ByteArray.size], hb⟩
  · refine (pref_walk b off p.length cap (fun j => p.getD j 0) (strOfNums p) w hl hc (fun _ => hlt) hcell (fun j => hr.at j) (fun o => ?_)).mono ?_
    · refine run_convert_bytes_arg _ 22 5 Try.underlying22 Try.underlying5 b off p.length cap p rfl (fun j hj => ?_) 9 Try.underlying9
      rw [World.cell?_alloc_past _ _ _ hlt]; exact hcell j hj
    · rintro e w' ⟨E, hE, h1, h2, hb, h3⟩
      have key := succL_at (toB p) E (by simpa [toB] using hE) (fun j hj hj2 => by
          rw [toB_getD]
          exact (ofNat_255 (hr.at j)).2 (h1 j hj (by simpa [toB] using hj2))) (fun h0 => by
          rw [toB_getD]
          exact fun e => h2 h0 ((ofNat_255 (hr.at _)).1 e))
      rcases h3 with ⟨rfl, rfl⟩ | ⟨h0, rfl⟩
      · exact ⟨1, ⟨#[]⟩, rfl, .inl ⟨key, rfl, rfl⟩, by simp [ByteArray.size], hb⟩
      · refine ⟨3, _, rfl, .inr ⟨?_, rfl⟩, ?_, hb⟩
        · rw [key, if_neg (by omega), toB_str]
          refine congrArg some ?_
          rw [toB_getD]
          simp only [toB, List.map_append, List.map_map, List.map_cons, List.map_nil]
          congr 1
          · apply List.ext_getElem?
            intro i
            by_cases hi : i < E - 1
            · simp [hi, show i < p.length by omega]
            · simp [List.getElem?_take, hi]
          · have := hr.at (E - 1)
            have e1 : (p.getD (E - 1) 0 + 1).toNat = (p.getD (E - 1) 0).toNat + 1 := by omega
            rw [e1]
            simp [UInt8.ofNat_add]
        · rw [strOfNums_size]; simp; omega

end Go.Proofs.Qxb6617818a
