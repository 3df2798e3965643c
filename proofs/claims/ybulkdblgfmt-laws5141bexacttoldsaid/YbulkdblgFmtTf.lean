/-
  LawS5141BExact: the input, the copy of the specs.
-/
import Derived.Test.YbulkdblgFmtTe
import Derived.OwnWalk
import Derived.Deep.CutBlock
import Derived.Deep.RegionWith
namespace Go.Proofs.YbulkdblgFmt
open Go.RowKit Go.Shelf Go.Stop

/-- v is a slice of the bytes xs. -/
def SliceU (w : World) (v : Value) (xs : List Int) : Prop :=
  ∃ a cap, v = .slice a xs.length cap ∧ ∀ j x, xs[j]? = some x → 0 ≤ x ∧ x ≤ 255 ∧ ∃ b off, a = some ⟨b, off, none⟩ ∧ b < w.heap.size ∧ w.cell? ⟨b, off + j, none⟩ = some (.int .u8 x)

/-- The input, read: relation i has the operator's byte oB i, and the codes kS i, eS i; behind the slice's end nothing. -/
structure Given (w : World) (a0 : Option Addr) (len : Nat) (oB : Nat → Int) (kV eV : Nat → Value) (kS eS : Nat → List Int) : Prop where
  rows : ∀ i, i < len → ∃ b off, a0 = some ⟨b, off, none⟩ ∧ b < w.heap.size ∧ w.cell? ⟨b, off + i * 3, none⟩ = some (.int .u8 (oB i)) ∧ w.cell? ⟨b, off + i * 3 + 1, none⟩ = some (kV i) ∧ w.cell? ⟨b, off + i * 3 + 2, none⟩ = some (eV i)
  zero : ∀ i, len ≤ i → oB i = 0 ∧ kV i = .slice none 0 0 ∧ eV i = .slice none 0 0
  ob : ∀ i, 0 ≤ oB i ∧ oB i ≤ 255
  ke : ∀ i, SliceU w (kV i) (kS i)
  ex : ∀ i, SliceU w (eV i) (eS i)

/-- Row i of the specs. -/
def Rw (W : World) (sb i : Nat) (o : Int) (k e : Value) : Prop := W.cell? ⟨sb, i * 3, none⟩ = some (.int .u8 o) ∧ W.cell? ⟨sb, i * 3 + 1, none⟩ = some k ∧ W.cell? ⟨sb, i * 3 + 2, none⟩ = some e

theorem info42 : (Ybaf.prog.info? 42).map (fun i => (i.zero, i.size, i.bytes)) = some (some (.agg #[.int .u8 0, .slice none 0 0, .slice none 0 0]), 3, 56) := by kernel_rfl
theorem made_get (n j c : Nat) (hj : j < n) (hc : c < 3) : (madeCells #[.int .u8 0, .slice none 0 0, .slice none 0 0] (n * 3)).toList[j * 3 + c]? = #[.int .u8 0, .slice none 0 0, .slice none 0 0][c]? := by
  have h1 : j * 3 + c < n * 3 := by omega
  have h2 : (j * 3 + c) % 3 = c := by omega
  simp only [madeCells, Array.toList_map, List.getElem?_map, Array.toList_range]
  rw [List.getElem?_range h1]
  simp only [Option.map_some, List.size_toArray, List.length_cons, List.length_nil, Nat.reduceAdd, h2]
  match c, hc with
  | 0, _ => rfl
  | 1, _ => rfl
  | 2, _ => rfl

abbrev putR (W : World) (g i : Nat) (a b c : Value) : World := ((W.setCell ⟨g, i * 3, none⟩ a).setCell ⟨g, i * 3 + 1, none⟩ b).setCell ⟨g, i * 3 + 2, none⟩ c
theorem putR_other (W : World) (g i p : Nat) (a b c : Value) (h : p < i * 3 ∨ i * 3 + 3 ≤ p) : (putR W g i a b c).cell? ⟨g, p, none⟩ = W.cell? ⟨g, p, none⟩ := by
  rw [putR, setC_other _ _ _ _ _ (by omega), setC_other _ _ _ _ _ (by omega), setC_other _ _ _ _ _ (by omega)]
theorem Rw.put {W : World} {g i : Nat} {o o' : Int} {k e k' e' : Value} (hi : Rw W g i o k e) : Rw (putR W g i (.int .u8 o') k' e') g i o' k' e' := by
  obtain ⟨h0, h1, h2⟩ := hi
  refine ⟨?_, ?_, ?_⟩
  · rw [putR, setC_other _ _ _ _ _ (by omega), setC_other _ _ _ _ _ (by omega)]
    exact World.cell?_setCell_same W ⟨g, i * 3, none⟩ _ h0
  · rw [putR, setC_other _ _ _ _ _ (by omega)]
    exact World.cell?_setCell_same _ ⟨g, i * 3 + 1, none⟩ _ ((setC_other _ _ _ _ _ (by omega)).trans h1)
  · exact World.cell?_setCell_same _ ⟨g, i * 3 + 2, none⟩ _ (((setC_other _ _ _ _ _ (by omega)).trans (setC_other _ _ _ _ _ (by omega))).trans h2)
theorem Rw.putO {W : World} {g i j : Nat} {o : Int} {k e a b c : Value} (hj : Rw W g j o k e) (hne : j ≠ i) : Rw (putR W g i a b c) g j o k e :=
  ⟨(putR_other W g i _ a b c (by omega)).trans hj.1, (putR_other W g i _ a b c (by omega)).trans hj.2.1, (putR_other W g i _ a b c (by omega)).trans hj.2.2⟩

/-- The specs, the first i rows of them copied. -/
structure Spc (w : World) (n : Nat) (oB : Nat → Int) (kV eV : Nat → Value) (i : Nat) (W : World) : Prop where
  blk : ∃ C, W.heap[w.heap.size]? = some (.cells C 42 (0, 0))
  old : ∀ j, j < n → j < i → Rw W w.heap.size j (oB j) (kV j) (eV j)
  new : ∀ j, j < n → i ≤ j → Rw W w.heap.size j 0 (.slice none 0 0) (.slice none 0 0)
  bel : Below w.heap.size w W

theorem Spc.frozen {w W : World} {n i : Nat} {oB : Nat → Int} {kV eV : Nat → Value} (h : Spc w n oB kV eV i W) (o : Nat) : W.frozen? ⟨w.heap.size, o, none⟩ = false := by
  obtain ⟨C, hC⟩ := h.blk
  simp [World.frozen?, hC]
theorem Spc.lt {w W : World} {n i : Nat} {oB : Nat → Int} {kV eV : Nat → Value} (h : Spc w n oB kV eV i W) : w.heap.size < W.heap.size := by
  obtain ⟨C, hC⟩ := h.blk
  exact (Array.getElem?_eq_some_iff.1 hC).1
theorem Spc.start {w W : World} {n : Nat} {oB : Nat → Int} {kV eV : Nat → Value} (h : W.ownsRow w.heap.size 42 3 (.slice (some ⟨w.heap.size, 0, none⟩) n n) n (madeCells (Value.agg #[.int .u8 0, .slice none 0 0, .slice none 0 0]).cells (n * 3)).toList) (hg : w.grownBy W none) : Spc w n oB kV eV 0 W := by
  rcases h.2 with ⟨e, _⟩ | ⟨g, cap, cur, e, h1, h2, h3, h4, h5, h6⟩
  · cases e
  · simp only [Value.slice.injEq, Option.some.injEq, Addr.mk.injEq, and_true] at e
    obtain ⟨rfl, _, rfl⟩ := e
    have hc : ∀ j c, j < n → c < 3 → W.cell? ⟨w.heap.size, j * 3 + c, none⟩ = #[.int .u8 0, .slice none 0 0, .slice none 0 0][c]? := fun j c hj hc => by
      have e1 : cur.toList[j * 3 + c]? = #[.int .u8 0, .slice none 0 0, .slice none 0 0][c]? := by
        have e2 := made_get n j c hj hc
        have e3 : (cur.toList.take (n * 3))[j * 3 + c]? = cur.toList[j * 3 + c]? := by rw [List.getElem?_take, if_pos (by omega)]
        rw [← e3, h6]
        exact e2
      simpa [World.cell?, h2] using e1
    exact ⟨⟨cur, h2⟩, fun j _ hj => absurd hj (Nat.not_lt_zero _), fun j hj _ => ⟨hc j 0 hj (by omega), hc j 1 hj (by omega), hc j 2 hj (by omega)⟩, (Below.refl _ w).grown hg (Nat.le_refl _) (fun k e => by cases e)⟩
theorem Spc.step {w W : World} {n i : Nat} {oB : Nat → Int} {kV eV : Nat → Value} (h : Spc w n oB kV eV i W) (hi : i < n) : Spc w n oB kV eV (i + 1) (putR W w.heap.size i (.int .u8 (oB i)) (kV i) (eV i)) := by
  obtain ⟨C, hC⟩ := h.blk
  refine ⟨⟨_, heap_set9 (heap_set9 (heap_set9 hC _ _) _ _) _ _⟩, fun j hj hji => ?_, fun j hj hji => (h.new j hj (by omega)).putO (by omega), ?_⟩
  · by_cases e : j = i
    · subst e; exact (h.new j hj (Nat.le_refl _)).put
    · exact (h.old j hj (by omega)).putO e
  · exact ((h.bel.setCell (p := ⟨w.heap.size, i * 3, none⟩) (Nat.le_refl _) _).setCell (p := ⟨w.heap.size, i * 3 + 1, none⟩) (Nat.le_refl _) _).setCell (p := ⟨w.heap.size, i * 3 + 2, none⟩) (Nat.le_refl _) _
theorem Spc.all {w W : World} {n i len : Nat} {a0 : Option Addr} {oB : Nat → Int} {kV eV : Nat → Value} {kS eS : Nat → List Int} (h : Spc w n oB kV eV i W) (hG : Given w a0 len oB kV eV kS eS) (hi : n ≤ i ∨ len ≤ i) : Spc w n oB kV eV n W :=
  ⟨h.blk, fun j hj _ => by
    by_cases e : j < i
    · exact h.old j hj e
    · obtain ⟨a, b, c⟩ := hG.zero j (by omega)
      have := h.new j hj (by omega)
      rwa [a, b, c], fun j hj hj' => by omega, h.bel⟩

end Go.Proofs.YbulkdblgFmt
