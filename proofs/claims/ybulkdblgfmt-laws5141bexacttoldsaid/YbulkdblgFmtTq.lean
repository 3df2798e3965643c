/-
  A queue of strings: a slice with an offset into a row of the call's own; its tail, an element appended.
-/
import Derived.Test.YbulkdblgFmtTn
import Derived.Laws.IdiomCopy
namespace Go.Proofs.YbulkdblgFmt
open Go.RowKit

/-- v is a slice of the strings xs; all its capacity lies in one block at or above B, and may be written. -/
def OwnQ (w : World) (B : Nat) (v : Value) (xs : List Value) : Prop :=
  ∃ g off cap, v = .slice (some ⟨g, off, none⟩) xs.length cap ∧ B ≤ g ∧ (∃ C sp, w.heap[g]? = some (.cells C 9 sp)) ∧ xs.length ≤ cap ∧ (∀ j, j < cap → (w.cell? ⟨g, off + j, none⟩).isSome = true ∧ w.frozen? ⟨g, off + j, none⟩ = false) ∧ ∀ j u, xs[j]? = some u → w.cell? ⟨g, off + j, none⟩ = some u

theorem OwnQ.kept {w w' : World} {B : Nat} {v : Value} {xs : List Value} {row : Option Nat} (h : OwnQ w B v xs) (hg : w.grownBy w' row) (hne : v.ownBlock ≠ row) : OwnQ w' B v xs := by
  obtain ⟨g, off, cap, rfl, h1, h2, h3, h4, h5⟩ := h
  obtain ⟨C, sp, h2'⟩ := h2
  have hb : w'.heap[g]? = w.heap[g]? := hg.block g (Array.getElem?_eq_some_iff.1 h2').1 hne
  refine ⟨g, off, cap, rfl, h1, ⟨C, sp, hb.trans h2'⟩, h3, fun j hj => ?_, fun j u hu => ?_⟩
  · rw [World.cell?_of_block (a := ⟨g, off + j, none⟩) hb, World.frozen?_of_block (a := ⟨g, off + j, none⟩) hb]; exact h4 j hj
  · rw [World.cell?_of_block (a := ⟨g, off + j, none⟩) hb]; exact h5 j u hu

theorem OwnQ.tail {w : World} {B g off n cap : Nat} {x : Value} {xs : List Value} (h : OwnQ w B (.slice (some ⟨g, off, none⟩) n cap) (x :: xs)) : n = xs.length + 1 ∧ OwnQ w B (.slice (some ⟨g, off + 1, none⟩) xs.length (cap - 1)) xs := by
  obtain ⟨g', off', cap', e, h1, h2, h3, h4, h5⟩ := h
  simp only [Value.slice.injEq, Option.some.injEq, Addr.mk.injEq, and_true] at e
  obtain ⟨⟨rfl, rfl⟩, rfl, rfl⟩ := e
  refine ⟨by simp, g, off + 1, cap - 1, rfl, h1, h2, by simp at h3; omega, fun j hj => ?_, fun j u hu => ?_⟩
  · have := h4 (j + 1) (by omega)
    rw [show off + 1 + j = off + (j + 1) by omega]; exact this
  · rw [show off + 1 + j = off + (j + 1) by omega]
    exact h5 (j + 1) u (by simpa using hu)

theorem heap_set9 {w : World} {g : Nat} {C : Array Value} {t : TypeId} {sp : Nat × Nat} (h : w.heap[g]? = some (.cells C t sp)) (o : Nat) (v : Value) : (w.setCell ⟨g, o, none⟩ v).heap[g]? = some (.cells (C.setIfInBounds o v) t sp) := by
  simp [World.setCell, Array.getElem?_modify, h]
theorem info9 : (Ybaf.prog.info? 9).map (fun i => (i.zero, i.size, i.bytes)) = some (some (.string ⟨#[]⟩), 1, 16) := by kernel_rfl

theorem append_room1 {P : Program} (w : World) (t ty e : TypeId) (i : TypeInfo) (ht : P.underlying t = some (.slice e)) (hi : P.info? e = some i) (hs : i.size = 1)
    (g off n cap ab : Nat) (c : Nat) (x : Value) (hx : w.cell? ⟨ab, 0, none⟩ = some x) (h1 : x.oneCell' = true) (hroom : n + 1 ≤ cap) (hsome : (w.cell? ⟨g, off + n, none⟩).isSome = true) (hfz : w.frozen? ⟨g, off + n, none⟩ = false) :
    (Builtin.append_ #[t, t] ty #[.slice (some ⟨g, off, none⟩) n cap, .slice (some ⟨ab, 0, none⟩) 1 c]).run P w = .ok (.slice (some ⟨g, off, none⟩) (n + 1) cap) (w.setCell ⟨g, off + n, none⟩ x) := by
  have hf := run_firstCells_some (P := P) w 1 1 ⟨ab, 0, none⟩ 1 c [x] rfl (fun j u hu => by
    cases j with
    | zero => simp at hu; subst hu; simpa [WideShapes.add_plain] using hx
    | succ j => simp at hu)
  have hst := run_storeCells_cells (P := P) g (off + n) [x] 0 w (fun j hj => by simp at hj; subst hj; simpa using hsome) (fun j hj => by simp at hj; subst hj; simpa using hfz) (fun v hv => by simp at hv; subst hv; exact h1)
  simp only [Nat.add_zero, World.setCells] at hst
  simp [Builtin.append_, run_underlying ht, sizeOf, typeInfo, hi, hs, Builtin.lenOf, hroom, hf, WideShapes.add_plain, hst]

/-- One string appended. -/
theorem OwnQ.push {w : World} {B : Nat} {v : Value} {xs : List Value} (h : OwnQ w B v xs) (ab c : Nat) (s : ByteArray) (hx : w.cell? ⟨ab, 0, none⟩ = some (.string s)) (hl : xs.length ≤ 900000) (hB : B ≤ w.heap.size) :
    ∃ v' w', (∀ ty, (Builtin.append_ #[82, 82] ty #[v, .slice (some ⟨ab, 0, none⟩) 1 c]).run Ybaf.prog w = .ok v' w') ∧ OwnQ w' B v' (xs ++ [.string s]) ∧ w.grownBy w' v.ownBlock ∧ (∃ g' n' c', v' = .slice (some ⟨g', n', none⟩) (xs.length + 1) c') := by
  obtain ⟨i0, hi, hz0, hz1, hz2⟩ := info_parts info9
  obtain ⟨g, off, cap, rfl, h1, h2, h3, h4, h5⟩ := h
  by_cases hroom : xs.length + 1 ≤ cap
  · obtain ⟨hs1, hs2⟩ := h4 xs.length (by omega)
    obtain ⟨C, sp, h2'⟩ := h2
    refine ⟨_, _, fun ty => append_room1 w 82 ty 9 i0 Ybaf.underlying82 hi hz1 g off xs.length cap ab c (.string s) hx rfl hroom hs1 hs2, ?_, ?_, ⟨_, _, _, rfl⟩⟩
    · refine ⟨g, off, cap, by simp, h1, ⟨_, _, heap_set9 h2' _ _⟩, by simp; omega, fun j hj => ?_, fun j u hu => ?_⟩
      · rw [World.frozen?_setCell]
        refine ⟨?_, (h4 j hj).2⟩
        by_cases ej : j = xs.length
        · subst ej
          obtain ⟨u, hu⟩ := Option.isSome_iff_exists.1 hs1
          rw [World.cell?_setCell_same w ⟨g, off + xs.length, none⟩ _ hu]; rfl
        · rw [World.cell?_setCell_other w ⟨g, off + xs.length, none⟩ ⟨g, off + j, none⟩ _ (fun x => ej (by have := (Addr.mk.injEq .. ▸ x : _ ∧ _ ∧ _).2.1; omega))]
          exact (h4 j hj).1
      · by_cases ej : j = xs.length
        · subst ej
          simp at hu
          subst hu
          obtain ⟨u, hu⟩ := Option.isSome_iff_exists.1 hs1
          exact World.cell?_setCell_same w ⟨g, off + xs.length, none⟩ _ hu
        · rw [World.cell?_setCell_other w ⟨g, off + xs.length, none⟩ ⟨g, off + j, none⟩ _ (fun x => ej (by have := (Addr.mk.injEq .. ▸ x : _ ∧ _ ∧ _).2.1; omega))]
          have hj : j < xs.length := by
            have := (List.getElem?_eq_some_iff.1 hu).1
            simp at this; omega
          exact h5 j u (by rw [List.getElem?_append_left hj] at hu; exact hu)
    · exact ⟨rfl, rfl, rfl, by simp, fun k _ hne => Below.heap_setCell w ⟨g, off + xs.length, none⟩ _ k (fun e => hne (by rw [e]; rfl))⟩
  · have hrun := fun ty => run_append_grow (P := Ybaf.prog) w 82 ty 9 i0 _ Ybaf.underlying82 hi hz0 ⟨g, off, none⟩ xs.length cap xs (by rw [hz1]; simp) (fun j u hu => by rw [WideShapes.add_plain]; exact h5 j u hu) ⟨ab, 0, none⟩ 1 c [.string s] (by rw [hz1]; rfl)
      (fun j u hu => by
        cases j with
        | zero => simp at hu; subst hu; simpa [WideShapes.add_plain] using hx
        | succ j => simp at hu) (by omega) (by omega) (growslice_fits (by omega) (by rw [hz2]; omega))
    have hcap := grownCap_ge w (xs.length + 1) cap 9
    refine ⟨_, _, hrun, ?_, ?_, ⟨_, _, _, rfl⟩⟩
    · have hsize : (xs.toArray ++ [Value.string s].toArray ++ Builtin.zeroCells (Value.string ⟨#[]⟩).cells (grownCap w (xs.length + 1) cap 9 - (xs.length + 1))).size = grownCap w (xs.length + 1) cap 9 := by
        simp [size_zeroCells, Value.cells]; omega
      refine ⟨w.heap.size, 0, grownCap w (xs.length + 1) cap 9, by simp, hB, ⟨_, _, World.alloc_heap_new w.drew _⟩, by simp; omega, fun j hj => ?_, fun j u hu => ?_⟩
      · rw [Nat.zero_add, World.cell?_alloc_at (w := w.drew) _ _ w.heap.size j rfl, World.frozen?_alloc_at (w := w.drew) _ _ w.heap.size j rfl]
        exact ⟨by rw [Array.getElem?_eq_getElem (by rw [hsize]; exact hj)]; rfl, rfl⟩
      · rw [Nat.zero_add, World.cell?_alloc_at (w := w.drew) _ _ w.heap.size j rfl]
        have hj := (List.getElem?_eq_some_iff.1 hu).1
        simp at hj
        rw [Array.getElem?_append_left (by simp; omega)]
        have e2 : (xs.toArray ++ [Value.string s].toArray)[j]? = (xs ++ [Value.string s])[j]? := by simp
        rw [e2]; exact hu
    · exact ⟨rfl, rfl, rfl, by rw [World.size_alloc]; exact Nat.le_succ _, fun k hk _ => Below.heap_alloc w.drew _ k hk⟩
end Go.Proofs.YbulkdblgFmt
