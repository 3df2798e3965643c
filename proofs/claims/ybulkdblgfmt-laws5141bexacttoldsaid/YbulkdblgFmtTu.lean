/-
  The way back: the dependencies collected.
-/
import Derived.Test.YbulkdblgFmtTo
namespace Go.Proofs.YbulkdblgFmt
open Go.RowKit Go.Shelf

abbrev Dep := Fin 26 × Fin 26 × Bool
abbrev cellsOf3 (d : Dep) : List Value := [.string (nm d.1), .string (nm d.2.1), .bool d.2.2]
def cellsD (PD : List Dep) : List Value := PD.flatMap cellsOf3
theorem cellsD_length : ∀ PD, (cellsD PD).length = PD.length * 3
  | [] => rfl
  | d :: PD => by
    have := cellsD_length PD
    simp only [cellsD, List.flatMap_cons, List.length_append, List.length_cons, List.length_nil] at *
    omega
theorem cellsD_snoc (PD : List Dep) (d : Dep) : cellsD (PD ++ [d]) = cellsD PD ++ [.string (nm d.1), .string (nm d.2.1), .bool d.2.2] := by simp [cellsD]
theorem cellsD_get : ∀ (PD : List Dep) (i : Nat) (d : Dep), PD[i]? = some d → (cellsD PD)[i * 3]? = some (.string (nm d.1)) ∧ (cellsD PD)[i * 3 + 1]? = some (.string (nm d.2.1)) ∧ (cellsD PD)[i * 3 + 2]? = some (.bool d.2.2)
  | [], i, d, h => by simp at h
  | e :: PD, 0, d, h => by simp at h; subst h; exact ⟨rfl, rfl, rfl⟩
  | e :: PD, i + 1, d, h => by
    have := cellsD_get PD i d (by simpa using h)
    have e1 : cellsD (e :: PD) = .string (nm e.1) :: .string (nm e.2.1) :: .bool e.2.2 :: cellsD PD := rfl
    rw [e1, show (i + 1) * 3 = i * 3 + 1 + 1 + 1 by omega]
    exact this

structure Path (w : World) (m : Nat) (V : List (Fin 26)) (f : List UInt8 → Option Value) (ds : List Deferred) (PD : List Dep) (pv : Value) (W : World) : Prop where
  row : W.ownsRow (w.heap.size + 1) 84 3 pv PD.length (cellsD PD)
  nn : pv ≠ .slice none 0 0
  map : MapIs W w.heap.size V.length f
  box7 : Boxed W m 90 (.map (some w.heap.size))
  marks : Marks (w.heap.size + 1) W ds
  bel : Below w.heap.size w W

variable {w W : World} {m : Nat} {V : List (Fin 26)} {f : List UInt8 → Option Value} {ds : List Deferred} {PD : List Dep} {pv : Value}

theorem Path.start (hm : MapIs W w.heap.size V.length f) (hb : Boxed W m 90 (.map (some w.heap.size))) (hk : Marks (w.heap.size + 1) W ds) (hbel : Below w.heap.size w W) (hlt : w.heap.size < W.heap.size) :
    Path w m V f ds [] (.slice (some ⟨W.heap.size, 0, none⟩) 0 0) (W.alloc (.cells #[] 84)) :=
  ⟨⟨rfl, .inr ⟨W.heap.size, 0, #[], rfl, hlt, World.alloc_heap_new W _, Nat.le_refl _, Nat.zero_le _, rfl, rfl⟩⟩, by simp, hm.alloc _, hb.alloc _, hk.keep ((KeepsOthers.alloc W _).from _), hbel.alloc hbel.size _⟩

theorem Path.push {o : Obj} {v' : Value} {W' : World} {d : Dep} (h : Path w m V f ds PD pv W) (hr : W'.ownsRow (w.heap.size + 1) 84 3 v' (PD.length + 1) (cellsD PD ++ [.string (nm d.1), .string (nm d.2.1), .bool d.2.2])) (hg : (W.alloc o).grownBy W' pv.ownBlock)
    (hnil : ¬ v' = .slice none 0 0) : Path w m V f ds (PD ++ [d]) v' W' := by
  have hb : ∀ b, pv.ownBlock = some b → w.heap.size < b ∧ ∃ C, (W.alloc o).heap[b]? = some (.cells C 84 (0, 0)) := fun b e => by
    rcases h.row.2 with ⟨rfl, _⟩ | ⟨g, cap, cur, rfl, h1, h2, _⟩
    · cases e
    · have : g = b := Option.some.inj e
      subst this
      exact ⟨h1, cur, (Below.heap_alloc _ _ _ (Array.getElem?_eq_some_iff.1 h2).1).trans h2⟩
  refine ⟨?_, hnil, (h.map.alloc o).kept hg (fun e => by have := (hb _ e.symm).1; omega), (h.box7.alloc o).kept hg (fun e => ?_), ?_, (h.bel.alloc h.bel.size o).grown hg (by have := h.bel.size; simp; omega) (fun k e => Nat.le_of_lt (hb k e).1)⟩
  · rw [cellsD_snoc, List.length_append]; exact hr
  · obtain ⟨_, C, hC⟩ := hb _ e.symm
    have h7 := h.box7.alloc o
    rw [Boxed, hC] at h7
    cases h7
  · exact h.marks.keep (((KeepsOthers.alloc W o).trans (KeepsOthers.of_grownBy hg (fun j o' e ho => by obtain ⟨_, C, hC⟩ := hb j e; rw [hC] at ho; cases ho; rfl))).from _)

theorem Path.opened (h : Path w m V f ds PD pv W) : ∃ g cap cur, pv = .slice (some ⟨g, 0, none⟩) PD.length cap ∧ w.heap.size < g ∧ W.heap[g]? = some (.cells cur 84 (0, 0)) ∧ cur.size = cap * 3 ∧ Triples W g PD := by
  rcases h.row.2 with ⟨e, _⟩ | ⟨g, cap, cur, rfl, h1, h2, h3, h4, h5, h6⟩
  · exact absurd e h.nn
  · refine ⟨g, cap, cur, rfl, h1, h2, h5, fun i d hd => ?_⟩
    have hc := cellsD_get PD i d hd
    have hlt := (List.getElem?_eq_some_iff.1 hd).1
    have hcell : ∀ o v, o < PD.length * 3 → (cellsD PD)[o]? = some v → W.cell? ⟨g, o, none⟩ = some v := fun o v ho hv => by
      rw [← h6, List.getElem?_take, if_pos ho] at hv
      simpa [World.cell?, h2] using hv
    exact ⟨hcell _ _ (by omega) hc.1, hcell _ _ (by omega) hc.2.1, hcell _ _ (by omega) hc.2.2⟩

theorem Triples.same {W W' : World} {g : Nat} {C : Array Value} {t : TypeId} {sp : Nat × Nat} {PD : List Dep} (h : Triples W g PD) (hb : W.heap[g]? = some (.cells C t sp)) (hb' : W'.heap[g]? = some (.cells C t sp)) : Triples W' g PD := fun i d hd => by
  have e : W'.heap[g]? = W.heap[g]? := hb'.trans hb.symm
  obtain ⟨a, b, c⟩ := h i d hd
  exact ⟨(World.cell?_of_block (a := ⟨g, i * 3, none⟩) e).trans a, (World.cell?_of_block (a := ⟨g, i * 3 + 1, none⟩) e).trans b, (World.cell?_of_block (a := ⟨g, i * 3 + 2, none⟩) e).trans c⟩

theorem info84 : (Ybaf.prog.info? 84).map (fun i => (i.zero, i.size, i.bytes)) = some (some dep0, 3, 40) := by kernel_rfl
end Go.Proofs.YbulkdblgFmt
