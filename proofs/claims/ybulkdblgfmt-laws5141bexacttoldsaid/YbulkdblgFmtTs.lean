/-
  A function's return where a range over a function stood in an ordinary loop: many marks.
-/
import Derived.Test.YbulkdblgFmtTq
namespace Go.Proofs.YbulkdblgFmt
open Go.RowKit Go.Shelf

/-- Every deferred entry is a mark of a loop that is over; the marks lie at or above B, each other than the next. -/
def Marks (B : Nat) (W : World) : List Deferred → Prop
  | [] => True
  | d :: ds => (∃ D, d.target = .collected D ∧ B ≤ D ∧ W.heap[D]? = some (.deferred (some [])) ∧ ∀ d' ∈ ds, d'.target ≠ .collected D) ∧ Marks B W ds

theorem Marks.put {B : Nat} {W : World} {D : Nat} {o : Obj} : ∀ {ds : List Deferred}, Marks B W ds → (∀ d ∈ ds, d.target ≠ .collected D) → Marks B (W.putObj D o) ds
  | [], _, _ => trivial
  | d :: ds, ⟨⟨E, e1, e2, e3, e4⟩, h⟩, hne => ⟨⟨E, e1, e2, by
      have : D ≠ E := fun x => hne d List.mem_cons_self (by rw [e1, x])
      simp only [World.putObj]
      rw [Array.getElem?_setIfInBounds_ne this]
      exact e3, e4⟩, h.put (fun d' hd' => hne d' (List.mem_cons_of_mem _ hd'))⟩

theorem Marks.mono {B B' : Nat} {W : World} (hB : B' ≤ B) : ∀ {ds : List Deferred}, Marks B W ds → Marks B' W ds
  | [], _ => trivial
  | _ :: _, ⟨⟨D, e1, e2, e3⟩, h⟩ => ⟨⟨D, e1, Nat.le_trans hB e2, e3⟩, h.mono hB⟩

theorem Marks.keep {B : Nat} {W W' : World} (hk : KeepsFrom B W W') : ∀ {ds : List Deferred}, Marks B W ds → Marks B W' ds
  | [], _ => trivial
  | _ :: _, ⟨⟨D, e1, e2, e3, e4⟩, h⟩ => ⟨⟨D, e1, e2, hk.same D _ e2 e3 rfl, e4⟩, h.keep hk⟩

theorem Marks.lt {B : Nat} {W : World} {D : Nat} (hD : W.heap.size ≤ D) : ∀ {ds : List Deferred}, Marks B W ds → ∀ d ∈ ds, d.target ≠ .collected D
  | [], _, d, hd => by cases hd
  | e :: ds, ⟨⟨D', e1, e2, e3, e4⟩, h⟩, d, hd => by
    rcases List.mem_cons.1 hd with rfl | hd
    · rw [e1]
      intro x
      cases x
      have := (Array.getElem?_eq_some_iff.1 e3).1
      omega
    · exact h.lt hD d hd

/-- Whatever is cells lies as it lay. -/
def SameCells (W W' : World) : Prop := ∀ (b : Nat) (C : Array Value) (t : TypeId) (sp : Nat × Nat), W.heap[b]? = some (.cells C t sp) → W'.heap[b]? = some (.cells C t sp)

theorem leaves_marks {F : Fence} {n : Nat} {P : Program} {fn : Func} {tmps : Array Value} {R : Ending → World → Prop} {B : Nat} {v : Value} :
    ∀ (ds : List Deferred) (W : World), B ≤ W.heap.size → Marks B W ds → (∀ W', Below B W W' → SameCells W W' → (results fn tmps).run P W' = .ok v W' ∧ R (.returned v) W') → LeavesInM F n P fn tmps R ds .returning W
  | [], W, _, _, h => by
    obtain ⟨h1, h2⟩ := h W (Below.refl _ _) (fun _ _ _ _ e => e)
    exact ⟨v, h1, h2⟩
  | d :: ds, W, hB, ⟨⟨D, e1, e2, e3, e4⟩, hm⟩, h => by
    refine ⟨by simp, .inl ⟨D, _, e1, run_takeDeferred e3, ?_⟩⟩
    have hb : Below B W (W.putObj D (.deferred none)) := (Below.refl B W).grown (grownBy_putObj' W D _) hB (fun k e => by cases e; exact e2)
    have hc : SameCells W (W.putObj D (.deferred none)) := fun b C t sp hC => by
      have hne : b ≠ D := fun e => by rw [e, e3] at hC; cases hC
      exact ((grownBy_putObj' W D (.deferred none)).block b (Array.getElem?_eq_some_iff.1 hC).1 (fun e => hne (by cases e; rfl))).trans hC
    exact leaves_marks ds _ (Nat.le_trans hB hb.size) (hm.put e4) (fun W' hW' hc' => h W' (hb.trans hW') (fun b C t sp hC => hc' b C t sp (hc b C t sp hC)))
end Go.Proofs.YbulkdblgFmt
