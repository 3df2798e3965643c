/-
  Small words for (*easy).tryShortest: a slice of ints in the call's own memory, the places that it collects, worlds that turn in one block alone.
-/
import Derived.Test.YbulkdbnySa
import Derived.Deep.RegionLaw
import Derived.Deep.AppendLies
namespace Go.Proofs.Ybulkdbny
open Go.RowKit

/-- append, out of its own run: as one step of a region that draws. -/
theorem step_append_run {P : Program} {ops : Array Oper} {o : Oper} {a : Act} {w : World} {K : Act → World → Prop} {Q : Exit → Act → World → Prop} {E : Prop}
    (hg : o.guard = none) (s x : Operand) (t tx : TypeId) (hop : o.op = Op.call { callee := Callee.builtin Builtin.append, args := #[s, x], argTypes := #[t, tx] })
    (v xv : Value) (hs : a.eval s = v) (hx : a.eval x = xv) (v' : Value) (w' : World) (hrun : ∀ ty, (Builtin.append_ #[t, tx] ty #[v, xv]).run P w = .ok v' w')
    (hK : K (a.put o.dst v') w') : if Region.wanted o (yielded ops a.tmps) = true then Oper.wp P o a w K Q else E := by
  have hw : Region.wanted o (yielded ops a.tmps) = true := by simp [Region.wanted, hg]
  rw [if_pos hw]
  unfold Oper.wp
  simp [execOp, hop, resolve, invoke, builtin, hs, hx, hrun, Result.andThen]
  exact hK

def cellsI (zs : List Int) : List Value := zs.map (Value.int .i64)
def OwnI (w : World) (B : Nat) (v : Value) (zs : List Int) : Prop := w.ownsRow B 3 1 v zs.length (cellsI zs)

theorem OwnI.alloc {w : World} {B : Nat} {v : Value} {zs : List Int} (h : OwnI w B v zs) (o : Obj) : OwnI (w.alloc o) B v zs := World.ownsRow.alloc h o
theorem OwnI.lt {w : World} {B : Nat} {v : Value} {zs : List Int} (h : OwnI w B v zs) : ∀ k, v.ownBlock = some k → B ≤ k ∧ k < w.heap.size := World.ownsRow.lt h

/-- One number appended, behind draws. -/
theorem OwnI.push {w : World} {B : Nat} {v : Value} {zs : List Int} (h : OwnI w B v zs) (hB : B ≤ w.heap.size) (c : Int) (hl : zs.length ≤ 900000) :
    ∃ v' w', (∀ ty, (Builtin.append_ #[23, 23] ty #[v, .slice (some ⟨w.heap.size, 0, none⟩) 1 1]).run Yba.prog (w.alloc (.cells #[.int .i64 c] 3)).drew = .ok v' w') ∧ OwnI w' B v' (zs ++ [c]) ∧ (w.alloc (.cells #[.int .i64 c] 3)).drew.grownBy w' v.ownBlock := by
  obtain ⟨i0, hi, hz0, hz1, hz2⟩ := info_parts info3
  have h' : (w.alloc (.cells #[.int .i64 c] 3)).drew.ownsRow B 3 1 v zs.length (cellsI zs) := h.alloc _
  obtain ⟨v', w', r1, r2, r3, _⟩ := run_append_own (P := Yba.prog) (w.alloc (.cells #[.int .i64 c] 3)).drew B 23 0 3 i0 (.int .i64 0) 1 8 Yba.underlying23 hi hz0 hz1 hz2 rfl (by decide) v zs.length (cellsI zs) h' ⟨w.heap.size, 0, none⟩ 1 1 (cellsI [c]) (by simp [cellsI])
    (fun j u hj => cell_one_new w (.int .i64 c) 3 j u hj) (ints_oneCell .i64 [c]) (by unfold maxLen; omega) (by omega) (by simp; omega)
  refine ⟨v', w', fun ty => r1, ?_, r3⟩
  unfold OwnI
  simpa [cellsI] using r2

/-- The places from 1 up to k whose jobs need at most 'free'. -/
def placesTo (ps : Nat → Int) (free : Int) (k : Nat) : List Nat := (List.range k).filter fun i => decide (1 ≤ i) && decide (ps i ≤ free)

theorem places_hit {ps : Nat → Int} {free : Int} {k : Nat} (h1 : 1 ≤ k) (h : ps k ≤ free) : placesTo ps free (k + 1) = placesTo ps free k ++ [k] := by
  simp [placesTo, List.range_succ, List.filter_append, h1, h]
theorem places_miss {ps : Nat → Int} {free : Int} {k : Nat} (h : ¬ ps k ≤ free) : placesTo ps free (k + 1) = placesTo ps free k := by
  simp [placesTo, List.range_succ, List.filter_append, h]
theorem places_len (ps : Nat → Int) (free : Int) (k : Nat) : (placesTo ps free k).length ≤ k := by
  have := List.length_filter_le (fun i => decide (1 ≤ i) && decide (ps i ≤ free)) (List.range k)
  simpa [placesTo] using this

theorem grown_via {a b c : World} {pb g : Nat} (h : a.grownBy b (some pb)) (k : b.grownBy c (some g)) (hg : a.heap.size ≤ g ∨ g = pb) : a.grownBy c (some pb) :=
  ⟨k.os.trans h.os, k.tape.trans h.tape, k.output.trans h.output, Nat.le_trans h.size k.size, fun i hi hne => (k.block i (Nat.lt_of_lt_of_le hi h.size) (by
    intro e
    have e1 : i = g := Option.some.inj e
    rcases hg with hg | hg
    · omega
    · exact hne (by rw [e1, hg]))).trans (h.block i hi hne)⟩
theorem grown_none {a b c : World} {row : Option Nat} (h : a.grownBy b row) (k : b.grownBy c none) : a.grownBy c row :=
  ⟨k.os.trans h.os, k.tape.trans h.tape, k.output.trans h.output, Nat.le_trans h.size k.size, fun i hi hne => (k.block i (Nat.lt_of_lt_of_le hi h.size) (by simp)).trans (h.block i hi hne)⟩
theorem grown_setCell (w : World) (b o : Nat) (v : Value) : w.grownBy (w.setCell ⟨b, o, none⟩ v) (some b) :=
  ⟨rfl, rfl, rfl, by simp, fun k _ hne => Below.heap_setCell w ⟨b, o, none⟩ v k (fun e => hne (by rw [e]))⟩
theorem grown_drew (w : World) : w.grownBy w.drew none := ⟨rfl, rfl, rfl, Nat.le_refl _, fun _ _ _ => rfl⟩

/-- By estimate, then by place. -/
def ltQ (es : Nat → Int) (a b : Nat) : Prop := es a < es b ∨ (es a = es b ∧ a < b)

/-- What tryShortest leaves. -/
def Tried (w w' : World) (pb n : Nat) (ps es : Nat → Int) (free : Int) : Prop :=
  ∃ (L : List Nat) (a : Option Addr) (cap g : Nat), L.Perm (placesTo ps free n) ∧ L.Pairwise (ltQ es) ∧ w'.cell? ⟨pb, 14, none⟩ = some (.slice a L.length cap) ∧ w'.cell? ⟨pb, 12, none⟩ = some (.int .i64 1) ∧
    (0 < L.length → a = some ⟨g, 0, none⟩) ∧ (∀ i, i < L.length → w'.cell? ⟨g, i, none⟩ = some (.int .i64 (L.getD i 0))) ∧ (0 < L.length → g < w'.heap.size) ∧ w.grownBy w' (some pb)

def TrySaid : Prop := ∀ (pb qg n : Nat) (ps es : Nat → Int) (free : Int) (w : World), n ≤ 1024 → pb < w.heap.size → qg < w.heap.size → qg ≠ pb → QueueTo w qg n ps es n →
    w.cell? ⟨pb, 0, none⟩ = some (.slice (some ⟨qg, 0, none⟩) n n) → w.cell? ⟨pb, 12, none⟩ = some (.int .i64 1) → w.cell? ⟨pb, 14, none⟩ = some (.slice none 0 0) → w.frozen? ⟨pb, 14, none⟩ = false →
    Calls Yba.prog 7 #[.pointer (some ⟨pb, 0, none⟩), .int .i64 free] w fun e w' => e = .returned (.tuple #[]) ∧ Tried w w' pb n ps es free

end Go.Proofs.Ybulkdbny
