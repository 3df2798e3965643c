/-
  Terms in memory, and the iterator over a term's leaves (leaves, leaves' closure, yieldLeaves).
-/
import Derived.RangeFuncNested
import Derived.RangeFuncBound
import Derived.RangeFuncCalls
import Derived.RangeFuncLeaves
import Derived.Shelf.Abstract
import Derived.Shelf.RegionOpen
import Derived.WalkKit
import Derived.OwnWalkIn
import Derived.TacticsInMore
import Derived.LoopNIn
import Derived.LoopIn
import Derived.Test.YbulkdblgFmtMaps
namespace Go.Proofs.YbulkdblgFmt
open Go.RowKit Go.Shelf
attribute [local go_sem] Oper.semAt_some

theorem room_of_none {F : Fence} (hd : F.depth = none) (k : Nat) : F.room k := fun d h => by rw [hd] at h; cases h
theorem round_any {F : Fence} (hd : F.depth = none) {m m' : Nat} {P : Program} {l : Nat} {f : FuncId} {tmps : Array Value} {assign body : Code} {w : World} {R : Ending → World → Prop}
    (h : RoundIn F m P l f tmps assign body w R) : RoundIn F m' P l f tmps assign body w R := ⟨h.1, fun c cs _ => h.2 c cs (room_of_none hd _)⟩
theorem yield_any {F : Fence} (hd : F.depth = none) {m : Nat} (m' : Nat) {P : Program} {l : Nat} {args : Array Value} {W : World} {R : Ending → World → Prop} (h : YieldAt F m P l args W R) : YieldAt F m' P l args W R := by
  obtain ⟨fn, tmps, assign, body, hy, hR⟩ := h
  exact ⟨fn, tmps, assign, body, hy, round_any hd hR⟩

/-- The i-th name: one letter. -/
def nm (k : Fin 26) : ByteArray := ⟨#[(97 + k.val).toUInt8]⟩
def pS : ByteArray := ⟨#[112]⟩
def qS : ByteArray := ⟨#[113]⟩
/-- A leaf's value: a computed term by its name's number, or the from-term. -/
def tv : Option (Fin 26) → Value
  | some k => .iface 53 (.string (nm k))
  | none => .iface 52 (.agg #[.string pS, .string qS])

/-- What the operator gives the i-th side. -/
def inOf (op : Int) (i : Nat) : Nat := if op = 2 ∧ i = 1 then 2 else if op = 0 then 0 else 1

abbrev Leaf := Option (Fin 26) × Nat
/-- A list of leaves, each standing at least as weakly as r. -/
def weak (r : Nat) (G : List Leaf) : List Leaf := G.map fun x => (x.1, max r x.2)

/-- The leaves of a compound's sides. -/
def sides (op : Int) : Nat → List (List Leaf) → List Leaf
  | _, [] => []
  | i, G :: Gs => weak (inOf op i) G ++ sides op (i + 1) Gs

/-- The value v is a term of height at most h, its slices in blocks below n0; its leaves, in order, with their standings, are G. -/
def IsTm (n0 : Nat) (W : World) : Nat → Value → List Leaf → Prop
  | 0, v, G => (v = .nilIface ∧ G = []) ∨ ∃ o, v = tv o ∧ G = [(o, 0)]
  | h + 1, v, G => IsTm n0 W h v G ∨ ∃ (op : Int) (b off cap : Nat) (subs : List (Value × List Leaf)), v = .iface 60 (.agg #[.int .i64 op, .slice (some ⟨b, off, none⟩) subs.length cap]) ∧ b < n0 ∧ subs.length ≤ 1024 ∧ (op = 0 ∨ op = 1 ∨ op = 2) ∧
      (∀ i (s : Value × List Leaf), subs[i]? = some s → W.cell? ⟨b, off + i, none⟩ = some s.1 ∧ IsTm n0 W h s.1 s.2) ∧ G = sides op 0 (subs.map Prod.snd)

theorem IsTm.below {n0 : Nat} {A B : World} (hb : Below n0 A B) : ∀ {h : Nat} {v : Value} {G : List Leaf}, IsTm n0 A h v G → IsTm n0 B h v G
  | 0, _, _, ht => ht
  | h + 1, _, _, Or.inl ht => Or.inl (IsTm.below hb (h := h) ht)
  | h + 1, _, _, Or.inr ⟨op, b, off, cap, subs, e, hlt, hn, ho, hs, hG⟩ => Or.inr ⟨op, b, off, cap, subs, e, hlt, hn, ho, fun i s hi => ⟨(hb.cell (p := ⟨b, off + i, none⟩) hlt).trans (hs i s hi).1, IsTm.below hb (h := h) (hs i s hi).2⟩, hG⟩

/-- What a round of the loop keeps: what lay below n0, and every variable of the compound's type. -/
def Kp (n0 : Nat) (W W' : World) : Prop := Below n0 W W' ∧ ∀ (b : Nat) (C : Array Value), W.heap[b]? = some (.cells C 60 (0, 0)) → W'.heap[b]? = some (.cells C 60 (0, 0))

theorem Kp.refl (n0 : Nat) (W : World) : Kp n0 W W := ⟨Below.refl _ _, fun _ _ h => h⟩
theorem Kp.trans {n0 : Nat} {A B C : World} (h : Kp n0 A B) (k : Kp n0 B C) : Kp n0 A C := ⟨h.1.trans k.1, fun b x e => k.2 b x (h.2 b x e)⟩
theorem Kp.alloc {n0 : Nat} {W : World} (h : n0 ≤ W.heap.size) (o : Obj) : Kp n0 W (W.alloc o) := ⟨(Below.refl _ _).alloc h o, fun b C e => by
  rw [Below.heap_alloc W o b (Array.getElem?_eq_some_iff.1 e).1]; exact e⟩

theorem sides_snoc (op : Int) : ∀ (Gs : List (List Leaf)) (i : Nat) (G : List Leaf), sides op i (Gs ++ [G]) = sides op i Gs ++ weak (inOf op (i + Gs.length)) G
  | [], i, G => by simp [sides]
  | H :: Gs, i, G => by
    simp only [List.cons_append, sides, sides_snoc op Gs (i + 1) G, List.length_cons, List.append_assoc]
    rw [show i + 1 + Gs.length = i + (Gs.length + 1) by omega]
theorem weak_append (r : Nat) (A B : List Leaf) : weak r (A ++ B) = weak r A ++ weak r B := by simp [weak]
theorem weak_weak (r s : Nat) (A : List Leaf) : weak r (weak s A) = weak (max r s) A := by
  simp only [weak, List.map_map]
  apply List.map_congr_left
  intro x _
  simp only [Function.comp]
  rw [Nat.max_assoc]

theorem assert60_leaf (o : Option (Fin 26)) (W : World) : (Instr.typeAssert (tv o) 57 60 true).run Ybaf.prog W = .ok (.tuple #[.agg #[.int .i64 0, .slice none 0 0], .bool false]) W := by
  cases o <;> kernel_rfl
theorem assert60_nil (W : World) : (Instr.typeAssert .nilIface 57 60 true).run Ybaf.prog W = .ok (.tuple #[.agg #[.int .i64 0, .slice none 0 0], .bool false]) W := by kernel_rfl
theorem assert60_comp (v : Value) (W : World) : (Instr.typeAssert (.iface 60 v) 57 60 true).run Ybaf.prog W = .ok (.tuple #[v, .bool true]) W := by kernel_rfl

end Go.Proofs.YbulkdblgFmt
