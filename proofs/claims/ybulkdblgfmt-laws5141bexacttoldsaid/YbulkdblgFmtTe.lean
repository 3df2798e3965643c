/-
  What the walk of LawS5141BExact holds: matrices, rows, the relations of one round.
-/
import Derived.Test.YbulkdblgFmtTd
namespace Go.Proofs.YbulkdblgFmt
open Go.RowKit Go.Shelf

def notBool (v : Value) : Prop := ∀ b, v ≠ .bool b
/-- Every cell below n0 that holds no bool holds what it held. -/
def KeptB (n0 : Nat) (W X : World) : Prop := ∀ p v, p.block < n0 → notBool v → W.cell? p = some v → X.cell? p = some v
theorem KeptB.trans {n0 : Nat} {A B C : World} (h : KeptB n0 A B) (k : KeptB n0 B C) : KeptB n0 A C := fun p v hp hv e => k p v hp hv (h p v hp hv e)
theorem KeptB.of {n0 : Nat} {A B : World} (h : CellsKept A B) : KeptB n0 A B := fun p v _ _ e => h p v e
theorem KeptB.mono {n0 n1 : Nat} {A B : World} (h : KeptB n1 A B) (hn : n0 ≤ n1) : KeptB n0 A B := fun p v hp hv e => h p v (Nat.lt_of_lt_of_le hp hn) hv e

theorem IsTm.notBool {n0 : Nat} {W : World} {h : Nat} {v : Value} {G : List Leaf} (ht : IsTm n0 W h v G) : notBool v := fun b e => by
  rcases ht.iface with e1 | ⟨t, x, e1⟩ <;> rw [e1] at e <;> cases e
theorem IsTm.keptB {n0 : Nat} {W W' : World} (hk : KeptB n0 W W') : ∀ {h : Nat} {v : Value} {G : List Leaf}, IsTm n0 W h v G → IsTm n0 W' h v G
  | 0, _, _, ht => ht
  | h + 1, _, _, Or.inl ht => Or.inl (IsTm.keptB hk (h := h) ht)
  | h + 1, _, _, Or.inr ⟨op, b, off, cap, subs, e, hlt, hn, ho, hs, hG⟩ => Or.inr ⟨op, b, off, cap, subs, e, hlt, hn, ho, fun i s hi => ⟨hk _ _ hlt (hs i s hi).2.notBool (hs i s hi).1, IsTm.keptB hk (h := h) (hs i s hi).2⟩, hG⟩

/-- A matrix of bools, its first n rows and columns. -/
structure Mat (W : World) (b n : Nat) (M : Nat → Nat → Bool) : Prop where
  blk : ∃ C t, W.heap[b]? = some (.cells C t (0, 0))
  cel : ∀ i j, i < n → j < n → W.cell? ⟨b, i * 6 + j, none⟩ = some (.bool (M i j))
theorem Mat.lt {W : World} {b n : Nat} {M : Nat → Nat → Bool} (h : Mat W b n M) : b < W.heap.size := by
  obtain ⟨C, t, h⟩ := h.blk
  exact (Array.getElem?_eq_some_iff.1 h).1
theorem Mat.frozen {W : World} {b n : Nat} {M : Nat → Nat → Bool} (h : Mat W b n M) (o : Nat) : W.frozen? ⟨b, o, none⟩ = false := by
  obtain ⟨C, t, h⟩ := h.blk
  simp [World.frozen?, h]
theorem Mat.block {W W' : World} {b n : Nat} {M : Nat → Nat → Bool} (h : Mat W b n M) (hb : W'.heap[b]? = W.heap[b]?) : Mat W' b n M := by
  obtain ⟨C, t, hC⟩ := h.blk
  exact ⟨⟨C, t, hb.trans hC⟩, fun i j hi hj => (World.cell?_of_block (a := ⟨b, i * 6 + j, none⟩) hb).trans (h.cel i j hi hj)⟩
theorem Mat.alloc {W : World} {b n : Nat} {M : Nat → Nat → Bool} (h : Mat W b n M) (o : Obj) : Mat (W.alloc o) b n M := h.block (Below.heap_alloc W o b h.lt)
theorem Mat.drew {W : World} {b n : Nat} {M : Nat → Nat → Bool} (h : Mat W b n M) : Mat W.drew b n M := h.block rfl
theorem Mat.other {W : World} {b n c o : Nat} {v : Value} {M : Nat → Nat → Bool} (h : Mat W b n M) (hne : b ≠ c) : Mat (W.setCell ⟨c, o, none⟩ v) b n M := h.block (Below.heap_setCell W ⟨c, o, none⟩ v b hne)
theorem Mat.ext {W : World} {b n : Nat} {M M' : Nat → Nat → Bool} (h : Mat W b n M) (he : ∀ i j, i < n → j < n → M i j = M' i j) : Mat W b n M' := ⟨h.blk, fun i j hi hj => by rw [← he i j hi hj]; exact h.cel i j hi hj⟩
theorem Mat.set {W : World} {b n i j : Nat} {M M' : Nat → Nat → Bool} {v : Bool} (h : Mat W b n M) (hn : n ≤ 6) (hi : i < n) (hj : j < n) (he : ∀ a c, a < n → c < n → M' a c = if a = i ∧ c = j then v else M a c) : Mat (W.setCell ⟨b, i * 6 + j, none⟩ (.bool v)) b n M' := by
  obtain ⟨C, t, hC⟩ := h.blk
  refine ⟨⟨_, _, heap_set9 hC _ _⟩, fun a c ha hc => ?_⟩
  rw [he a c ha hc]
  by_cases hac : a = i ∧ c = j
  · obtain ⟨rfl, rfl⟩ := hac
    simp only [and_self, if_true]
    exact World.cell?_setCell_same W ⟨b, a * 6 + c, none⟩ _ (h.cel a c ha hc)
  · rw [if_neg hac, setC_other _ _ _ _ _ (fun e => hac ⟨by omega, by omega⟩)]
    exact h.cel a c ha hc
theorem setBool {W : World} {b o n0 : Nat} {x y : Bool} (h : W.cell? ⟨b, o, none⟩ = some (.bool x)) : KeptB n0 W (W.setCell ⟨b, o, none⟩ (.bool y)) := fun p v _ hv e => by
  have hne : p ≠ ⟨b, o, none⟩ := fun e' => by
    rw [e', h] at e
    exact hv x (Option.some.inj e).symm
  rw [World.cell?_setCell_other W ⟨b, o, none⟩ p _ (fun e => hne e.symm)]; exact e

/-- What one round of the building keeps. -/
structure Gr (w W : World) (mb : Nat) (X : World) : Prop where
  kept : KeptB W.heap.size W X
  size : W.heap.size ≤ X.heap.size
  map : X.heap[mb]? = W.heap[mb]?
  bel : Below w.heap.size w X
variable {w W X : World} {mb : Nat}
theorem Gr.refl (h : Below w.heap.size w W) : Gr w W mb W := ⟨fun _ _ _ _ e => e, Nat.le_refl _, rfl, h⟩
theorem Gr.alloc (h : Gr w W mb X) (hm : mb < W.heap.size) (o : Obj) : Gr w W mb (X.alloc o) :=
  ⟨h.kept.trans (KeptB.of (CellsKept.alloc X o)), Nat.le_trans h.size (by simp), (Below.heap_alloc X o mb (Nat.lt_of_lt_of_le hm h.size)).trans h.map, h.bel.alloc h.bel.size o⟩
theorem Gr.drew (h : Gr w W mb X) : Gr w W mb X.drew := ⟨h.kept, h.size, h.map, h.bel.drew⟩
theorem Gr.set {b o : Nat} {x y : Bool} (h : Gr w W mb X) (hc : X.cell? ⟨b, o, none⟩ = some (.bool x)) (hne : mb ≠ b) (hb : w.heap.size ≤ b) : Gr w W mb (X.setCell ⟨b, o, none⟩ (.bool y)) :=
  ⟨h.kept.trans (setBool hc), by simpa using h.size, (Below.heap_setCell X ⟨b, o, none⟩ _ mb hne).trans h.map, h.bel.setCell (p := ⟨b, o, none⟩) hb _⟩
/-- An append onto a row that was made in this round. -/
theorem Gr.append {v : Value} {e sz k : Nat} {xs : List Value} {o : Obj} {X' : World} (h : Gr w W mb X) (hm : mb < W.heap.size) (hw : w.heap.size ≤ W.heap.size) (hr : X.ownsRow W.heap.size e sz v k xs) (hg : (X.alloc o).grownBy X' v.ownBlock) : Gr w W mb X' := by
  have hA := h.alloc hm o
  have hb : ∀ b, v.ownBlock = some b → W.heap.size ≤ b := fun b e => own_ge hr e
  have hlt : ∀ b, b < W.heap.size → X'.heap[b]? = (X.alloc o).heap[b]? := fun b hb' => hg.block b (Nat.lt_of_lt_of_le hb' hA.size) (fun e => by have := hb b e.symm; omega)
  refine ⟨hA.kept.trans (fun p v hp _ e => by rw [World.cell?_of_block (a := p) (hlt p.block hp)]; exact e), Nat.le_trans hA.size hg.size, (hlt mb hm).trans hA.map, hA.bel.grown hg hA.bel.size (fun b e => Nat.le_trans hw (hb b e))⟩

set_option maxHeartbeats 400000 in
theorem join0_any (op : Int) (a : Option Addr) (cap : Nat) (w : World) : Calls Ybaf.prog 10 #[.int .i64 op, .slice a 0 cap] w fun e w' => e = .returned .nilIface ∧ w' = w := by
  go_enter Ybaf.func10, Ybaf.ntmps10
  go_wp2
  go_ret
  exact ⟨rfl, rfl⟩
set_option maxHeartbeats 400000 in
theorem join1_any (op : Int) (g cap : Nat) (t : TypeId) (x : Value) (w : World) (hc : w.cell? ⟨g, 0, none⟩ = some (.iface t x)) : Calls Ybaf.prog 10 #[.int .i64 op, .slice (some ⟨g, 0, none⟩) 1 cap] w fun e w' => e = .returned (.iface t x) ∧ w' = w := by
  go_enter Ybaf.func10, Ybaf.ntmps10
  go_wp2
  go_ret
  exact ⟨rfl, rfl⟩
set_option maxHeartbeats 400000 in
theorem joinN_any (op : Int) (g cap n : Nat) (hn : 2 ≤ n) (w : World) : Calls Ybaf.prog 10 #[.int .i64 op, .slice (some ⟨g, 0, none⟩) n cap] w fun e w' => e = .returned (.iface 60 (.agg #[.int .i64 op, .slice (some ⟨g, 0, none⟩) n cap])) ∧ w' = w := by
  have h0 : ((n : Int) == 0) = false := by simp; omega
  have h1 : ((n : Int) == 1) = false := by simp; omega
  go_enter Ybaf.func10, Ybaf.ntmps10
  go_wp2
  go_ret
  exact ⟨rfl, rfl⟩

theorem tv_iface (o : Option (Fin 26)) : ∃ t x, tv o = .iface t x := by cases o <;> exact ⟨_, _, rfl⟩
theorem sides_map (op : Int) (r : Nat) : ∀ (l : List (Option (Fin 26))) (i : Nat), (∀ j, inOf op j = r) → sides op i (l.map fun o => [(o, 0)]) = l.map fun o => (o, r)
  | [], _, _ => rfl
  | o :: l, i, h => by
    rw [List.map_cons, List.map_cons, sides, h i, sides_map op r l (i + 1) h]
    simp [weak]

/-- zzs5141bjoin over a row of leaves. -/
theorem join_any (n op : Nat) (hop : op ≤ 1) (ks : List Int) (g cap : Nat) (w : World) (hc : ∀ j c, ks[j]? = some c → w.cell? ⟨g, j, none⟩ = some (tv (lf n c))) (hg : g < w.heap.size) (hl : ks.length ≤ 256) :
    Calls Ybaf.prog 10 #[.int .i64 (op : Int), .slice (some ⟨g, 0, none⟩) ks.length cap] w fun e w' => w' = w ∧ ∃ v, e = .returned v ∧ ((ks = [] ∧ v = .nilIface) ∨ (∃ t x, v = .iface t x)) ∧ IsTm w.heap.size w 1 v (joinL n op ks) := by
  match ks, hc, hl with
  | [], _, _ =>
    refine (join0_any (op : Int) (some ⟨g, 0, none⟩) cap w).mono ?_
    rintro e w' ⟨rfl, rfl⟩
    exact ⟨rfl, _, rfl, .inl ⟨rfl, rfl⟩, Or.inl (Or.inl ⟨rfl, rfl⟩)⟩
  | [c], hc, _ =>
    obtain ⟨t, x, htv⟩ := tv_iface (lf n c)
    have h0 := hc 0 c rfl
    refine (join1_any (op : Int) g cap t x w (by rw [h0, htv])).mono ?_
    rintro e w' ⟨rfl, rfl⟩
    exact ⟨rfl, _, rfl, .inr ⟨t, x, rfl⟩, Or.inl (Or.inr ⟨lf n c, htv.symm, rfl⟩)⟩
  | c :: d :: r, hc, hl =>
    refine (joinN_any (op : Int) g cap (c :: d :: r).length (by simp) w).mono ?_
    rintro e w' ⟨rfl, rfl⟩
    refine ⟨rfl, _, rfl, .inr ⟨_, _, rfl⟩, Or.inr ⟨(op : Int), g, 0, cap, (c :: d :: r).map (fun c => (tv (lf n c), [(lf n c, 0)])), by simp, hg, by simp at hl ⊢; omega, by omega, fun i s hi => ?_, ?_⟩⟩
    · rw [List.getElem?_map] at hi
      obtain ⟨x, hx, rfl⟩ := Option.map_eq_some_iff.1 hi
      exact ⟨by rw [Nat.zero_add]; exact hc i x hx, Or.inr ⟨lf n x, rfl, rfl⟩⟩
    · have e1 : ((c :: d :: r).map (fun c => (tv (lf n c), [(lf n c, 0)]))).map Prod.snd = ((c :: d :: r).map (lf n)).map fun o => [(o, 0)] := by simp
      rw [e1, sides_map (op : Int) op _ 0 (fun j => by unfold inOf; rcases (show op = 0 ∨ op = 1 by omega) with rfl | rfl <;> simp)]
      simp [joinL]
end Go.Proofs.YbulkdblgFmt
