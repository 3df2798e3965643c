/-
  The type's relations in memory; what dependsOn holds between two steps.
-/
import Derived.Test.YbulkdblgFmtTs
import Derived.Test.YbulkdblgFmtTb
import Derived.Sort.LoopGhostIn
import Derived.Maps.OwnIn
import Derived.Carry
namespace Go.Proofs.YbulkdblgFmt
open Go.RowKit Go.Shelf

theorem MapIs.of_block {w w' : World} {b n : Nat} {f : List UInt8 → Option Value} (h : MapIs w b n f) (hb : w'.heap[b]? = w.heap[b]?) : MapIs w' b n f := by
  obtain ⟨D, ⟨es, clock, h1, h2⟩, h3⟩ := h
  exact ⟨D, ⟨es, clock, by rw [hb]; exact h1, h2⟩, h3⟩
theorem MapIs.block {w : World} {b n : Nat} {f : List UInt8 → Option Value} (h : MapIs w b n f) : ∃ es c, w.heap[b]? = some (.map es c) := by
  obtain ⟨D, ⟨es, clock, h1, h2⟩, h3⟩ := h
  exact ⟨es, clock, h1⟩

/-- The bytes of a name. -/
abbrev nb (k : Fin 26) : List UInt8 := (nm k).data.toList
theorem nb_inj {j k : Fin 26} (h : nb j = nb k) : j = k := by
  have : ∀ j k : Fin 26, nb j = nb k → j = k := by decide
  exact this j k h
theorem nb_ne (k : Fin 26) : nb k ≠ [] := by
  have : ∀ k : Fin 26, nb k ≠ [] := by decide
  exact this k

/-- The type at ⟨tb, 0⟩: its relations are the k of R; relation k has the leaves L k; all lies below n0. -/
def Graph (n0 : Nat) (w : World) (tb : Nat) (R : Fin 26 → Prop) (L : Fin 26 → List Leaf) : Prop :=
  ∃ (mb n : Nat) (f : List UInt8 → Option Value) (rb : Fin 26 → Nat), tb < n0 ∧ mb < n0 ∧ w.cell? ⟨tb, 2, none⟩ = some (.map (some mb)) ∧ MapIs w mb n f ∧
    ∀ k, R k → f (nb k) = some (.pointer (some ⟨rb k, 0, none⟩)) ∧ rb k < n0 ∧ w.cell? ⟨rb k, 0, none⟩ = some (.string (nm k)) ∧ (∃ v h, w.cell? ⟨rb k, 2, none⟩ = some v ∧ IsTm n0 w h v (L k)) ∧ ∀ o st, (some o, st) ∈ L k → R o

theorem Graph.below {n0 : Nat} {w w' : World} {tb : Nat} {R : Fin 26 → Prop} {L : Fin 26 → List Leaf} (h : Graph n0 w tb R L) (hb : Below n0 w w') : Graph n0 w' tb R L := by
  obtain ⟨mb, n, f, rb, h1, h2, h3, h4, h5⟩ := h
  refine ⟨mb, n, f, rb, h1, h2, (hb.cell (p := ⟨tb, 2, none⟩) h1).trans h3, h4.of_block (hb.block mb h2), fun k hk => ?_⟩
  obtain ⟨a1, a2, a3, ⟨v, h, a4, a5⟩, a6⟩ := h5 k hk
  exact ⟨a1, a2, (hb.cell (p := ⟨rb k, 0, none⟩) a2).trans a3, ⟨v, h, (hb.cell (p := ⟨rb k, 2, none⟩) a2).trans a4, a5.below hb⟩, a6⟩

theorem nm_size (k : Fin 26) : (nm k).size ≤ maxLen := by
  have : (nm k).size = 1 := rfl
  rw [this]; decide
/-- A dependency's value. -/
def depV (a b : ByteArray) (e : Bool) : Value := .agg #[.string a, .string b, .bool e]
abbrev dep0 : Value := .agg #[.string ⟨#[]⟩, .string ⟨#[]⟩, .bool false]

/-- A row of dependencies. -/
def Triples (w : World) (g : Nat) (PD : List (Fin 26 × Fin 26 × Bool)) : Prop := ∀ i d, PD[i]? = some d → w.cell? ⟨g, i * 3, none⟩ = some (.string (nm d.1)) ∧ w.cell? ⟨g, i * 3 + 1, none⟩ = some (.string (nm d.2.1)) ∧ w.cell? ⟨g, i * 3 + 2, none⟩ = some (.bool d.2.2)

/-- How each relation met was met. -/
def Deps (f : List UInt8 → Option Value) (V : List (Fin 26)) (fr : Fin 26) : Prop :=
  ∀ v ∈ V, (v = fr ∧ f (nb v) = some dep0) ∨ ∃ p e, f (nb v) = some (depV (nm p) (nm v) e) ∧ p ∈ V ∧ V.idxOf p < V.idxOf v

theorem idx_old {V : List (Fin 26)} {v k : Fin 26} (h : v ∈ V) : (V ++ [k]).idxOf v = V.idxOf v := by rw [List.idxOf_append, if_pos h]
theorem idx_new {V : List (Fin 26)} {k : Fin 26} (h : k ∉ V) : (V ++ [k]).idxOf k = V.length := by rw [List.idxOf_append, if_neg h]; simp

theorem Deps.push {f : List UInt8 → Option Value} {V : List (Fin 26)} {fr r k : Fin 26} {e : Bool} (h : Deps f V fr) (hr : r ∈ V) (hk : k ∉ V) : Deps (upd f (nb k) (depV (nm r) (nm k) e)) (V ++ [k]) fr := by
  intro v hv
  rcases List.mem_append.1 hv with hv | hv
  · have hne : nb v ≠ nb k := fun x => hk (nb_inj x ▸ hv)
    rcases h v hv with ⟨a, b⟩ | ⟨p, e', a, b, c⟩
    · exact .inl ⟨a, by rw [upd, if_neg hne]; exact b⟩
    · exact .inr ⟨p, e', by rw [upd, if_neg hne]; exact a, List.mem_append_left _ b, by rw [idx_old b, idx_old hv]; exact c⟩
  · simp at hv
    subst hv
    exact .inr ⟨r, e, by rw [upd, if_pos rfl], List.mem_append_left _ hr, by rw [idx_old hr, idx_new hk]; exact List.idxOf_lt_length_iff.2 hr⟩

/-- The world between two steps of dependsOn: V has been met, T is the queue. -/
structure St (fr : Fin 26) (w : World) (m q : Nat) (V T : List (Fin 26)) (f : List UInt8 → Option Value) (qv : Value) (W : World) : Prop where
  map : MapIs W w.heap.size V.length f
  has : ∀ k, (f (nb k)).isSome = decide (k ∈ V)
  emp : f [] = none
  deps : Deps f V fr
  que : OwnQ W (w.heap.size + 1) qv (T.map fun k => .string (nm k))
  box7 : Boxed W m 90 (.map (some w.heap.size))
  box8 : Boxed W q 82 qv
  hq : w.heap.size < q
  bel : Below w.heap.size w W

theorem OwnQ.own {w w' : World} {B : Nat} {v : Value} {xs : List Value} {row : Option Nat} (h : OwnQ w B v xs) (hg : w.grownBy w' row) (hr : ∀ r, row = some r → ∃ o : Obj, w.heap[r]? = some o ∧ o.isCells = false) : OwnQ w' B v xs := by
  refine h.kept hg fun e => ?_
  obtain ⟨g, off, cap, rfl, h1, ⟨C, sp, h2⟩, _⟩ := h
  obtain ⟨o, ho, hc⟩ := hr g e.symm
  rw [h2] at ho
  cases ho
  cases hc

theorem boxedOwn {w w' : World} {B : Nat} {t : TypeId} {v : Value} {row : Option Nat} (h : Boxed w B t v) (hg : w.grownBy w' row) (hr : ∀ r, row = some r → ∃ o : Obj, w.heap[r]? = some o ∧ o.isCells = false) : Boxed w' B t v := by
  refine h.kept hg fun e => ?_
  obtain ⟨o, ho, hc⟩ := hr B e.symm
  rw [show w.heap[B]? = _ from h] at ho
  cases ho
  cases hc

variable {fr : Fin 26} {w : World} {m q : Nat} {V T : List (Fin 26)} {f : List UInt8 → Option Value} {qv : Value} {W : World}

theorem St.own {W' : World} {row : Option Nat} (h : St fr w m q V T f qv W) (hg : W.grownBy W' row) (hr : ∀ r, row = some r → w.heap.size < r ∧ ∃ o : Obj, W.heap[r]? = some o ∧ o.isCells = false) : St fr w m q V T f qv W' :=
  ⟨h.map.kept hg (fun e => by have := (hr _ e.symm).1; omega), h.has, h.emp, h.deps, h.que.own hg (fun r e => (hr r e).2), boxedOwn h.box7 hg (fun r e => (hr r e).2), boxedOwn h.box8 hg (fun r e => (hr r e).2), h.hq,
    h.bel.grown hg h.bel.size (fun k e => Nat.le_of_lt (hr k e).1)⟩
theorem St.alloc (h : St fr w m q V T f qv W) (o : Obj) : St fr w m q V T f qv (W.alloc o) := h.own (World.grownBy_alloc W o none) (fun r e => by cases e)

theorem size9 (W : World) : (sizeOf 9).run Ybaf.prog W = .ok 1 W := by kernel_rfl
theorem slice_tail (g off n cap : Nat) (h : n + 1 ≤ cap) : ∃ o2 c2, ((o2 = off + 1 ∧ c2 = cap - 1) ∨ (o2 = off ∧ c2 = 0 ∧ n = 0)) ∧ ∀ W : World, (Instr.sliceAt 82 (.slice (some ⟨g, off, none⟩) (n + 1) cap) (some (.int .i64 1)) none none).run Ybaf.prog W = .ok (.slice (some ⟨g, o2, none⟩) n c2) W := by
  have hr : ∀ W : World, (Instr.sliceAt 82 (.slice (some ⟨g, off, none⟩) (n + 1) cap) (some (.int .i64 1)) none none).run Ybaf.prog W = .ok (sliced (some ⟨g, off, none⟩) 1 (n + 1) cap 1) W := fun W => by
    have ht : Ybaf.prog.underlying 82 = some (.slice (Ybaf.prog.elem 82)) := by simp [Program.elem, Ybaf.underlying82]
    have he : Ybaf.prog.elem 82 = 9 := by simp [Program.elem, Ybaf.underlying82]
    rw [run_sliceAt_slice (h := ht), run_slice_l (ht := ht) (h0 := by omega) (h1 := by omega), he, size9]
    rfl
  by_cases hc : cap = 1
  · refine ⟨off, 0, .inr ⟨rfl, rfl, by omega⟩, fun W => ?_⟩
    rw [hr, sliced, if_pos hc]
    simp [hc]
  · refine ⟨off + 1, cap - 1, .inl ⟨rfl, rfl⟩, fun W => ?_⟩
    rw [hr, sliced, if_neg hc]
    simp [WideShapes.add_plain]

/-- The first of the queue struck. -/
theorem St.pop {g off n cap : Nat} {r : Fin 26} (h : St fr w m q V (r :: T) f (.slice (some ⟨g, off, none⟩) n cap) W) :
    n = T.length + 1 ∧ n ≤ cap ∧ W.cell? ⟨g, off, none⟩ = some (.string (nm r)) ∧ ∃ o2 c2, (∀ W : World, (Instr.sliceAt 82 (.slice (some ⟨g, off, none⟩) (T.length + 1) cap) (some (.int .i64 1)) none none).run Ybaf.prog W = .ok (.slice (some ⟨g, o2, none⟩) T.length c2) W) ∧
      St fr w m q V T f (.slice (some ⟨g, o2, none⟩) T.length c2) (W.setCell ⟨q, 0, none⟩ (.slice (some ⟨g, o2, none⟩) T.length c2)) := by
  have hq := h.que
  obtain ⟨e1, ht⟩ := hq.tail
  obtain ⟨g', off', cap', e, h1, ⟨C, sp, h2⟩, h3, h4, h5⟩ := hq
  simp only [Value.slice.injEq, Option.some.injEq, Addr.mk.injEq, and_true] at e
  obtain ⟨⟨rfl, rfl⟩, rfl, rfl⟩ := e
  have hne : g ≠ q := fun e => by
    have := h.box8
    rw [Boxed, ← e, h2] at this
    cases this
  have hne7 : m ≠ q := fun e => by
    have h8 := h.box8
    have h7 := h.box7
    rw [Boxed, e] at h7
    rw [Boxed, h7] at h8
    cases h8
  rw [List.length_map] at ht
  obtain ⟨o2, c2, hoc, hrun⟩ := slice_tail g off T.length cap (by simpa using h3)
  have ht2 : OwnQ W (w.heap.size + 1) (.slice (some ⟨g, o2, none⟩) T.length c2) (T.map fun k => .string (nm k)) := by
    rcases hoc with ⟨rfl, rfl⟩ | ⟨rfl, rfl, e0⟩
    · exact ht
    · have : T = [] := List.length_eq_zero_iff.1 e0
      subst this
      exact ⟨g, o2, 0, rfl, h1, ⟨C, sp, h2⟩, Nat.zero_le _, fun j hj => by omega, fun j u hu => by simp at hu⟩
  have hgr : W.grownBy (W.setCell ⟨q, 0, none⟩ (.slice (some ⟨g, o2, none⟩) T.length c2)) (some q) := ⟨rfl, rfl, rfl, by simp, fun k _ hk => Below.heap_setCell W ⟨q, 0, none⟩ _ k (fun e => hk (by rw [e]))⟩
  refine ⟨by simp, h3, h5 0 (.string (nm r)) rfl, o2, c2, hrun, h.map.kept hgr (fun e => by have := h.hq; cases e; omega), h.has, h.emp, h.deps, ht2.kept hgr (fun e => hne (by cases e; rfl)), h.box7.kept hgr (fun e => hne7 (by cases e; rfl)), ?_, h.hq, h.bel.setCell (p := ⟨q, 0, none⟩) (Nat.le_of_lt h.hq) _⟩
  have := heap_set9 h.box8 0 (.slice (some ⟨g, o2, none⟩) T.length c2)
  simpa [Boxed] using this

/-- A relation met for the first time: into the map. -/
theorem St.update {r k : Fin 26} (h : St fr w m q V T f qv W) (hr : r ∈ V) (hk : k ∉ V) (hl : V.length ≤ 26) (e : Bool) :
    ∃ W', (Instr.mapUpdate 90 (.map (some w.heap.size)) (.string (nm k)) (.agg #[.string (nm r), .string (nm k), .bool e])).run Ybaf.prog W = .ok () W' ∧ St fr w m q (V ++ [k]) T (upd f (nb k) (depV (nm r) (nm k) e)) qv W' ∧ W.mapTurned W' w.heap.size := by
  obtain ⟨W', h1, h2, h3⟩ := h.map.update (t := 90) Ybaf.underlying90 (Nat.lt_of_le_of_lt hl (by decide)) (nm k) (nm_size k) (depV (nm r) (nm k) e)
  obtain ⟨es, c, hb⟩ := h.map.block
  have hg := World.mapTurned.grown h3
  have hr' : ∀ r, some w.heap.size = some r → ∃ o : Obj, W.heap[r]? = some o ∧ o.isCells = false := fun r e => by cases e; exact ⟨_, hb, rfl⟩
  refine ⟨W', h1, ⟨by simpa using h2, fun j => ?_, by rw [upd, if_neg (fun x => nb_ne k x.symm)]; exact h.emp, h.deps.push hr hk, h.que.own hg hr', boxedOwn h.box7 hg hr', boxedOwn h.box8 hg hr', h.hq, h.bel.grown hg h.bel.size (fun j e => by cases e; exact Nat.le_refl _)⟩, h3⟩
  by_cases hj : nb j = nb k
  · have := nb_inj hj
    subst this
    simp [upd]
  · rw [upd, if_neg hj, h.has j]
    have : j ≠ k := fun x => hj (by rw [x])
    simp [this]

/-- And into the queue. -/
theorem St.push {k : Fin 26} {ab c : Nat} (h : St fr w m q V T f qv W) (hx : W.cell? ⟨ab, 0, none⟩ = some (.string (nm k))) (hT : T.length ≤ 26) :
    ∃ v' W', (∀ ty, (Builtin.append_ #[82, 82] ty #[qv, .slice (some ⟨ab, 0, none⟩) 1 c]).run Ybaf.prog W = .ok v' W') ∧ (∃ g' n' c', v' = .slice (some ⟨g', n', none⟩) (T.length + 1) c') ∧ Boxed W' q 82 qv ∧ St fr w m q V (T ++ [k]) f v' (W'.setCell ⟨q, 0, none⟩ v') ∧ KeepsOthers W (W'.setCell ⟨q, 0, none⟩ v') ∧
      Below w.heap.size W (W'.setCell ⟨q, 0, none⟩ v') ∧ ∀ (b : Nat) (C : Array Value) (t : TypeId), t ≠ 9 → t ≠ 82 → W.heap[b]? = some (.cells C t (0, 0)) → (W'.setCell ⟨q, 0, none⟩ v').heap[b]? = some (.cells C t (0, 0)) := by
  obtain ⟨v', W', h1, h2, h3, h4⟩ := h.que.push ab c (nm k) hx (by simp; omega) (Nat.succ_le_of_lt (Nat.lt_of_lt_of_le h.hq (Nat.le_of_lt h.box8.lt)))
  obtain ⟨g, off, cap, e0, g1, ⟨C, sp, g2⟩, _⟩ := h.que
  subst e0
  have hne : g ≠ q := fun e => by
    have := h.box8
    rw [Boxed, ← e, g2] at this
    cases this
  have hne7 : m ≠ q := fun e => by
    have h8 := h.box8
    have h7 := h.box7
    rw [Boxed, e] at h7
    rw [Boxed, h7] at h8
    cases h8
  have hne7' : m ≠ g := fun e => by
    have h7 := h.box7
    rw [Boxed, e, g2] at h7
    cases h7
  have b8 : Boxed W' q 82 _ := h.box8.kept h3 (fun e => hne (by cases e; rfl))
  have b7 : Boxed W' m 90 _ := h.box7.kept h3 (fun e => hne7' (by cases e; rfl))
  have hgr : W'.grownBy (W'.setCell ⟨q, 0, none⟩ v') (some q) := ⟨rfl, rfl, rfl, by simp, fun k _ hk => Below.heap_setCell W' ⟨q, 0, none⟩ _ k (fun e => hk (by rw [e]))⟩
  have mp := h.map.kept h3 (fun e => by have e' : w.heap.size = g := Option.some.inj e; omega)
  have hb : Below w.heap.size W W' := (Below.refl _ W).grown h3 h.bel.size (fun j e => by have e' : g = j := Option.some.inj e; omega)
  have hv' : v'.ownBlock ≠ some q := fun e => by
    obtain ⟨g', off', cap', e0, _, ⟨C', sp', g2'⟩, _⟩ := h2
    subst e0
    cases e
    rw [Boxed, g2'] at b8
    cases b8
  refine ⟨v', W', h1, by simpa using h4, b8, ⟨mp.kept hgr (fun e => by have := h.hq; cases e; omega), h.has, h.emp, h.deps, ?_, b7.kept hgr (fun e => hne7 (by cases e; rfl)), ?_, h.hq, (h.bel.trans hb).setCell (p := ⟨q, 0, none⟩) (Nat.le_of_lt h.hq) _⟩, ?_, ?_, ?_⟩
  · rw [List.map_append]
    exact h2.kept hgr hv'
  · have := heap_set9 b8 0 v'
    simpa [Boxed] using this
  · exact (KeepsOthers.of_grownBy h3 (fun r o e ho => by have e' : g = r := Option.some.inj e; rw [← e', g2] at ho; cases ho; rfl)).trans (KeepsOthers.setCell _ _ _)
  · exact hb.setCell (p := ⟨q, 0, none⟩) (Nat.le_of_lt h.hq) _
  · intro b C' t ht9 ht82 hC'
    have n1 : b ≠ g := fun e => by rw [e, g2] at hC'; cases hC'; exact ht9 rfl
    have n2 : b ≠ q := fun e => by
      have h8 := h.box8
      rw [Boxed, ← e, hC'] at h8
      cases h8
      exact ht82 rfl
    exact (hgr.block b (Nat.lt_of_lt_of_le (Array.getElem?_eq_some_iff.1 hC').1 h3.size) (fun e => n2 (by cases e; rfl))).trans ((h3.block b (Array.getElem?_eq_some_iff.1 hC').1 (fun e => n1 (by cases e; rfl))).trans hC')

theorem Kp.turned {n0 b0 : Nat} {W W' : World} (h : W.mapTurned W' b0) (hn : n0 ≤ W.heap.size) (hb : n0 ≤ b0) : Kp n0 W W' := by
  have hg := World.mapTurned.grown h
  obtain ⟨es, c, es', c', e1, e2⟩ := h
  refine ⟨(Below.refl _ W).grown hg hn (fun j e => by cases e; exact hb), fun b C hC => ?_⟩
  have : b ≠ b0 := fun e => by rw [e, e1] at hC; cases hC
  exact (hg.block b (Array.getElem?_eq_some_iff.1 hC).1 (fun e => this (by cases e; rfl))).trans hC

/-- At the start. -/
theorem St.start {w wm : World} (fr : Fin 26) (hM : MapIs wm w.heap.size (0 + 1) (upd (fun _ => none) (nb fr) dep0)) (hturn : (w.alloc (.map #[] 0)).mapTurned wm w.heap.size) :
    St fr w wm.heap.size (wm.heap.size + 1 + 1) [fr] [fr] (upd (fun _ => none) (nb fr) dep0) (.slice (some ⟨wm.heap.size + 1, 0, none⟩) 1 1)
      (((wm.alloc (.cells #[.map (some w.heap.size)] 90)).alloc (.cells #[.string (nm fr)] 9)).alloc (.cells #[.slice (some ⟨wm.heap.size + 1, 0, none⟩) 1 1] 82)) := by
  have hsz : w.heap.size + 1 ≤ wm.heap.size := by have := (World.mapTurned.grown hturn).size; simpa using this
  have hb : Below w.heap.size w wm := ((Below.refl _ w).alloc (Nat.le_refl _) _).grown (World.mapTurned.grown hturn) (by simp) (fun j e => by cases e; exact Nat.le_refl _)
  have e9 : (((wm.alloc (.cells #[.map (some w.heap.size)] 90)).alloc (.cells #[.string (nm fr)] 9)).alloc (.cells #[.slice (some ⟨wm.heap.size + 1, 0, none⟩) 1 1] 82)).heap[wm.heap.size + 1]? = some (.cells #[.string (nm fr)] 9 (0, 0)) := by
    rw [Below.heap_alloc _ _ _ (by simp)]
    have := World.alloc_heap_new (wm.alloc (.cells #[.map (some w.heap.size)] 90)) (.cells #[.string (nm fr)] 9)
    rwa [World.size_alloc] at this
  refine ⟨((hM.alloc _).alloc _).alloc _, fun k => ?_, ?_, ?_, ?_, ?_, ?_, by omega, ((hb.alloc (by omega) _).alloc (by simp; omega) _).alloc (by simp; omega) _⟩
  · by_cases hk : k = fr
    · subst hk; simp [upd]
    · have : nb k ≠ nb fr := fun x => hk (nb_inj x)
      simp [upd, this, hk]
  · rw [upd, if_neg (fun x => nb_ne fr x.symm)]
  · intro v hv
    simp at hv
    subst hv
    exact .inl ⟨rfl, by rw [upd, if_pos rfl]⟩
  · refine ⟨wm.heap.size + 1, 0, 1, rfl, by omega, ⟨_, _, e9⟩, by simp, fun j hj => ?_, fun j u hu => ?_⟩
    · have : j = 0 := by omega
      subst this
      simp only [World.cell?, World.frozen?, e9]
      exact ⟨rfl, rfl⟩
    · cases j with
      | zero => simp at hu; subst hu; simp only [World.cell?, e9]; rfl
      | succ j => simp at hu
  · rw [Boxed, Below.heap_alloc _ _ _ (by simp; omega), Below.heap_alloc _ _ _ (by simp)]
    exact World.alloc_heap_new wm _
  · have := World.alloc_heap_new ((wm.alloc (.cells #[.map (some w.heap.size)] 90)).alloc (.cells #[.string (nm fr)] 9)) (.cells #[.slice (some ⟨wm.heap.size + 1, 0, none⟩) 1 1] 82)
    rw [World.size_alloc, World.size_alloc] at this
    exact this

theorem St.drew (h : St fr w m q V T f qv W) : St fr w m q V T f qv W.drew := h.own (row := none) ⟨rfl, rfl, rfl, Nat.le_refl _, fun _ _ _ => rfl⟩ (fun r e => by cases e)

theorem visit_fold : ∀ (G : List Leaf) (V : List (Fin 26)), V.Nodup → (G.foldl visit V).Nodup ∧ V <+: G.foldl visit V
  | [], V, h => ⟨h, List.prefix_refl _⟩
  | x :: G, V, h => by
    have h1 : (visit V x).Nodup ∧ V <+: visit V x := by
      obtain ⟨o, st⟩ := x
      cases o with
      | none => exact ⟨h, List.prefix_refl _⟩
      | some k =>
        unfold visit
        by_cases hk : k ∈ V
        · simp only [hk, if_true]; exact ⟨h, List.prefix_refl _⟩
        · simp only [hk, if_false]
          refine ⟨?_, List.prefix_append _ _⟩
          rw [List.nodup_append]
          exact ⟨h, by simp, fun a ha b hb e => by simp at hb; subst hb; subst e; exact hk ha⟩
    obtain ⟨a, b⟩ := visit_fold G (visit V x) h1.1
    exact ⟨a, h1.2.trans b⟩

theorem nodup26 {V : List (Fin 26)} (h : V.Nodup) : V.length ≤ 26 := by
  have h1 := nodup_lt 26 (V.map Fin.val) (by
    rw [List.nodup_iff_pairwise_ne, List.pairwise_map, List.pairwise_iff_getElem]
    intro i j hi hj hij e
    exact List.pairwise_iff_getElem.1 h i j hi hj hij (Fin.ext e)) (fun x hx => by
      obtain ⟨y, _, rfl⟩ := List.mem_map.1 hx
      exact y.2)
  simpa using h1

/-- Between two rounds over the leaves of one relation. -/
def Bd (fr : Fin 26) (w : World) (m q : Nat) (V : List (Fin 26)) (h b9 rb : Nat) (W3 : World) (pre : List Leaf) (W' : World) : Prop :=
  ∃ f' qv', St fr w m q (pre.foldl visit V) ((pre.foldl visit V).drop (h + 1)) f' qv' W' ∧ Boxed W' b9 61 (.pointer (some ⟨rb, 0, none⟩)) ∧ KeepsFrom (w.heap.size + 1) W3 W'

theorem Bd.own {h b9 rb : Nat} {W3 : World} (hW3 : w.heap.size < W3.heap.size) : OwnFrom W3.heap.size (Bd fr w m q V h b9 rb W3) := fun s A B row ⟨f', qv', h1, h2, h3⟩ hg hr =>
  ⟨f', qv', h1.own hg (fun r e => ⟨by have := (hr r e).1; omega, (hr r e).2⟩), boxedOwn h2 hg (fun r e => (hr r e).2), ownFrom_keepsFrom (β := Unit) (Nat.le_refl _) () A B row h3 hg hr⟩

theorem visit_snoc (pre : List Leaf) (x : Leaf) (V : List (Fin 26)) : (pre ++ [x]).foldl visit V = visit (pre.foldl visit V) x := by simp

theorem Bd.stay {h b9 rb B : Nat} {W3 W' : World} {pre : List Leaf} {x : Leaf} (hx : visit (pre.foldl visit V) x = pre.foldl visit V) (hb : Bd fr w m q V h b9 rb W3 pre W') (o : Obj) :
    KeepsFrom B W' (W'.alloc o) ∧ Kp w.heap.size W' (W'.alloc o) ∧ Bd fr w m q V h b9 rb W3 (pre ++ [x]) (W'.alloc o) := by
  obtain ⟨f', qv', h1, h2, h3⟩ := hb
  refine ⟨(KeepsOthers.alloc W' o).from _, Kp.alloc h1.bel.size o, f', qv', ?_, h2.alloc o, h3.trans ((KeepsOthers.alloc W' o).from _)⟩
  rw [visit_snoc, hx]
  exact h1.alloc o

theorem Bd.new {h b9 rb B : Nat} {W3 W' : World} {pre : List Leaf} {k r : Fin 26} {st : Nat} (hV : V.Nodup) (hh : h + 1 ≤ V.length) (hr : r ∈ V) (hk : k ∉ pre.foldl visit V) (hB : w.heap.size < B) {f' : List UInt8 → Option Value} {qv' : Value}
    (h1 : St fr w m q (pre.foldl visit V) ((pre.foldl visit V).drop (h + 1)) f' qv' W') (h2 : Boxed W' b9 61 (.pointer (some ⟨rb, 0, none⟩))) (h3 : KeepsFrom (w.heap.size + 1) W3 W') (e : Bool) :
    ∃ W4 v' W6, (Instr.mapUpdate 90 (.map (some w.heap.size)) (.string (nm k)) (.agg #[.string (nm r), .string (nm k), .bool e])).run Ybaf.prog (W'.alloc (.cells #[.string ⟨#[]⟩, .string ⟨#[]⟩, .bool false] 84)).drew = .ok () W4 ∧
      W4.cell? ⟨q, 0, none⟩ = some qv' ∧ q < W4.heap.size ∧
      (∀ ty, (Builtin.append_ #[82, 82] ty #[qv', .slice (some ⟨W4.heap.size, 0, none⟩) 1 1]).run Ybaf.prog (W4.alloc (.cells #[.string (nm k)] 9)) = .ok v' W6) ∧ (∃ g' n' l' c', v' = .slice (some ⟨g', n', none⟩) l' c') ∧ W6.cell? ⟨q, 0, none⟩ = some qv' ∧ W6.frozen? ⟨q, 0, none⟩ = false ∧
      KeepsFrom B W' (W6.setCell ⟨q, 0, none⟩ v') ∧ Kp w.heap.size W' (W6.setCell ⟨q, 0, none⟩ v') ∧ Bd fr w m q V h b9 rb W3 (pre ++ [(some k, st)]) (W6.setCell ⟨q, 0, none⟩ v') := by
  obtain ⟨hn, hp⟩ := visit_fold pre V hV
  have hn26 := nodup26 hn
  obtain ⟨o, ho⟩ : ∃ o, (.cells #[.string ⟨#[]⟩, .string ⟨#[]⟩, .bool false] 84 : Obj) = o := ⟨_, rfl⟩
  rw [ho]
  have s1 := (h1.alloc o).drew
  obtain ⟨W4, hup, s4, t4⟩ := s1.update (r := r) (k := k) (hp.subset hr) hk hn26 e
  have s5 := s4.alloc (.cells #[.string (nm k)] 9)
  obtain ⟨v', W6, happ, ⟨g', n', c', hv'⟩, b8, s6, ko, kpb, kpc⟩ := s5.push (ab := W4.heap.size) (c := 1) (k := k) (Boxed.new W4 9 (.string (nm k))).cell (by simp; omega)
  have kf4 : ∀ B', w.heap.size < B' → KeepsFrom B' W' W4 := fun B' hB' => ((KeepsOthers.alloc W' o).from B').trans (((KeepsOthers.drew _).from B').trans (KeepsFrom.of_grownBy (World.mapTurned.grown t4) (fun j e => by cases e; exact hB')))
  have kp4 : Kp w.heap.size W' W4 := (Kp.alloc h1.bel.size o).trans (Kp.trans (show Kp w.heap.size (W'.alloc o) (W'.alloc o).drew from ⟨(Below.refl _ _).drew, fun _ _ h => h⟩) (Kp.turned t4 (by have := h1.bel.size; simp; omega) (Nat.le_refl _)))
  have kfa : ∀ B', w.heap.size < B' → KeepsFrom B' W' (W6.setCell ⟨q, 0, none⟩ v') := fun B' hB' => (kf4 B' hB').trans (((KeepsOthers.alloc W4 _).from B').trans (ko.from B'))
  have kpa : Kp w.heap.size W' (W6.setCell ⟨q, 0, none⟩ v') := kp4.trans ((Kp.alloc s4.bel.size _).trans ⟨kpb, fun b C hC => kpc b C 60 (by decide) (by decide) hC⟩)
  refine ⟨W4, v', W6, hup, s4.box8.cell, s4.box8.lt, happ, ⟨g', n', _, c', hv'⟩, b8.cell, b8.frozen, kfa B hB, kpa, upd f' (nb k) (depV (nm r) (nm k) e), v', ?_, ?_, h3.trans (kfa _ (Nat.lt_succ_self _))⟩
  · rw [visit_snoc]
    have e1 : visit (pre.foldl visit V) (some k, st) = pre.foldl visit V ++ [k] := by simp [visit, hk]
    rw [e1, List.drop_append_of_le_length (Nat.le_trans hh hp.length_le)]
    exact s6
  · obtain ⟨es, c, hb⟩ := s1.map.block
    exact kpc b9 _ 61 (by decide) (by decide) ((boxedOwn ((h2.alloc o).kept (row := none) (W' := (W'.alloc o).drew) ⟨rfl, rfl, rfl, Nat.le_refl _, fun _ _ _ => rfl⟩ (by simp)) (World.mapTurned.grown t4) (fun r e => by cases e; exact ⟨_, hb, rfl⟩)).alloc _)
end Go.Proofs.YbulkdblgFmt
