/-
  The type that the laws build: the names, the relations laid one by one.
-/
import Derived.Test.YbulkdblgFmtTy
import Derived.Maps.Own
namespace Go.Proofs.YbulkdblgFmt
open Go.RowKit Go.Shelf

/-- The i-th name's number. -/
def fn (i : Nat) : Fin 26 := ⟨i % 26, Nat.mod_lt _ (by decide)⟩
theorem fn_val {i : Nat} (h : i < 26) : (fn i).val = i := Nat.mod_eq_of_lt h
theorem fn_of (k : Fin 26) : fn k.val = k := Fin.ext (Nat.mod_eq_of_lt k.2)

theorem enc_nm (k : Fin 26) : Utf8.encode (97 + (k.val : Int)) = nm k := by
  have h : ∀ k : Fin 26, (Utf8.encode (97 + (k.val : Int))).data = (nm k).data := by decide +kernel
  exact ByteArray.ext (h k)

set_option maxHeartbeats 400000 in
theorem name_any (i : Nat) (hi : i < 26) (w : World) : Calls Ybaf.prog 9 #[.int .i64 i] w fun e w' => e = .returned (.string (nm (fn i))) ∧ w' = w := by
  go_enter Ybaf.func9, Ybaf.ntmps9
  go_wp2
  go_ret
  have he := enc_nm (fn i)
  rw [fn_val hi] at he
  exact ⟨congrArg (fun s => Ending.returned (.string s)) he, rfl⟩

theorem wpList_mapUpdate_is {w : World} {ops : Array Oper} {rest : List Oper} {o : Oper} {a : Act} {Q : Exit → Act → World → Prop} (hg : o.guard = none) (m x v : Operand) (t e : TypeId) (hop : o.op = Op.mapUpdate t m x v)
    (ht : Ybaf.prog.underlying t = some (.map 9 e)) (b n : Nat) (f : List UInt8 → Option Value) (hm : a.eval m = .map (some b)) (hown : MapIs w b n f) (hn : n < maxLen) (s : ByteArray) (val : Value) (hx : a.eval x = .string s) (hv : a.eval v = val) (hs : s.size ≤ maxLen)
    (hK : ∀ w', MapIs w' b (n + 1) (upd f s.data.toList val) → w.mapTurned w' b → wpList Ybaf.prog ops Q rest (a.put o.dst undef) w') : wpList Ybaf.prog ops Q (o :: rest) a w := by
  refine wpList_plain hg fun K' hK' => ?_
  obtain ⟨w', hrun, r1, r2⟩ := hown.update ht hn s hs val
  unfold Oper.wp
  simp [execOp, hop, hm, hx, hv, hrun, Result.andThen]
  exact hK' _ _ (hK w' r1 r2)

/-- Every cell holds what it held. -/
def CellsKept (W W' : World) : Prop := ∀ p v, W.cell? p = some v → W'.cell? p = some v
theorem CellsKept.refl (W : World) : CellsKept W W := fun _ _ h => h
theorem CellsKept.trans {A B C : World} (h : CellsKept A B) (k : CellsKept B C) : CellsKept A C := fun p v e => k p v (h p v e)
theorem CellsKept.alloc (W : World) (o : Obj) : CellsKept W (W.alloc o) := fun p v h => by
  obtain ⟨b, off, sp⟩ := p
  have hlt : b < W.heap.size := by
    rcases Nat.lt_or_ge b W.heap.size with h' | h'
    · exact h'
    · simp [World.cell?, Array.getElem?_eq_none h'] at h
  rw [World.cell?_alloc_lt _ _ _ hlt]; exact h
theorem CellsKept.drew (W : World) : CellsKept W W.drew := fun _ _ h => h
theorem CellsKept.turned {W W' : World} {b : Nat} (h : W.mapTurned W' b) : CellsKept W W' := fun p v hv => by
  have hg := World.mapTurned.grown h
  obtain ⟨es, c, es', c', e1, e2⟩ := h
  obtain ⟨pb, off, sp⟩ := p
  have hne : pb ≠ b := fun e => by rw [e] at hv; simp [World.cell?, e1] at hv
  have hlt : pb < W.heap.size := by
    rcases Nat.lt_or_ge pb W.heap.size with h' | h'
    · exact h'
    · simp [World.cell?, Array.getElem?_eq_none h'] at hv
  have hb := hg.block pb hlt (fun e => hne (by cases e; rfl))
  rw [World.cell?_of_block (a := ⟨pb, off, sp⟩) hb]; exact hv

theorem IsTm.kept {n0 : Nat} {W W' : World} (hk : CellsKept W W') : ∀ {h : Nat} {v : Value} {G : List Leaf}, IsTm n0 W h v G → IsTm n0 W' h v G
  | 0, _, _, ht => ht
  | h + 1, _, _, Or.inl ht => Or.inl (IsTm.kept hk (h := h) ht)
  | h + 1, _, _, Or.inr ⟨op, b, off, cap, subs, e, hlt, hn, ho, hs, hG⟩ => Or.inr ⟨op, b, off, cap, subs, e, hlt, hn, ho, fun i s hi => ⟨hk _ _ (hs i s hi).1, IsTm.kept hk (h := h) (hs i s hi).2⟩, hG⟩

/-- The first m relations lie in the map. -/
structure Pre (w0 : World) (tb mb : Nat) (L : Fin 26 → List Leaf) (m : Nat) (W : World) : Prop where
  cell : W.cell? ⟨tb, 2, none⟩ = some (.map (some mb))
  htb : tb < W.heap.size
  hmb : mb < W.heap.size
  new : w0.heap.size ≤ mb
  bel : Below w0.heap.size w0 W
  rels : ∃ (f : List UInt8 → Option Value) (rb : Fin 26 → Nat), MapIs W mb m f ∧ ∀ k : Fin 26, k.val < m → f (nb k) = some (.pointer (some ⟨rb k, 0, none⟩)) ∧ rb k < W.heap.size ∧ W.cell? ⟨rb k, 0, none⟩ = some (.string (nm k)) ∧ ∃ v h, W.cell? ⟨rb k, 2, none⟩ = some v ∧ IsTm W.heap.size W h v (L k)

variable {w0 W : World} {tb mb m : Nat} {L : Fin 26 → List Leaf}

theorem Pre.alloc (h : Pre w0 tb mb L m W) (o : Obj) : Pre w0 tb mb L m (W.alloc o) := by
  obtain ⟨f, rb, h1, h2⟩ := h.rels
  refine ⟨CellsKept.alloc W o _ _ h.cell, by have := h.htb; simp; omega, by have := h.hmb; simp; omega, h.new, h.bel.alloc h.bel.size o, f, rb, h1.alloc o, fun k hk => ?_⟩
  obtain ⟨a1, a2, a3, v, hh, a4, a5⟩ := h2 k hk
  exact ⟨a1, by simp; omega, CellsKept.alloc W o _ _ a3, v, hh, CellsKept.alloc W o _ _ a4, (a5.kept (CellsKept.alloc W o)).mono (by simp)⟩
theorem Pre.drew (h : Pre w0 tb mb L m W) : Pre w0 tb mb L m W.drew := by
  obtain ⟨f, rb, h1, h2⟩ := h.rels
  exact ⟨h.cell, h.htb, h.hmb, h.new, h.bel.drew, f, rb, h1.drew, fun k hk => by
    obtain ⟨a1, a2, a3, v, hh, a4, a5⟩ := h2 k hk
    exact ⟨a1, a2, a3, v, hh, a4, a5.kept (CellsKept.drew W)⟩⟩

/-- One relation more. -/
theorem Pre.add {W' : World} {f : List UInt8 → Option Value} {rb : Fin 26 → Nat} {k : Fin 26} {r h : Nat} {v : Value} (hcell : W.cell? ⟨tb, 2, none⟩ = some (.map (some mb))) (htb : tb < W.heap.size) (hmb : mb < W.heap.size) (hnew : w0.heap.size ≤ mb) (hbel : Below w0.heap.size w0 W) (hrels : ∀ j : Fin 26, j.val < k.val → f (nb j) = some (.pointer (some ⟨rb j, 0, none⟩)) ∧ rb j < W.heap.size ∧ W.cell? ⟨rb j, 0, none⟩ = some (.string (nm j)) ∧ ∃ v h, W.cell? ⟨rb j, 2, none⟩ = some v ∧ IsTm W.heap.size W h v (L j))
    (hm : MapIs W' mb (k.val + 1) (upd f (nb k) (.pointer (some ⟨r, 0, none⟩)))) (ht : W.mapTurned W' mb) (hr : r < W.heap.size) (h0 : W.cell? ⟨r, 0, none⟩ = some (.string (nm k))) (h2 : W.cell? ⟨r, 2, none⟩ = some v) (hT : IsTm W.heap.size W h v (L k)) : Pre w0 tb mb L (k.val + 1) W' := by
  have hk := CellsKept.turned ht
  have hg := World.mapTurned.grown ht
  have hsz := hg.size
  refine ⟨hk _ _ hcell, Nat.lt_of_lt_of_le htb hsz, Nat.lt_of_lt_of_le hmb hsz, hnew, hbel.grown hg hbel.size (fun j e => by cases e; exact hnew), _, fun j => if j = k then r else rb j, hm, fun j hj => ?_⟩
  by_cases hjk : j = k
  · subst hjk
    simp only [upd, if_true]
    exact ⟨trivial, Nat.lt_of_lt_of_le hr hsz, hk _ _ h0, v, h, hk _ _ h2, (hT.kept hk).mono hsz⟩
  · have hlt : j.val < k.val := by
      have : j.val ≠ k.val := fun e => hjk (Fin.ext e)
      omega
    obtain ⟨a1, a2, a3, v', h', a4, a5⟩ := hrels j hlt
    have hne : nb j ≠ nb k := fun e => hjk (nb_inj e)
    simp only [upd, if_neg hne, if_neg hjk]
    exact ⟨a1, Nat.lt_of_lt_of_le a2 hsz, hk _ _ a3, v', h', hk _ _ a4, (a5.kept hk).mono hsz⟩

theorem Pre.graph (h : Pre w0 tb mb L m W) (hc : ∀ k : Fin 26, k.val < m → ∀ o st, (some o, st) ∈ L k → o.val < m) : Graph W.heap.size W tb (fun k => decide (k.val < m) = true) L := by
  obtain ⟨f, rb, h1, h2⟩ := h.rels
  refine ⟨mb, m, f, rb, h.htb, h.hmb, h.cell, h1, fun k hk => ?_⟩
  have hk' : k.val < m := of_decide_eq_true hk
  obtain ⟨a1, a2, a3, a4⟩ := h2 k hk'
  exact ⟨a1, a2, a3, a4, fun o st ho => decide_eq_true (hc k hk' o st ho)⟩

/-- Two sides. -/
theorem isTm_two {n0 : Nat} {W : World} {op : Int} {b c : Nat} {o0 o1 : Option (Fin 26)} (hb : b < n0) (ho : op = 0 ∨ op = 1 ∨ op = 2) (h0 : W.cell? ⟨b, 0, none⟩ = some (tv o0)) (h1 : W.cell? ⟨b, 1, none⟩ = some (tv o1)) :
    IsTm n0 W 1 (.iface 60 (.agg #[.int .i64 op, .slice (some ⟨b, 0, none⟩) 2 c])) [(o0, inOf op 0), (o1, inOf op 1)] := by
  refine Or.inr ⟨op, b, 0, c, [(tv o0, [(o0, 0)]), (tv o1, [(o1, 0)])], rfl, hb, by simp, ho, fun i s hi => ?_, by simp [sides, weak]⟩
  match i, hi with
  | 0, hi => simp at hi; subst hi; exact ⟨by simpa using h0, Or.inr ⟨o0, rfl, rfl⟩⟩
  | 1, hi => simp at hi; subst hi; exact ⟨by simpa using h1, Or.inr ⟨o1, rfl, rfl⟩⟩
  | i + 2, hi => simp at hi
end Go.Proofs.YbulkdblgFmt
