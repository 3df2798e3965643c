/-
  slices.Reverse at this element type.
-/
import Derived.Test.YbulkdblgFmtTu
namespace Go.Proofs.YbulkdblgFmt
open Go.RowKit Go.Shelf

theorem size84 (W : World) : (sizeOf 84).run Ybaf.prog W = .ok 3 W := by kernel_rfl

abbrev put3 (W : World) (g i : Nat) (d : Dep) : World := ((W.setCell ⟨g, i * 3, none⟩ (.string (nm d.1))).setCell ⟨g, i * 3 + 1, none⟩ (.string (nm d.2.1))).setCell ⟨g, i * 3 + 2, none⟩ (.bool d.2.2)

theorem put3_block {W : World} {g i : Nat} {d : Dep} {C : Array Value} (hb : W.heap[g]? = some (.cells C 84 (0, 0))) : ∃ C', C'.size = C.size ∧ (put3 W g i d).heap[g]? = some (.cells C' 84 (0, 0)) :=
  ⟨_, by simp, heap_set9 (heap_set9 (heap_set9 hb _ _) _ _) _ _⟩
theorem put3_grown (W : World) (g i : Nat) (d : Dep) : W.grownBy (put3 W g i d) (some g) :=
  ⟨rfl, rfl, rfl, by simp, fun k _ hk => by
    have hne : k ≠ g := fun e => hk (by rw [e])
    rw [Below.heap_setCell _ ⟨g, i * 3 + 2, none⟩ _ k hne, Below.heap_setCell _ ⟨g, i * 3 + 1, none⟩ _ k hne, Below.heap_setCell _ ⟨g, i * 3, none⟩ _ k hne]⟩

theorem setC_other (W : World) (g o p : Nat) (v : Value) (h : o ≠ p) : (W.setCell ⟨g, o, none⟩ v).cell? ⟨g, p, none⟩ = W.cell? ⟨g, p, none⟩ :=
  World.cell?_setCell_other W ⟨g, o, none⟩ ⟨g, p, none⟩ v (fun e => h (by have := (Addr.mk.injEq .. ▸ e : _ ∧ _ ∧ _).2.1; omega))

theorem put3_other (W : World) (g i p : Nat) (d : Dep) (h : p < i * 3 ∨ i * 3 + 3 ≤ p) : (put3 W g i d).cell? ⟨g, p, none⟩ = W.cell? ⟨g, p, none⟩ := by
  rw [put3, setC_other _ _ _ _ _ (by omega), setC_other _ _ _ _ _ (by omega), setC_other _ _ _ _ _ (by omega)]

theorem put3_same (W : World) (g i : Nat) (d : Dep) {x0 x1 x2 : Value} (h0 : W.cell? ⟨g, i * 3, none⟩ = some x0) (h1 : W.cell? ⟨g, i * 3 + 1, none⟩ = some x1) (h2 : W.cell? ⟨g, i * 3 + 2, none⟩ = some x2) :
    (put3 W g i d).cell? ⟨g, i * 3, none⟩ = some (.string (nm d.1)) ∧ (put3 W g i d).cell? ⟨g, i * 3 + 1, none⟩ = some (.string (nm d.2.1)) ∧ (put3 W g i d).cell? ⟨g, i * 3 + 2, none⟩ = some (.bool d.2.2) := by
  refine ⟨?_, ?_, ?_⟩
  · rw [put3, setC_other _ _ _ _ _ (by omega), setC_other _ _ _ _ _ (by omega)]
    exact World.cell?_setCell_same W ⟨g, i * 3, none⟩ _ h0
  · rw [put3, setC_other _ _ _ _ _ (by omega)]
    exact World.cell?_setCell_same _ ⟨g, i * 3 + 1, none⟩ _ ((setC_other _ _ _ _ _ (by omega)).trans h1)
  · exact World.cell?_setCell_same _ ⟨g, i * 3 + 2, none⟩ _ (((setC_other _ _ _ _ _ (by omega)).trans (setC_other _ _ _ _ _ (by omega))).trans h2)

theorem Triples.put {W : World} {g i : Nat} {PD : List Dep} {d e : Dep} (h : Triples W g PD) (hi : PD[i]? = some e) : Triples (put3 W g i d) g (PD.set i d) := by
  intro k x hk
  obtain ⟨a0, a1, a2⟩ := h i e hi
  by_cases hki : k = i
  · subst hki
    have : x = d := by
      rw [List.getElem?_set_self ((List.getElem?_eq_some_iff.1 hi).1)] at hk
      exact (Option.some.inj hk).symm
    subst this
    exact put3_same W g k x a0 a1 a2
  · rw [List.getElem?_set_ne (fun e => hki e.symm)] at hk
    obtain ⟨b0, b1, b2⟩ := h k x hk
    exact ⟨(put3_other W g i _ d (by omega)).trans b0, (put3_other W g i _ d (by omega)).trans b1, (put3_other W g i _ d (by omega)).trans b2⟩
theorem grown_trans {A B C : World} {r : Option Nat} (h : A.grownBy B r) (k : B.grownBy C r) : A.grownBy C r :=
  ⟨k.1.trans h.1, k.2.trans h.2, k.3.trans h.3, Nat.le_trans h.size k.size, fun b hb hne => (k.block b (Nat.lt_of_lt_of_le hb h.size) hne).trans (h.block b hb hne)⟩

set_option maxHeartbeats 1000000 in
theorem reverse_any (g cap : Nat) (PD : List Dep) (cur : Array Value) (W : World) (hb : W.heap[g]? = some (.cells cur 84 (0, 0))) (hs : cur.size = cap * 3) (hl : PD.length ≤ 100) (hT : Triples W g PD) :
    Calls Ybaf.prog 23 #[.slice (some ⟨g, 0, none⟩) PD.length cap] W fun e W' => (∃ v, e = .returned v) ∧ W.grownBy W' (some g) ∧ (∃ C, W'.heap[g]? = some (.cells C 84 (0, 0))) ∧ ∃ PD', List.length PD' = PD.length ∧ Triples W' g PD' := by
  go_enter Ybaf.func23, Ybaf.ntmps23
  go_wp2
  go_loopw [2, 3] (fun s2 s3 wr => ∃ (i : Nat) (P' : List Dep) (C : Array Value), s2 = .int .i64 i ∧ s3 = .int .i64 ((PD.length : Int) - 1 - i) ∧ P'.length = PD.length ∧ Triples wr g P' ∧ wr.heap[g]? = some (.cells C 84 (0, 0)) ∧ C.size = cap * 3 ∧ W.grownBy wr (some g)) (fun s2 _ _ => 100 - (intOf s2).toNat)
  case atStart => exact ⟨0, PD, cur, rfl, by simp, rfl, hT, hb, hs, ⟨rfl, rfl, rfl, Nat.le_refl _, fun _ _ _ => rfl⟩⟩
  case round =>
    obtain ⟨i, P', C, rfl, rfl, hl', hT', hb', hs', hg'⟩ := hrel
    by_cases hlt : (i : Int) < (PD.length : Int) - 1 - i
    · obtain ⟨j, hj⟩ : ∃ j : Nat, (PD.length : Int) - 1 - i = j := ⟨PD.length - 1 - i, by omega⟩
      rw [hj] at hlt ⊢
      obtain ⟨di, hdi⟩ : ∃ d, P'[i]? = some d := ⟨P'[i]'(by omega), by simp⟩
      obtain ⟨dj, hdj⟩ : ∃ d, P'[j]? = some d := ⟨P'[j]'(by omega), by simp⟩
      obtain ⟨a1, a2, a3⟩ := hT' i di hdi
      obtain ⟨b1, b2, b3⟩ := hT' j dj hdj
      have hfz : ∀ o, wr.frozen? ⟨g, o, none⟩ = false := fun o => by simp [World.frozen?, hb']
      have hij : i < PD.length := by omega
      have hjj : j < PD.length := by omega
      have hPj : (P'.set i dj)[j]? = some dj := by rw [List.getElem?_set_ne (by omega)]; exact hdj
      have hT2 : Triples (put3 (put3 wr g i dj) g j di) g ((P'.set i dj).set j di) := (hT'.put hdi).put hPj
      have hlen : ((P'.set i dj).set j di).length = PD.length := by simp [hl']
      obtain ⟨C1, hs1, hb1⟩ := put3_block (i := i) (d := dj) hb'
      obtain ⟨C2, hs2, hb2⟩ := put3_block (i := j) (d := di) hb1
      have hg2 := grown_trans (grown_trans hg' (put3_grown wr g i dj)) (put3_grown _ g j di)
      obtain ⟨X, hX⟩ : ∃ X, put3 (put3 wr g i dj) g j di = X := ⟨_, rfl⟩
      rw [hX] at hT2 hb2 hg2
      have fin : ∃ (k : Nat) (P2 : List Dep) (C : Array Value), Value.int .i64 ((i : Int) + 1) = .int .i64 k ∧ Value.int .i64 ((j : Int) - 1) = .int .i64 ((PD.length : Int) - 1 - k) ∧ P2.length = PD.length ∧ Triples X.drew g P2 ∧ X.drew.heap[g]? = some (.cells C 84 (0, 0)) ∧ C.size = cap * 3 ∧ W.grownBy X.drew (some g) :=
        ⟨i + 1, _, C2, rfl, by congr 1; omega, hlen, hT2, hb2, by omega, ⟨hg2.1, hg2.2, hg2.3, hg2.size, hg2.block⟩⟩
      subst hX
      have Fin' := hideT fin
      clear fin hT2 hb1 hb2 hg2 hT' hb' hg' hPj hT hb
      go_wp2
      go_region
      go_wp2
      exact ⟨unhideT Fin', by simp [intOf]; omega⟩
    · go_wp2
      go_end0
      exact ⟨⟨_, rfl⟩, hg', ⟨C, hb'⟩, P', hl', hT'⟩
end Go.Proofs.YbulkdblgFmt
