/-
  slices.SortFunc at the comparison of tryShortest, by the shelf's contract.
-/
import Derived.Test.YbulkdbnySb
import Derived.Test.YbulkdbnyShelf
import Derived.Shelf.SlSortCmp.NoneTotal
namespace Go.Proofs.Ybulkdbny
open Go.RowKit Go.Shelf Go.Lib Go.Sort

theorem cmpQ_neg (es : Nat → Int) (a b : Nat) : cmpQ es a b < 0 ↔ ltQ es a b := by
  unfold cmpQ orI cmpI ltQ
  by_cases h1 : es a < es b
  · simp [h1]
  · by_cases h2 : es b < es a
    · simp [h1, h2]
      omega
    · have e : es a = es b := by omega
      by_cases h3 : a < b
      · simp [e, h3]
      · by_cases h4 : b < a <;> simp [e, h3, h4]

def encF {m : Nat} (x : Fin (m + 1)) : Value := .int .i64 (x.val : Int)
def cfF (es : Nat → Int) {m : Nat} (x y : Fin (m + 1)) : Int := cmpQ es x.val y.val

theorem ltF (es : Nat → Int) {m : Nat} (x y : Fin (m + 1)) : ltOf (cfF es) x y = true ↔ ltQ es x.val y.val := by
  unfold ltOf cfF
  simp [cmpQ_neg]
theorem ltF' (es : Nat → Int) {m : Nat} (x y : Fin (m + 1)) : ltOf (cfF es) x y = false ↔ ¬ ltQ es x.val y.val := by
  rw [← ltF es x y]
  simp

theorem swoF (es : Nat → Int) (m : Nat) : SWO (ltOf (cfF es (m := m))) where
  irrefl x := by rw [ltF']; unfold ltQ; omega
  trans x y z h1 h2 := by rw [ltF] at *; unfold ltQ at *; omega
  ntrans x y z h1 h2 := by rw [ltF'] at *; unfold ltQ at *; omega
theorem totF (es : Nat → Int) {m : Nat} (x y : Fin (m + 1)) (h1 : ltOf (cfF es) x y = false) (h2 : ltOf (cfF es) y x = false) : x = y := by
  rw [ltF'] at h1 h2
  unfold ltQ at h1 h2
  apply Fin.ext
  omega

theorem size_sortWorld {m : Nat} (w : World) (blk off q : Nat) (dk : Array (Fin (m + 1))) : (putRow encF (Sort.ahead w q) blk off dk).heap.size = w.heap.size := by
  simp [putRow, mapBlock, Sort.ahead]

theorem cell_sortWorld {m : Nat} (w : World) (blk off q : Nat) (dk : Array (Fin (m + 1))) (os : Array Obj) (a : Addr) (h : a.block ≠ blk) (hlt : a.block < w.heap.size) :
    (sortWorld encF w blk off q dk os).cell? a = w.cell? a := by
  unfold sortWorld
  rw [cell?_grow _ _ _ (by rw [size_sortWorld]; exact hlt), cell?_putRow_other _ _ _ _ _ _ (Or.inl h)]
  rfl

theorem block_sortWorld {m : Nat} (w : World) (blk off q : Nat) (dk : Array (Fin (m + 1))) (os : Array Obj) : w.grownBy (sortWorld encF w blk off q dk os) (some blk) := by
  refine ⟨rfl, rfl, rfl, ?_, fun k hk hne => ?_⟩
  · unfold sortWorld; rw [size_grow, size_sortWorld]; omega
  · unfold sortWorld
    rw [heap_grow_old _ _ (by rw [size_sortWorld]; exact hk)]
    have hne' : blk ≠ k := fun e => hne (by rw [e])
    simp [putRow, mapBlock, Sort.ahead, Array.getElem?_modify, hne']

set_option maxHeartbeats 1000000 in
theorem sort_some (wr : World) (B bx pb qg m g cap : Nat) (es : Nat → Int) (d : Array (Fin (m + 1))) (hH : Holds encF wr g 0 d) (hg : g < wr.heap.size) (hB : B ≤ g) (hd : d.size ≤ 1024)
    (h1 : bx < B) (h2 : pb < B) (h3 : qg < B) (c1 : wr.cell? ⟨bx, 0, none⟩ = some (.pointer (some ⟨pb, 0, none⟩))) (c2 : wr.cell? ⟨pb, 0, none⟩ = some (.slice (some ⟨qg, 0, none⟩) (m + 1) (m + 1)))
    (c3 : ∀ i, i < m + 1 → wr.cell? ⟨qg, i * 6 + 2, none⟩ = some (.int .i64 (es i))) :
    Calls Yba.prog 8 #[.slice (some ⟨g, 0, none⟩) d.size cap, .func (.func 9) #[] #[.pointer (some ⟨bx, 0, none⟩)]] wr fun e w' =>
      e = .returned (.tuple #[]) ∧ ∃ n os, w' = sortWorld encF wr g 0 n (d.toList.mergeSort fun x y => !(ltOf (cfF es)) y x).toArray os := by
  have eg : ∀ args w, (callFunc 9 args).run Yba.prog w = .ok (.enter 9 args) w := enters_of Yba.func9 (by kernel_rfl) rfl
  have hcmp : CmpLays1 Yba.prog 9 #[.pointer (some ⟨bx, 0, none⟩)] (encF (m := m)) (cfF es) g 0 d.size wr := by
    intro q os dk _ x y
    have hc := fun (a : Addr) (h : a.block < B) => cell_sortWorld wr g 0 q dk os a (by omega) (by omega)
    have := clos9 bx pb qg (m + 1) es x.val y.val (sortWorld encF wr g 0 q dk os) (by rw [hc _ h1]; exact c1) (by rw [hc _ h2]; exact c2) x.isLt y.isLt (by rw [hc _ h3]; exact c3 _ x.isLt) (by rw [hc _ h3]; exact c3 _ y.isLt)
    refine this.mono ?_
    rintro e w' ⟨he, q', o, hw⟩
    refine ⟨he, q', #[o], ?_⟩
    rw [hw, alloc_eq_grow]
    rfl
  exact Any.slices_SortFunc_total Yba.sortL encF (fun _ => rfl) (cfF es) (swoF es m) 9 #[.pointer (some ⟨bx, 0, none⟩)] g 0 cap d wr eg hcmp hH hg (by omega) (totF es)

theorem sort_none (p : Option Addr) (c : Nat) (fv : Value) (w : World) : Calls Yba.prog 8 #[.slice p 0 c, fv] w fun e w' => e = .returned (.tuple #[]) ∧ w' = w :=
  AnyF.slices_SortFunc_none (P := Yba.prog) (ρ := Yba.sortL_ren) { Yba.sortL with } p c fv w

def toF (m : Nat) (F : List Nat) : Array (Fin (m + 1)) := (F.map (fun x => Fin.ofNat (m + 1) x)).toArray

theorem toF_val {m : Nat} {F : List Nat} (h : ∀ x ∈ F, x < m + 1) : (toF m F).toList.map (·.val) = F := by
  simp only [toF, List.map_map]
  conv => rhs; rw [← List.map_id F]
  apply List.map_congr_left
  intro x hx
  simp [Fin.ofNat, Nat.mod_eq_of_lt (h x hx)]

theorem holdsF {w : World} {B g cap m : Nat} {F : List Nat} (h : OwnI w B (.slice (some ⟨g, 0, none⟩) F.length cap) (F.map fun (x : Nat) => (x : Int))) (hF : ∀ x ∈ F, x < m + 1) : Holds encF w g 0 (toF m F) := by
  intro j hj
  have hj' : j < F.length := by simpa [toF] using hj
  constructor
  · have hc := World.ownsRow.cells h (g := g) rfl j (.int .i64 (F[j] : Nat)) (by simp [cellsI, hj'])
    rw [WideShapes.add_plain] at hc
    rw [hc]
    simp [encF, toF, hj', Fin.ofNat, Nat.mod_eq_of_lt (hF F[j] (List.getElem_mem hj'))]
  · rcases h.2 with ⟨he, _⟩ | ⟨g', cap', cur, he, _, hg, _⟩
    · cases he
    · obtain ⟨rfl, rfl⟩ : g = g' ∧ cap = cap' := by simpa using he
      simp [World.frozen?, hg]

set_option maxHeartbeats 1000000 in
theorem sort_list (wr : World) (B bx pb qg n : Nat) (es : Nat → Int) (v : Value) (F : List Nat) (hown : OwnI wr B v (F.map fun (x : Nat) => (x : Int))) (hF : ∀ x ∈ F, x < n) (hN : F.Nodup) (hl : F.length ≤ 1024)
    (h1 : bx < B) (h2 : pb < B) (h3 : qg < B) (c1 : wr.cell? ⟨bx, 0, none⟩ = some (.pointer (some ⟨pb, 0, none⟩))) (c2 : wr.cell? ⟨pb, 0, none⟩ = some (.slice (some ⟨qg, 0, none⟩) n n))
    (c3 : ∀ i, i < n → wr.cell? ⟨qg, i * 6 + 2, none⟩ = some (.int .i64 (es i))) :
    Calls Yba.prog 8 #[v, .func (.func 9) #[] #[.pointer (some ⟨bx, 0, none⟩)]] wr fun e w' => e = .returned (.tuple #[]) ∧ ∃ L : List Nat, L.Perm F ∧ L.Pairwise (ltQ es) ∧ wr.grownBy w' v.ownBlock ∧
      ∃ (a : Option Addr) (cap g : Nat), v = .slice a L.length cap ∧ (0 < L.length → a = some ⟨g, 0, none⟩) ∧ (0 < L.length → g < wr.heap.size) ∧ ∀ i, i < L.length → w'.cell? ⟨g, i, none⟩ = some (.int .i64 (L.getD i 0)) := by
  rcases Nat.eq_zero_or_pos F.length with h0 | hpos
  · have hF0 : F = [] := List.length_eq_zero_iff.1 h0
    subst hF0
    have hv : ∃ a cap, v = .slice a 0 cap := by
      rcases hown.2 with ⟨he, _⟩ | ⟨g, cap, cur, he, _⟩
      · exact ⟨_, _, he⟩
      · exact ⟨_, _, he⟩
    obtain ⟨a, cap, rfl⟩ := hv
    refine (sort_none a cap _ wr).mono ?_
    rintro e w' ⟨he, rfl⟩
    exact ⟨he, [], List.Perm.refl _, List.Pairwise.nil, World.grownBy.refl _ _, a, cap, 0, rfl, fun h => by simp at h, fun h => by simp at h, fun i hi => by simp at hi⟩
  · obtain ⟨m, rfl⟩ : ∃ m, n = m + 1 := by
      cases n with
      | zero => have := hF (F[0]) (List.getElem_mem hpos); omega
      | succ m => exact ⟨m, rfl⟩
    obtain ⟨g, cap, hv, hg, hgl⟩ := World.ownsRow.form hown (by simpa using hpos)
    rw [List.length_map] at hv
    subst hv
    have hsz : (toF m F).size = F.length := by simp [toF]
    have hs := sort_some wr B bx pb qg m g cap es (toF m F) (holdsF hown hF) hgl hg (by omega) h1 h2 h3 c1 c2 c3
    rw [hsz] at hs
    refine hs.mono ?_
    rintro e w' ⟨he, q, os, rfl⟩
    have hperm : ((toF m F).toList.mergeSort fun x y => !(ltOf (cfF es)) y x).Perm (toF m F).toList := List.mergeSort_perm _ _
    have hsorted := List.pairwise_mergeSort (le := fun x y : Fin (m + 1) => !(ltOf (cfF es)) y x) (by
        intro a b c h1 h2
        simp only [Bool.not_eq_true', ltF'] at *
        unfold ltQ at *
        omega) (by
        intro a b
        cases h : ltOf (cfF es) b a
        · simp
        · simp only [ltF] at h
          simp only [Bool.not_true, Bool.false_or, Bool.not_eq_true', ltF']
          unfold ltQ at *
          omega) (toF m F).toList
    generalize hM : ((toF m F).toList.mergeSort fun x y => !(ltOf (cfF es)) y x) = M at hperm hsorted
    have hL : (M.map (·.val)).Perm F := by
      have := hperm.map (fun x : Fin (m + 1) => x.val)
      rwa [toF_val hF] at this
    have hlen : (M.map (·.val)).length = F.length := hL.length_eq
    have hlenM : M.length = F.length := by simpa using hlen
    refine ⟨he, M.map (·.val), hL, ?_, block_sortWorld _ _ _ _ _ _, some ⟨g, 0, none⟩, cap, g, by rw [hlen], fun _ => rfl, fun _ => hgl, fun i hi => ?_⟩
    · have hnd : (M.map (·.val)).Nodup := hL.nodup_iff.2 hN
      have hP : (M.map (·.val)).Pairwise (fun a b => ¬ ltQ es b a) := by
        rw [List.pairwise_map]
        exact hsorted.imp (fun {a b} h => by simpa [ltF'] using h)
      exact (hP.and hnd).imp (fun {a b} h => by
        obtain ⟨h1, h2⟩ := h
        unfold ltQ at *
        omega)
    · have hi' : i < M.toArray.size := by simpa using hi
      unfold sortWorld
      rw [cell?_grow _ _ _ (by rw [size_sortWorld]; exact hgl)]
      have := cell?_putRow encF (Sort.ahead wr q) g 0 (toF m F) M.toArray (holdsF hown hF) (by simp [hsz, hlenM]) i hi'
      rw [Nat.zero_add] at this
      rw [this]
      have hi2 : i < M.length := by simpa using hi
      simp [encF, hi2]
end Go.Proofs.Ybulkdbny
