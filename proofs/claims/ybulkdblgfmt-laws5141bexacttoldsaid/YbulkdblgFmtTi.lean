/-
  LawS5141BExact: the closure's matrices between two steps.
-/
import Derived.Test.YbulkdblgFmtTg
namespace Go.Proofs.YbulkdblgFmt
open Go.RowKit Go.Shelf

theorem clo_col {M : Nat → Nat → Bool} (hM : ∀ i, M i i = true) (k i : Nat) : clo M (k + 1) i k = clo M k i k := by simp [clo, clo_refl hM k k]
theorem clo_row {M : Nat → Nat → Bool} (hM : ∀ i, M i i = true) (k j : Nat) : clo M (k + 1) k j = clo M k k j := by simp [clo, clo_refl hM k k]

/-- The first rows of M, and a part of row i. -/
def partM (M : Nat → Nat → Bool) (i j a b : Nat) : Bool := (decide (a < i) || (decide (a = i) && decide (b < j))) && M a b
theorem partM_start (M : Nat → Nat → Bool) (a b : Nat) : partM M 0 0 a b = false := by simp [partM]
theorem partM_row {M : Nat → Nat → Bool} {n i a b : Nat} (hb : b < n) : partM M i n a b = partM M (i + 1) 0 a b := by
  unfold partM
  by_cases h : a = i
  · subst h; simp [hb]
  · have : (decide (a < i + 1)) = decide (a < i) := by congr 1; simp; omega
    simp [h, this]
theorem partM_step (M : Nat → Nat → Bool) (i j a b : Nat) : partM M i (j + 1) a b = if a = i ∧ b = j then M i j else partM M i j a b := by
  unfold partM
  by_cases h : a = i
  · subst h
    by_cases hb : b = j
    · subst hb; simp
    · have : (decide (b < j + 1)) = decide (b < j) := by congr 1; simp; omega
      simp [hb, this]
  · simp [h]
theorem partM_all {M : Nat → Nat → Bool} {n a b : Nat} (ha : a < n) : partM M n 0 a b = M a b := by simp [partM, ha]

/-- Within round k of the closure. -/
def mixM (M : Nat → Nat → Bool) (k i j a b : Nat) : Bool := if a < i ∨ (a = i ∧ b < j) then clo M (k + 1) a b else clo M k a b
theorem mixM_start (M : Nat → Nat → Bool) (k a b : Nat) : mixM M k 0 0 a b = clo M k a b := by simp [mixM]
theorem mixM_row {M : Nat → Nat → Bool} {k n i a b : Nat} (hb : b < n) : mixM M k i n a b = mixM M k (i + 1) 0 a b := by
  unfold mixM
  by_cases h : a < i ∨ (a = i ∧ b < n)
  · rw [if_pos h, if_pos (by omega)]
  · rw [if_neg h, if_neg (by omega)]
theorem mixM_all {M : Nat → Nat → Bool} {k n a b : Nat} (ha : a < n) : mixM M k n 0 a b = clo M (k + 1) a b := by
  unfold mixM
  rw [if_pos (.inl ha)]
theorem mixM_col {M : Nat → Nat → Bool} (hM : ∀ i, M i i = true) (k i j : Nat) : mixM M k i j i k = clo M k i k := by
  unfold mixM
  split
  · exact clo_col hM k i
  · rfl
theorem mixM_krow {M : Nat → Nat → Bool} (hM : ∀ i, M i i = true) (k i j : Nat) : mixM M k i j k j = clo M k k j := by
  unfold mixM
  split
  · exact clo_row hM k j
  · rfl
theorem mixM_hit {M : Nat → Nat → Bool} {k i j : Nat} (h1 : clo M k i k = true) (h2 : clo M k k j = true) (a b : Nat) : mixM M k i (j + 1) a b = if a = i ∧ b = j then true else mixM M k i j a b := by
  by_cases h : a = i ∧ b = j
  · obtain ⟨rfl, rfl⟩ := h
    simp [mixM, clo, h1, h2]
  · rw [if_neg h]
    unfold mixM
    by_cases h' : a < i ∨ (a = i ∧ b < j)
    · rw [if_pos h', if_pos (by omega)]
    · rw [if_neg h', if_neg (by omega)]
theorem mixM_miss {M : Nat → Nat → Bool} {k i j : Nat} (h : (clo M k i k && clo M k k j) = false) (a b : Nat) : mixM M k i j a b = mixM M k i (j + 1) a b := by
  by_cases e : a = i ∧ b = j
  · obtain ⟨rfl, rfl⟩ := e
    simp [mixM, clo, h]
  · unfold mixM
    by_cases h' : a < i ∨ (a = i ∧ b < j)
    · rw [if_pos h', if_pos (by omega)]
    · rw [if_neg h', if_neg (by omega)]

/-- The third matrix; whatever lay before it lies as it lay. -/
structure Rc (X : World) (n : Nat) (M : Nat → Nat → Bool) (W : World) : Prop where
  mR : Mat W X.heap.size n M
  bel : Below X.heap.size X W
theorem Rc.ext {X W : World} {n : Nat} {M M' : Nat → Nat → Bool} (h : Rc X n M W) (he : ∀ i j, i < n → j < n → M i j = M' i j) : Rc X n M' W := ⟨h.mR.ext he, h.bel⟩
theorem Rc.drew {X W : World} {n : Nat} {M : Nat → Nat → Bool} (h : Rc X n M W) : Rc X n M W.drew := ⟨h.mR.drew, h.bel.drew⟩
theorem Rc.set {X W : World} {n i j : Nat} {M M' : Nat → Nat → Bool} {v : Bool} (h : Rc X n M W) (hn : n ≤ 6) (hi : i < n) (hj : j < n) (he : ∀ a c, a < n → c < n → M' a c = if a = i ∧ c = j then v else M a c) : Rc X n M' (W.setCell ⟨X.heap.size, i * 6 + j, none⟩ (.bool v)) :=
  ⟨h.mR.set hn hi hj he, h.bel.setCell (p := ⟨X.heap.size, i * 6 + j, none⟩) (Nat.le_refl _) _⟩
theorem Rc.mat {X W : World} {n b : Nat} {M M' : Nat → Nat → Bool} (h : Rc X n M W) (hb : Mat X b n M') : Mat W b n M' := hb.block (h.bel.block b hb.lt)

def anyUp (n : Nat) (kS eS : Nat → List Int) (r s : Nat) : Bool := (List.range s).any fun t => names n (eS r) t && clo (adj0 n kS eS) n t r
theorem anyUp_succ (n : Nat) (kS eS : Nat → List Int) (r s : Nat) : anyUp n kS eS r (s + 1) = (anyUp n kS eS r s || (names n (eS r) s && clo (adj0 n kS eS) n s r)) := by simp [anyUp, List.range_succ]
theorem anyUp_iff (n : Nat) (kS eS : Nat → List Int) (r : Nat) : anyUp n kS eS r n = true ↔ ∃ s, s < n ∧ names n (eS r) s = true ∧ clo (adj0 n kS eS) n s r = true := by simp [anyUp]
theorem adj0_refl (n : Nat) (kS eS : Nat → List Int) : ∀ i, adj0 n kS eS i i = true := fun i => by simp [adj0]
theorem lowA_all {n : Nat} {kS eS : Nat → List Int} {a : Nat} (ha : a < n) (b : Nat) : lowA n kS eS n a b = names n (kS a ++ eS a) b := by simp [lowA, ha]
theorem lowE_all {n : Nat} {eS : Nat → List Int} {a : Nat} (ha : a < n) (b : Nat) : lowE n eS n a b = names n (eS a) b := by simp [lowE, ha]
end Go.Proofs.YbulkdblgFmt
