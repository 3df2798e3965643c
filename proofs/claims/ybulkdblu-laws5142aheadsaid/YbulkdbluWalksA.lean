/-
  The walks on the road of 'sinefold.LawS5142AHead': the callee 'polynomial' by its contracts (the factor not nought; nought, and 0, 1, 2, 3 starts), then the law itself, a case each.
-/
import Derived.Test.YbulkdbluRows
import Derived.WalkKit
import Derived.WalkSpells
import Derived.WalkLawsBesides
import Derived.RegionTactic
import Derived.ChangeAlike
namespace Go.Proofs.Ybulkdblu.lawS5142AHead
open Go.RowKit
set_option linter.unusedVariables false
/-- The zero columnReader, as it lies in memory: 88 cells. -/
def zero37 : Array Value := #[.slice none 0 0, .int .i64 0, .int .u64 0, .int .u64 0, .bool false, .int .i64 0, .int .i64 0, .int .i64 0, .int .i64 0, .int .i64 0, .int .i64 0, .int .i64 0, .int .u64 0, .int .i64 0, .int .i64 0, .int .i64 0, .int .i64 0, .int .i64 0, .int .i64 0, .int .i64 0, .int .i64 0, .int .i64 0, .int .i64 0, .int .i64 0, .int .i64 0, .int .i64 0, .int .i64 0, .int .i64 0, .int .i64 0, .int .i64 0, .int .i64 0, .int .u64 0, .int .i64 0, .int .i64 0, .int .i64 0, .int .i64 0, .int .i64 0, .int .i64 0, .int .i64 0, .int .i64 0, .int .i64 0, .int .i64 0, .int .i64 0, .int .i64 0, .int .i64 0, .int .i64 0, .int .i64 0, .int .i64 0, .int .i64 0, .int .u64 0, .int .u64 0, .int .i64 0, .int .i64 0, .int .i64 0, .int .i64 0, .int .i64 0, .int .i64 0, .int .i64 0, .int .i64 0, .int .i64 0, .int .i64 0, .int .i64 0, .int .i64 0, .int .i64 0, .int .i64 0, .int .i64 0, .int .i64 0, .int .i64 0, .int .i64 0, .int .i64 0, .int .i64 0, .int .i64 0, .int .i64 0, .int .i64 0, .int .i64 0, .int .i64 0, .int .i64 0, .int .i64 0, .int .i64 0, .int .i64 0, .int .i64 0, .int .i64 0, .int .i64 0, .int .u64 0, .int .i64 0, .int .i64 0, .int .i64 0, .int .i64 0]
theorem zero_run (w : World) : (zeroValue 37).run Yba.prog w = .ok (.agg zero37) w := by kernel_rfl
theorem zero_size : zero37.size = 88 := rfl
attribute [local go_sem] zero_run zero_size

set_option maxHeartbeats 400000 in
theorem poly_no (g : Int) (b : Nat) (w : World) (hb : b < w.heap.size) (hc : w.cell? ⟨b, 12, none⟩ = some (.int .u64 g)) (h0 : (g != 0) = true) :
    Calls Yba.prog 4 #[.pointer (some ⟨b, 0, none⟩)] w fun e w' => e = .returned (.tuple #[.agg #[.int .i64 0, .int .i64 0, .int .i64 0], .bool false]) ∧ w' = (w.alloc (.cells #[.int .i64 0, .int .i64 0, .int .i64 0] 38)).alloc (.cells #[.int .i64 0, .int .i64 0, .int .i64 0] 38) := by
  have hb1 : b < w.heap.size + 1 := by omega
  go_enter Yba.func4, Yba.ntmps4
  go_wp2
  exact bodyPost_ret (v := .tuple #[.agg #[.int .i64 0, .int .i64 0, .int .i64 0], .bool false]) (by simp [results, Yba.results4, go_sem]) rfl ⟨rfl, rfl⟩

theorem src_cell (W : World) (o : Obj) (b : Nat) (hb : b < W.heap.size) (j : Nat) : (W.alloc o).drew.cell? ((⟨b, 9, none⟩ : Addr).add j) = W.cell? ⟨b, 9 + j, none⟩ := by
  rw [WideShapes.add_plain, World.cell?_drew, World.cell?_alloc_past _ _ _ hb]

theorem copy_1 (W : World) (b : Nat) (s0 s1 s2 : Int) (hb : b < W.heap.size) (h9 : W.cell? ⟨b, 9, none⟩ = some (.int .i64 s0)) (h10 : W.cell? ⟨b, 10, none⟩ = some (.int .i64 s1)) (h11 : W.cell? ⟨b, 11, none⟩ = some (.int .i64 s2)) :
    (Builtin.copy_ #[42, 42] 3 #[.slice (some ⟨W.heap.size, 0, none⟩) 3 3, .slice (some ⟨b, 9, none⟩) 1 3]).run Yba.prog (W.alloc (.cells #[.int .i64 0, .int .i64 0, .int .i64 0] 38)).drew = .ok (goInt 1) (W.alloc (.cells #[.int .i64 s0, .int .i64 0, .int .i64 0] 38)).drew := by
  have h := run_copy_cells (P := Yba.prog) (W.alloc (.cells #[.int .i64 0, .int .i64 0, .int .i64 0] 38)).drew 42 42 3 2 W.heap.size 0 3 3 ⟨b, 9, none⟩ 1 3 [.int .i64 s0] Yba.underlying42 (by kernel_rfl) rfl
    (fun j v hj => by
      rw [src_cell _ _ _ hb]
      match j, hj with
      | 0, hj => simp at hj; rw [← hj]; exact h9
      | j + 1, hj => simp at hj)
    (fun j hj => by
      simp at hj
      rw [World.cell?_drew, World.cell?_alloc_at _ _ _ _ rfl]
      simp
      omega)
    (fun j hj => World.frozen?_alloc_at _ _ _ _ rfl)
    (fun v hv => by simp at hv; first | (rcases hv with rfl | rfl | rfl <;> rfl) | (rcases hv with rfl | rfl <;> rfl) | (subst hv; rfl))
  rw [h]
  simp only [World.setCells, World.setCell_drew, World.setCell_alloc_new]
  simp

theorem copy_2 (W : World) (b : Nat) (s0 s1 s2 : Int) (hb : b < W.heap.size) (h9 : W.cell? ⟨b, 9, none⟩ = some (.int .i64 s0)) (h10 : W.cell? ⟨b, 10, none⟩ = some (.int .i64 s1)) (h11 : W.cell? ⟨b, 11, none⟩ = some (.int .i64 s2)) :
    (Builtin.copy_ #[42, 42] 3 #[.slice (some ⟨W.heap.size, 0, none⟩) 3 3, .slice (some ⟨b, 9, none⟩) 2 3]).run Yba.prog (W.alloc (.cells #[.int .i64 0, .int .i64 0, .int .i64 0] 38)).drew = .ok (goInt 2) (W.alloc (.cells #[.int .i64 s0, .int .i64 s1, .int .i64 0] 38)).drew := by
  have h := run_copy_cells (P := Yba.prog) (W.alloc (.cells #[.int .i64 0, .int .i64 0, .int .i64 0] 38)).drew 42 42 3 2 W.heap.size 0 3 3 ⟨b, 9, none⟩ 2 3 [.int .i64 s0, .int .i64 s1] Yba.underlying42 (by kernel_rfl) rfl
    (fun j v hj => by
      rw [src_cell _ _ _ hb]
      match j, hj with
      | 0, hj => simp at hj; rw [← hj]; exact h9
      | 1, hj => simp at hj; rw [← hj]; exact h10
      | j + 2, hj => simp at hj)
    (fun j hj => by
      simp at hj
      rw [World.cell?_drew, World.cell?_alloc_at _ _ _ _ rfl]
      simp
      omega)
    (fun j hj => World.frozen?_alloc_at _ _ _ _ rfl)
    (fun v hv => by simp at hv; first | (rcases hv with rfl | rfl | rfl <;> rfl) | (rcases hv with rfl | rfl <;> rfl) | (subst hv; rfl))
  rw [h]
  simp only [World.setCells, World.setCell_drew, World.setCell_alloc_new]
  simp

theorem copy_3 (W : World) (b : Nat) (s0 s1 s2 : Int) (hb : b < W.heap.size) (h9 : W.cell? ⟨b, 9, none⟩ = some (.int .i64 s0)) (h10 : W.cell? ⟨b, 10, none⟩ = some (.int .i64 s1)) (h11 : W.cell? ⟨b, 11, none⟩ = some (.int .i64 s2)) :
    (Builtin.copy_ #[42, 42] 3 #[.slice (some ⟨W.heap.size, 0, none⟩) 3 3, .slice (some ⟨b, 9, none⟩) 3 3]).run Yba.prog (W.alloc (.cells #[.int .i64 0, .int .i64 0, .int .i64 0] 38)).drew = .ok (goInt 3) (W.alloc (.cells #[.int .i64 s0, .int .i64 s1, .int .i64 s2] 38)).drew := by
  have h := run_copy_cells (P := Yba.prog) (W.alloc (.cells #[.int .i64 0, .int .i64 0, .int .i64 0] 38)).drew 42 42 3 2 W.heap.size 0 3 3 ⟨b, 9, none⟩ 3 3 [.int .i64 s0, .int .i64 s1, .int .i64 s2] Yba.underlying42 (by kernel_rfl) rfl
    (fun j v hj => by
      rw [src_cell _ _ _ hb]
      match j, hj with
      | 0, hj => simp at hj; rw [← hj]; exact h9
      | 1, hj => simp at hj; rw [← hj]; exact h10
      | 2, hj => simp at hj; rw [← hj]; exact h11
      | j + 3, hj => simp at hj)
    (fun j hj => by
      simp at hj
      rw [World.cell?_drew, World.cell?_alloc_at _ _ _ _ rfl]
      simp
      omega)
    (fun j hj => World.frozen?_alloc_at _ _ _ _ rfl)
    (fun v hv => by simp at hv; first | (rcases hv with rfl | rfl | rfl <;> rfl) | (rcases hv with rfl | rfl <;> rfl) | (subst hv; rfl))
  rw [h]
  simp only [World.setCells, World.setCell_drew, World.setCell_alloc_new]
  simp

set_option maxHeartbeats 400000 in
theorem poly_0 (b : Nat) (s0 s1 s2 : Int) (w : World) (hb : b < w.heap.size) (hc : w.cell? ⟨b, 12, none⟩ = some (.int .u64 0)) (h8 : w.cell? ⟨b, 8, none⟩ = some (.int .i64 0))
    (h9 : w.cell? ⟨b, 9, none⟩ = some (.int .i64 s0)) (h10 : w.cell? ⟨b, 10, none⟩ = some (.int .i64 s1)) (h11 : w.cell? ⟨b, 11, none⟩ = some (.int .i64 s2)) :
    Calls Yba.prog 4 #[.pointer (some ⟨b, 0, none⟩)] w fun e w' => e = .returned (.tuple #[.agg #[.int .i64 0, .int .i64 0, .int .i64 0], .bool true]) ∧ w' = ((w.alloc (.cells #[.int .i64 0, .int .i64 0, .int .i64 0] 38)).alloc (.cells #[.int .i64 0, .int .i64 0, .int .i64 0] 38)).drew := by
  have hb1 : b < w.heap.size + 1 := by omega
  have hb2 : b < w.heap.size + 1 + 1 := by omega
  have hcp := run_copy_none (P := Yba.prog) ((w.alloc (.cells #[.int .i64 0, .int .i64 0, .int .i64 0] 38)).alloc (.cells #[.int .i64 0, .int .i64 0, .int .i64 0] 38)).drew 42 42 3 2 (some ⟨w.heap.size + 1, 0, none⟩) (some ⟨b, 9, none⟩) 3 3 0 3 Yba.underlying42 (by kernel_rfl) rfl
  go_enter Yba.func4, Yba.ntmps4
  go_wp2
  go_region
  go_wp2
  exact bodyPost_ret (v := .tuple #[.agg #[.int .i64 0, .int .i64 0, .int .i64 0], .bool true]) (by simp [results, Yba.results4, go_sem]) rfl ⟨rfl, rfl⟩

set_option maxHeartbeats 400000 in
theorem poly_1 (b : Nat) (s0 s1 s2 : Int) (w : World) (hb : b < w.heap.size) (hc : w.cell? ⟨b, 12, none⟩ = some (.int .u64 0)) (h8 : w.cell? ⟨b, 8, none⟩ = some (.int .i64 1))
    (h9 : w.cell? ⟨b, 9, none⟩ = some (.int .i64 s0)) (h10 : w.cell? ⟨b, 10, none⟩ = some (.int .i64 s1)) (h11 : w.cell? ⟨b, 11, none⟩ = some (.int .i64 s2)) :
    Calls Yba.prog 4 #[.pointer (some ⟨b, 0, none⟩)] w fun e w' => e = .returned (.tuple #[.agg #[.int .i64 s0, .int .i64 0, .int .i64 0], .bool true]) ∧ w' = ((w.alloc (.cells #[.int .i64 s0, .int .i64 0, .int .i64 0] 38)).alloc (.cells #[.int .i64 s0, .int .i64 0, .int .i64 0] 38)).drew := by
  have hb1 : b < w.heap.size + 1 := by omega
  have hb2 : b < w.heap.size + 1 + 1 := by omega
  have hcp := copy_1 (w.alloc (.cells #[.int .i64 0, .int .i64 0, .int .i64 0] 38)) b s0 s1 s2 (by simp; omega) (by rw [World.cell?_alloc_past _ _ _ hb]; exact h9) (by rw [World.cell?_alloc_past _ _ _ hb]; exact h10) (by rw [World.cell?_alloc_past _ _ _ hb]; exact h11)
  rw [World.size_alloc] at hcp
  go_enter Yba.func4, Yba.ntmps4
  go_wp2
  go_region
  go_wp2
  exact bodyPost_ret (v := .tuple #[.agg #[.int .i64 s0, .int .i64 0, .int .i64 0], .bool true]) (by simp [results, Yba.results4, go_sem]) rfl ⟨rfl, rfl⟩

set_option maxHeartbeats 400000 in
theorem poly_2 (b : Nat) (s0 s1 s2 : Int) (w : World) (hb : b < w.heap.size) (hc : w.cell? ⟨b, 12, none⟩ = some (.int .u64 0)) (h8 : w.cell? ⟨b, 8, none⟩ = some (.int .i64 2))
    (h9 : w.cell? ⟨b, 9, none⟩ = some (.int .i64 s0)) (h10 : w.cell? ⟨b, 10, none⟩ = some (.int .i64 s1)) (h11 : w.cell? ⟨b, 11, none⟩ = some (.int .i64 s2)) :
    Calls Yba.prog 4 #[.pointer (some ⟨b, 0, none⟩)] w fun e w' => e = .returned (.tuple #[.agg #[.int .i64 s0, .int .i64 s1, .int .i64 0], .bool true]) ∧ w' = ((w.alloc (.cells #[.int .i64 s0, .int .i64 s1, .int .i64 0] 38)).alloc (.cells #[.int .i64 s0, .int .i64 s1, .int .i64 0] 38)).drew := by
  have hb1 : b < w.heap.size + 1 := by omega
  have hb2 : b < w.heap.size + 1 + 1 := by omega
  have hcp := copy_2 (w.alloc (.cells #[.int .i64 0, .int .i64 0, .int .i64 0] 38)) b s0 s1 s2 (by simp; omega) (by rw [World.cell?_alloc_past _ _ _ hb]; exact h9) (by rw [World.cell?_alloc_past _ _ _ hb]; exact h10) (by rw [World.cell?_alloc_past _ _ _ hb]; exact h11)
  rw [World.size_alloc] at hcp
  go_enter Yba.func4, Yba.ntmps4
  go_wp2
  go_region
  go_wp2
  exact bodyPost_ret (v := .tuple #[.agg #[.int .i64 s0, .int .i64 s1, .int .i64 0], .bool true]) (by simp [results, Yba.results4, go_sem]) rfl ⟨rfl, rfl⟩

set_option maxHeartbeats 400000 in
theorem poly_3 (b : Nat) (s0 s1 s2 : Int) (w : World) (hb : b < w.heap.size) (hc : w.cell? ⟨b, 12, none⟩ = some (.int .u64 0)) (h8 : w.cell? ⟨b, 8, none⟩ = some (.int .i64 3))
    (h9 : w.cell? ⟨b, 9, none⟩ = some (.int .i64 s0)) (h10 : w.cell? ⟨b, 10, none⟩ = some (.int .i64 s1)) (h11 : w.cell? ⟨b, 11, none⟩ = some (.int .i64 s2)) :
    Calls Yba.prog 4 #[.pointer (some ⟨b, 0, none⟩)] w fun e w' => e = .returned (.tuple #[.agg #[.int .i64 s0, .int .i64 s1, .int .i64 s2], .bool true]) ∧ w' = ((w.alloc (.cells #[.int .i64 s0, .int .i64 s1, .int .i64 s2] 38)).alloc (.cells #[.int .i64 s0, .int .i64 s1, .int .i64 s2] 38)).drew := by
  have hb1 : b < w.heap.size + 1 := by omega
  have hb2 : b < w.heap.size + 1 + 1 := by omega
  have hcp := copy_3 (w.alloc (.cells #[.int .i64 0, .int .i64 0, .int .i64 0] 38)) b s0 s1 s2 (by simp; omega) (by rw [World.cell?_alloc_past _ _ _ hb]; exact h9) (by rw [World.cell?_alloc_past _ _ _ hb]; exact h10) (by rw [World.cell?_alloc_past _ _ _ hb]; exact h11)
  rw [World.size_alloc] at hcp
  go_enter Yba.func4, Yba.ntmps4
  go_wp2
  go_region
  go_wp2
  exact bodyPost_ret (v := .tuple #[.agg #[.int .i64 s0, .int .i64 s1, .int .i64 s2], .bool true]) (by simp [results, Yba.results4, go_sem]) rfl ⟨rfl, rfl⟩

set_option maxRecDepth 100000 in
set_option maxHeartbeats 1000000 in
theorem law_no (a0 a1 a2 a3 a4 a5 : Int) (w : World) (h1 : 0 ≤ a1) (h2 : a1 ≤ 255) (h0 : (a0 != 0) = true) :
    Calls Yba.prog 3 #[.int .u64 a0, .int .u8 a1, .int .i64 a2, .int .i64 a3, .int .i64 a4, .int .i64 a5] w fun e w' => e = .returned (.bool true) ∧ Grown w w' := by
  go_enter Yba.func3, Yba.ntmps3
  go_wp2_with (go_at_call 4; refine (poly_no a0 w.heap.size _ (by simp) (by simp [zero_size]) h0).mono ?_; rintro e w' ⟨rfl, rfl⟩)
  go_ret
  exact ⟨rfl, by repeat (first | exact Grown.refl _ | apply Grown.drew | apply Grown.alloc)⟩

set_option maxRecDepth 100000 in
set_option maxHeartbeats 1000000 in
theorem law_0 (a1 a2 a3 a4 a5 : Int) (w : World) (h1 : 0 ≤ a1) (h2 : a1 ≤ 255) (hs : a1 % 4 = 0) :
    Calls Yba.prog 3 #[.int .u64 0, .int .u8 a1, .int .i64 a2, .int .i64 a3, .int .i64 a4, .int .i64 a5] w fun e w' => e = .returned (.bool true) ∧ Grown w w' := by
  go_enter Yba.func3, Yba.ntmps3
  go_wp2_with (go_at_call 4; refine (poly_0 w.heap.size a2 a3 a4 _ (by simp) (by simp [zero_size]) (by simp [zero_size]) (by simp [zero_size]) (by simp [zero_size]) (by simp [zero_size])).mono ?_; rintro e w' ⟨rfl, rfl⟩)
  go_loop [18] (fun i => ∃ k : Nat, k ≤ 3 ∧ i = .int .i64 k) (fun i => 3 - (intOf i).toNat)
  case atStart => exact ⟨0, by omega, rfl⟩
  case round =>
    obtain ⟨k, hk, rfl⟩ := hrel
    have hk4 : k = 0 ∨ k = 1 ∨ k = 2 ∨ k = 3 := by omega
    rcases hk4 with rfl | rfl | rfl | rfl
    · go_wp2
      go_round
      case rel => exact ⟨1, by omega, rfl⟩
      case measure => decide
    · go_wp2
      go_round
      case rel => exact ⟨2, by omega, rfl⟩
      case measure => decide
    · go_wp2
      go_round
      case rel => exact ⟨3, by omega, rfl⟩
      case measure => decide
    · go_wp2
      go_ret
      exact ⟨rfl, by repeat (first | exact Grown.refl _ | apply Grown.drew | apply Grown.alloc)⟩

set_option maxRecDepth 100000 in
set_option maxHeartbeats 1000000 in
theorem law_1 (a1 a2 a3 a4 a5 : Int) (w : World) (h1 : 0 ≤ a1) (h2 : a1 ≤ 255) (hs : a1 % 4 = 1) :
    Calls Yba.prog 3 #[.int .u64 0, .int .u8 a1, .int .i64 a2, .int .i64 a3, .int .i64 a4, .int .i64 a5] w fun e w' => e = .returned (.bool true) ∧ Grown w w' := by
  go_enter Yba.func3, Yba.ntmps3
  go_wp2_with (go_at_call 4; refine (poly_1 w.heap.size a2 a3 a4 _ (by simp) (by simp [zero_size]) (by simp [zero_size]) (by simp [zero_size]) (by simp [zero_size]) (by simp [zero_size])).mono ?_; rintro e w' ⟨rfl, rfl⟩)
  go_loop [18] (fun i => ∃ k : Nat, k ≤ 3 ∧ i = .int .i64 k) (fun i => 3 - (intOf i).toNat)
  case atStart => exact ⟨0, by omega, rfl⟩
  case round =>
    obtain ⟨k, hk, rfl⟩ := hrel
    have hk4 : k = 0 ∨ k = 1 ∨ k = 2 ∨ k = 3 := by omega
    rcases hk4 with rfl | rfl | rfl | rfl
    · go_wp2
      go_round
      case rel => exact ⟨1, by omega, rfl⟩
      case measure => decide
    · go_wp2
      go_round
      case rel => exact ⟨2, by omega, rfl⟩
      case measure => decide
    · go_wp2
      go_round
      case rel => exact ⟨3, by omega, rfl⟩
      case measure => decide
    · go_wp2
      go_ret
      exact ⟨rfl, by repeat (first | exact Grown.refl _ | apply Grown.drew | apply Grown.alloc)⟩

set_option maxRecDepth 100000 in
set_option maxHeartbeats 1000000 in
theorem law_2 (a1 a2 a3 a4 a5 : Int) (w : World) (h1 : 0 ≤ a1) (h2 : a1 ≤ 255) (hs : a1 % 4 = 2) :
    Calls Yba.prog 3 #[.int .u64 0, .int .u8 a1, .int .i64 a2, .int .i64 a3, .int .i64 a4, .int .i64 a5] w fun e w' => e = .returned (.bool true) ∧ Grown w w' := by
  go_enter Yba.func3, Yba.ntmps3
  go_wp2_with (go_at_call 4; refine (poly_2 w.heap.size a2 a3 a4 _ (by simp) (by simp [zero_size]) (by simp [zero_size]) (by simp [zero_size]) (by simp [zero_size]) (by simp [zero_size])).mono ?_; rintro e w' ⟨rfl, rfl⟩)
  go_loop [18] (fun i => ∃ k : Nat, k ≤ 3 ∧ i = .int .i64 k) (fun i => 3 - (intOf i).toNat)
  case atStart => exact ⟨0, by omega, rfl⟩
  case round =>
    obtain ⟨k, hk, rfl⟩ := hrel
    have hk4 : k = 0 ∨ k = 1 ∨ k = 2 ∨ k = 3 := by omega
    rcases hk4 with rfl | rfl | rfl | rfl
    · go_wp2
      go_round
      case rel => exact ⟨1, by omega, rfl⟩
      case measure => decide
    · go_wp2
      go_round
      case rel => exact ⟨2, by omega, rfl⟩
      case measure => decide
    · go_wp2
      go_round
      case rel => exact ⟨3, by omega, rfl⟩
      case measure => decide
    · go_wp2
      go_ret
      exact ⟨rfl, by repeat (first | exact Grown.refl _ | apply Grown.drew | apply Grown.alloc)⟩

set_option maxRecDepth 100000 in
set_option maxHeartbeats 1000000 in
theorem law_3 (a1 a2 a3 a4 a5 : Int) (w : World) (h1 : 0 ≤ a1) (h2 : a1 ≤ 255) (hs : a1 % 4 = 3) :
    Calls Yba.prog 3 #[.int .u64 0, .int .u8 a1, .int .i64 a2, .int .i64 a3, .int .i64 a4, .int .i64 a5] w fun e w' => e = .returned (.bool true) ∧ Grown w w' := by
  go_enter Yba.func3, Yba.ntmps3
  go_wp2_with (go_at_call 4; refine (poly_3 w.heap.size a2 a3 a4 _ (by simp) (by simp [zero_size]) (by simp [zero_size]) (by simp [zero_size]) (by simp [zero_size]) (by simp [zero_size])).mono ?_; rintro e w' ⟨rfl, rfl⟩)
  go_loop [18] (fun i => ∃ k : Nat, k ≤ 3 ∧ i = .int .i64 k) (fun i => 3 - (intOf i).toNat)
  case atStart => exact ⟨0, by omega, rfl⟩
  case round =>
    obtain ⟨k, hk, rfl⟩ := hrel
    have hk4 : k = 0 ∨ k = 1 ∨ k = 2 ∨ k = 3 := by omega
    rcases hk4 with rfl | rfl | rfl | rfl
    · go_wp2
      go_round
      case rel => exact ⟨1, by omega, rfl⟩
      case measure => decide
    · go_wp2
      go_round
      case rel => exact ⟨2, by omega, rfl⟩
      case measure => decide
    · go_wp2
      go_round
      case rel => exact ⟨3, by omega, rfl⟩
      case measure => decide
    · go_wp2
      go_ret
      exact ⟨rfl, by repeat (first | exact Grown.refl _ | apply Grown.drew | apply Grown.alloc)⟩

end Go.Proofs.Ybulkdblu.lawS5142AHead
