/-
  The comparison that tryShortest hands to slices.SortFunc: cmp.isNaN, cmp.Compare, cmp.Or at ints, and the closure itself, each by its contract.
-/
import Derived.Test.YbulkdbnyKit
import Derived.Deep.RegionHeld
import Derived.Deep.RegionHeldLaw
namespace Go.Proofs.Ybulkdbny
open Go.RowKit

theorem nan15 (x : Int) (w : World) : Calls Yba.prog 15 #[.int .i64 x] w fun e w' => e = .returned (.bool false) ∧ w' = w := by
  go_enter Yba.func15, Yba.ntmps15
  go_wp2
  go_ret
  exact ⟨by simp, rfl⟩
theorem nan16 (x : Int) (w : World) : Calls Yba.prog 16 #[.int .i64 x] w fun e w' => e = .returned (.bool false) ∧ w' = w := by
  go_enter Yba.func16, Yba.ntmps16
  go_wp2
  go_ret
  exact ⟨by simp, rfl⟩

def cmpI (x y : Int) : Int := if x < y then -1 else if y < x then 1 else 0

set_option maxHeartbeats 400000 in
theorem cmp11 (x y : Int) (w : World) : Calls Yba.prog 11 #[.int .i64 x, .int .i64 y] w fun e w' => e = .returned (.int .i64 (cmpI x y)) ∧ w' = w := by
  by_cases h1 : x < y
  · go_enter Yba.func11, Yba.ntmps11
    go_wp2_with (go_at_call 15; refine (nan15 _ _).mono ?_; rintro e w' ⟨rfl, rfl⟩)
    go_ret
    exact ⟨by simp [cmpI, h1], rfl⟩
  · by_cases h2 : y < x
    · go_enter Yba.func11, Yba.ntmps11
      go_wp2_with (go_at_call 15; refine (nan15 _ _).mono ?_; rintro e w' ⟨rfl, rfl⟩)
      go_ret
      exact ⟨by simp [cmpI, h1, h2], rfl⟩
    · go_enter Yba.func11, Yba.ntmps11
      go_wp2_with (go_at_call 15; refine (nan15 _ _).mono ?_; rintro e w' ⟨rfl, rfl⟩)
      go_ret
      exact ⟨by unfold cmpI; rw [if_neg (by omega), if_neg (by omega)]; rfl, rfl⟩

set_option maxHeartbeats 400000 in
theorem cmp12 (x y : Int) (w : World) : Calls Yba.prog 12 #[.int .i64 x, .int .i64 y] w fun e w' => e = .returned (.int .i64 (cmpI x y)) ∧ w' = w := by
  by_cases h1 : x < y
  · go_enter Yba.func12, Yba.ntmps12
    go_wp2_with (go_at_call 16; refine (nan16 _ _).mono ?_; rintro e w' ⟨rfl, rfl⟩)
    go_ret
    exact ⟨by simp [cmpI, h1], rfl⟩
  · by_cases h2 : y < x
    · go_enter Yba.func12, Yba.ntmps12
      go_wp2_with (go_at_call 16; refine (nan16 _ _).mono ?_; rintro e w' ⟨rfl, rfl⟩)
      go_ret
      exact ⟨by simp [cmpI, h1, h2], rfl⟩
    · go_enter Yba.func12, Yba.ntmps12
      go_wp2_with (go_at_call 16; refine (nan16 _ _).mono ?_; rintro e w' ⟨rfl, rfl⟩)
      go_ret
      exact ⟨by unfold cmpI; rw [if_neg (by omega), if_neg (by omega)]; rfl, rfl⟩

def orI (a b : Int) : Int := if a = 0 then b else a

set_option maxHeartbeats 400000 in
theorem or10 (g : Nat) (a b : Int) (w : World) (h0 : w.cell? ⟨g, 0, none⟩ = some (.int .i64 a)) (h1 : w.cell? ⟨g, 1, none⟩ = some (.int .i64 b)) :
    Calls Yba.prog 10 #[.slice (some ⟨g, 0, none⟩) 2 2] w fun e w' => e = .returned (.int .i64 (orI a b)) ∧ w' = w := by
  go_enter Yba.func10, Yba.ntmps10
  go_wp2
  go_loop [8] (fun i => i = .int .i64 0 ∨ (i = .int .i64 1 ∧ a = 0) ∨ (i = .int .i64 2 ∧ a = 0 ∧ b = 0)) (fun i => 2 - (intOf i).toNat)
  case atStart => exact Or.inl rfl
  case round =>
    rcases hrel with rfl | ⟨rfl, ha⟩ | ⟨rfl, ha, hb⟩
    · by_cases ha : a = 0
      · subst ha
        go_wp2
        go_round
        case rel => simp
        case measure => decide
      · have hx : (a != 0) = true := by rw [bne_iff_ne]; exact ha
        go_wp2
        go_ret
        exact ⟨by simp [orI, ha], rfl⟩
    · subst ha
      by_cases hb : b = 0
      · subst hb
        go_wp2
        go_round
        case rel => simp
        case measure => decide
      · have hx : (b != 0) = true := by rw [bne_iff_ne]; exact hb
        go_wp2
        go_ret
        exact ⟨by simp [orI], rfl⟩
    · subst ha hb
      go_wp2
      go_ret
      exact ⟨by simp [orI], rfl⟩

/-- The comparison: by estimate, then by place. -/
def cmpQ (es : Nat → Int) (a b : Nat) : Int := orI (cmpI (es a) (es b)) (cmpI a b)

set_option maxRecDepth 100000 in
set_option maxHeartbeats 400000 in
theorem clos9 (bx pb qg n : Nat) (es : Nat → Int) (a b : Nat) (w : World) (hbx : w.cell? ⟨bx, 0, none⟩ = some (.pointer (some ⟨pb, 0, none⟩))) (hq : w.cell? ⟨pb, 0, none⟩ = some (.slice (some ⟨qg, 0, none⟩) n n))
    (ha : a < n) (hb : b < n) (ca : w.cell? ⟨qg, a * 6 + 2, none⟩ = some (.int .i64 (es a))) (cb : w.cell? ⟨qg, b * 6 + 2, none⟩ = some (.int .i64 (es b))) :
    Calls Yba.prog 9 #[.int .i64 a, .int .i64 b, .pointer (some ⟨bx, 0, none⟩)] w fun e w' => e = .returned (.int .i64 (cmpQ es a b)) ∧ ∃ q o, w' = (w.alloc o).drewN q := by
  have ha' : (a : Int) < n := by omega
  have hb' : (b : Int) < n := by omega
  go_enter Yba.func9, Yba.ntmps9
  go_wp2
  go_region_held (fun w' => w'.cell? ⟨bx, 0, none⟩ = some (.pointer (some ⟨pb, 0, none⟩)) ∧ w'.cell? ⟨pb, 0, none⟩ = some (.slice (some ⟨qg, 0, none⟩) n n) ∧ w'.cell? ⟨qg, a * 6 + 2, none⟩ = some (.int .i64 (es a)) ∧ w'.cell? ⟨qg, b * 6 + 2, none⟩ = some (.int .i64 (es b))) (go_keep) (first | (go_at_call 11; refine (cmp11 _ _ _).mono ?_; rintro e w' ⟨rfl, rfl⟩) | (go_at_call 12; refine (cmp12 _ _ _).mono ?_; rintro e w' ⟨rfl, rfl⟩) | (go_at_call 10; refine (or10 _ (cmpI (es a) (es b)) (cmpI a b) _ (by simp) (by simp)).mono ?_; rintro e w' ⟨rfl, rfl⟩))
  all_goals go_wp2
  all_goals go_ret
  all_goals exact ⟨rfl, 1, _, rfl⟩
end Go.Proofs.Ybulkdbny
