/-
  Small words for the walks over this seat: a row of cells told by a function ('Full'); an element's address in a slice whose own address is known only where it has elements; the queue that zzs5146aqueue makes.
-/
import Derived.Test.YbulkdbnyProg
import Derived.WalkKit
import Derived.WalkSpells
import Derived.WalkLawsBesides
import Derived.Deep.QuietTactic
import Derived.BigQuiet
namespace Go.Proofs.Ybulkdbny
open Go.RowKit

theorem hide {p : Prop} (h : p) : Hid p := h
theorem unhide {p : Prop} (h : Hid p) : p := h

/-- The first n cells of block g hold what f says, and none of them is frozen. -/
def Full (w : World) (g n : Nat) (f : Nat → Value) : Prop := ∀ j, j < n → w.cell? ⟨g, j, none⟩ = some (f j) ∧ w.frozen? ⟨g, j, none⟩ = false

theorem Full.made (w : World) (C : Array Value) (e : TypeId) (n : Nat) (f : Nat → Value) (hs : ∀ j, j < n → C[j]? = some (f j)) : Full (w.alloc (.cells C e)) w.heap.size n f := fun j hj =>
  ⟨by rw [World.cell?_alloc_at _ _ _ _ rfl]; exact hs j hj, World.frozen?_alloc_at _ _ _ _ rfl⟩

theorem Full.set {w : World} {g n i : Nat} {f : Nat → Value} (h : Full w g n f) (hi : i < n) (v : Value) : Full (w.setCell ⟨g, i, none⟩ v) g n (fun j => if j = i then v else f j) := fun j hj => by
  refine ⟨?_, by rw [World.frozen?_setCell]; exact (h j hj).2⟩
  by_cases e : j = i
  · subst e
    simp only [if_true]
    exact World.cell?_setCell_same w ⟨g, j, none⟩ v (h j hj).1
  · simp only [if_neg e]
    rw [World.cell?_setCell_other w ⟨g, i, none⟩ ⟨g, j, none⟩ v (fun x => e (by cases x; rfl))]
    exact (h j hj).1

theorem Full.below {w w' : World} {g n B : Nat} {f : Nat → Value} (h : Full w g n f) (hb : Below B w w') (hg : g < B) : Full w' g n f := fun j hj =>
  ⟨by rw [hb.cell (p := ⟨g, j, none⟩) hg]; exact (h j hj).1, by rw [hb.frozen (p := ⟨g, j, none⟩) hg]; exact (h j hj).2⟩

theorem Full.congr {w : World} {g n : Nat} {f f' : Nat → Value} (h : Full w g n f) (e : ∀ j, j < n → f j = f' j) : Full w g n f' := fun j hj => by rw [← e j hj]; exact h j hj

theorem Full.alloc {w : World} {g n : Nat} {f : Nat → Value} (h : Full w g n f) (hg : g < w.heap.size) (o : Obj) : Full (w.alloc o) g n f := fun j hj =>
  ⟨by rw [World.cell?_alloc_past _ _ _ hg]; exact (h j hj).1, by rw [World.frozen?_alloc_past _ _ _ hg]; exact (h j hj).2⟩

theorem idx {P : Program} {t e : TypeId} (ht : P.underlying t = some (.slice e)) {c : Nat} (hc : ∀ W, (sizeOf e).run P W = .ok c W) {a : Option Addr} {n cap b off : Nat} (ha : 0 < n → a = some ⟨b, off, none⟩) {k : Nat} (hk : k < n) (W : World) :
    (Instr.indexAt t (.slice a n cap) (.int .i64 k)).run P W = .ok (.pointer (some ⟨b, off + k * c, none⟩)) W := by
  have e1 := ha (by omega)
  subst e1
  have ht' : P.underlying t = some (.slice (P.elem t)) := by simp [Program.elem, ht]
  have he : P.elem t = e := by simp [Program.elem, ht]
  rw [run_indexAt_slice _ _ _ _ _ _ _ ht', he, if_pos ⟨by omega, by omega⟩, hc]
  simp [WideShapes.add_plain]

theorem idxI {P : Program} {t e : TypeId} (ht : P.underlying t = some (.slice e)) {c : Nat} (hc : ∀ W, (sizeOf e).run P W = .ok c W) {a : Option Addr} {n cap b off : Nat} (ha : 0 < n → a = some ⟨b, off, none⟩) {k : Int} (hk0 : 0 ≤ k) (hk : k < n) (W : World) :
    (Instr.indexAt t (.slice a n cap) (.int .i64 k)).run P W = .ok (.pointer (some ⟨b, off + k.toNat * c, none⟩)) W := by
  obtain ⟨j, rfl⟩ := Int.eq_ofNat_of_zero_le hk0
  rw [Int.toNat_natCast]
  exact idx ht hc ha (by omega) W

theorem size2 (W : World) : (sizeOf 2).run Yba.prog W = .ok 1 W := by kernel_rfl
theorem size3 (W : World) : (sizeOf 3).run Yba.prog W = .ok 1 W := by kernel_rfl
theorem size46 (W : World) : (sizeOf 46).run Yba.prog W = .ok 6 W := by kernel_rfl

theorem made3 (n j : Nat) (hj : j < n) : (madeCells (Value.int .i64 0).cells n)[j]? = some (.int .i64 0) := by
  simp only [madeCells, Value.cells, Array.getElem?_map, Array.getElem?_range, hj, if_true, Option.map_some]
  simp [Nat.mod_one]

theorem info46 : (Yba.prog.info? 46).map (fun i => (i.zero, i.size, i.bytes)) = some (some (.agg #[.int .i64 0, .int .i64 0, .int .i64 0, .int .i64 0, .int .i64 0, .bool false]), 6, 48) := by kernel_rfl
theorem info3 : (Yba.prog.info? 3).map (fun i => (i.zero, i.size, i.bytes)) = some (some (.int .i64 0), 1, 8) := by kernel_rfl

/-- What a made row of jobs holds. -/
def zjob (j : Nat) : Value := if j % 6 = 5 then .bool false else .int .i64 0

theorem made46 (n j : Nat) (hj : j < n * 6) : (madeCells (Value.agg #[.int .i64 0, .int .i64 0, .int .i64 0, .int .i64 0, .int .i64 0, .bool false]).cells (n * 6))[j]? = some (zjob j) := by
  have h6 : j % 6 = 0 ∨ j % 6 = 1 ∨ j % 6 = 2 ∨ j % 6 = 3 ∨ j % 6 = 4 ∨ j % 6 = 5 := by omega
  simp only [madeCells, Value.cells, Array.getElem?_map, Array.getElem?_range, hj, if_true, Option.map_some]
  have e : (#[Value.int .i64 0, .int .i64 0, .int .i64 0, .int .i64 0, .int .i64 0, .bool false] : Array Value).size = 6 := rfl
  rw [e]
  rcases h6 with h | h | h | h | h | h <;> simp [h, zjob]

theorem make46 (w : World) (n : Nat) (hn : n ≤ 1024) :
    (Instr.makeSlice 25 (.int .i64 n) (.int .i64 n)).run Yba.prog w = .ok (.slice (some ⟨w.heap.size, 0, none⟩) n n) (w.alloc (.cells (madeCells (Value.agg #[.int .i64 0, .int .i64 0, .int .i64 0, .int .i64 0, .int .i64 0, .bool false]).cells (n * 6)) 46)) := by
  obtain ⟨i0, hi, hz0, hz1, hz2⟩ := info_parts info46
  have h := run_make (P := Yba.prog) w 25 46 i0 _ Yba.underlying25 hi hz0 .i64 .i64 n n (by omega) (by omega) (by rw [hz2]; omega) (by omega)
  rw [hz1] at h
  simpa using h

theorem make3 (w : World) (n : Nat) (hn : n ≤ 1024) :
    (Instr.makeSlice 23 (.int .i64 n) (.int .i64 n)).run Yba.prog w = .ok (.slice (some ⟨w.heap.size, 0, none⟩) n n) (w.alloc (.cells (madeCells (Value.int .i64 0).cells n) 3)) := by
  obtain ⟨i0, hi, hz0, hz1, hz2⟩ := info_parts info3
  have h := run_make (P := Yba.prog) w 23 3 i0 _ Yba.underlying23 hi hz0 .i64 .i64 n n (by omega) (by omega) (by rw [hz2]; omega) (by omega)
  rw [hz1] at h
  simpa using h

/-- The queue: cell i*6 the place, i*6+1 the processors, i*6+2 the estimate. -/
def QueueTo (w : World) (g n : Nat) (ps es : Nat → Int) (k : Nat) : Prop :=
  ∃ f, Full w g (n * 6) f ∧ ∀ i, i < k → f (i * 6) = .int .i64 i ∧ f (i * 6 + 1) = .int .i64 (ps i) ∧ f (i * 6 + 2) = .int .i64 (es i)

theorem QueueTo.step {w : World} {g n k : Nat} {ps es : Nat → Int} (h : QueueTo w g n ps es k) (hk : k < n) :
    QueueTo ((((((w.setCell ⟨g, k * 6, none⟩ (.int .i64 k)).setCell ⟨g, k * 6 + 1, none⟩ (.int .i64 (ps k))).setCell ⟨g, k * 6 + 2, none⟩ (.int .i64 (es k))).setCell ⟨g, k * 6 + 3, none⟩ (.int .i64 0)).setCell ⟨g, k * 6 + 4, none⟩ (.int .i64 0)).setCell ⟨g, k * 6 + 5, none⟩ (.bool false)) g n ps es (k + 1) := by
  obtain ⟨f, h1, h2⟩ := h
  refine ⟨_, ((((((h1.set (i := k * 6) (by omega) _).set (i := k * 6 + 1) (by omega) _).set (i := k * 6 + 2) (by omega) _).set (i := k * 6 + 3) (by omega) _).set (i := k * 6 + 4) (by omega) _).set (i := k * 6 + 5) (by omega) _), fun i hi => ?_⟩
  by_cases e : i = k
  · subst e
    refine ⟨?_, ?_, ?_⟩ <;> simp
  · obtain ⟨a1, a2, a3⟩ := h2 i (by omega)
    refine ⟨?_, ?_, ?_⟩
    · simp only [show ¬ i * 6 = k * 6 + 5 by omega, show ¬ i * 6 = k * 6 + 4 by omega, show ¬ i * 6 = k * 6 + 3 by omega, show ¬ i * 6 = k * 6 + 2 by omega, show ¬ i * 6 = k * 6 + 1 by omega, show ¬ i * 6 = k * 6 by omega, if_false]; exact a1
    · simp only [show ¬ i * 6 + 1 = k * 6 + 5 by omega, show ¬ i * 6 + 1 = k * 6 + 4 by omega, show ¬ i * 6 + 1 = k * 6 + 3 by omega, show ¬ i * 6 + 1 = k * 6 + 2 by omega, show ¬ i * 6 + 1 = k * 6 + 1 by omega, show ¬ i * 6 + 1 = k * 6 by omega, if_false]; exact a2
    · simp only [show ¬ i * 6 + 2 = k * 6 + 5 by omega, show ¬ i * 6 + 2 = k * 6 + 4 by omega, show ¬ i * 6 + 2 = k * 6 + 3 by omega, show ¬ i * 6 + 2 = k * 6 + 2 by omega, show ¬ i * 6 + 2 = k * 6 + 1 by omega, show ¬ i * 6 + 2 = k * 6 by omega, if_false]; exact a3

set_option maxRecDepth 100000 in
set_option maxHeartbeats 400000 in
theorem queue_any (a : Option Addr) (n cap b off : Nat) (es : Nat → Int) (w : World) (hn : n ≤ 1024) (hb : 0 < n → b < w.heap.size) (ha : 0 < n → a = some ⟨b, off, none⟩) (hc : ∀ i, i < n → w.cell? ⟨b, off + i, none⟩ = some (.int .i64 (es i))) :
    Calls Yba.prog 5 #[.slice a n cap] w fun e w' => e = .returned (.slice (some ⟨w.heap.size, 0, none⟩) n n) ∧ Below w.heap.size w w' ∧ w'.heap.size = w.heap.size + 1 ∧ QueueTo w' w.heap.size n (fun _ => 1) es n := by
  have hmk := make46 w n hn
  go_enter Yba.func5, Yba.ntmps5
  go_wp2
  go_loopw [4] (fun i wr => ∃ k : Nat, k ≤ n ∧ i = .int .i64 k ∧ Below w.heap.size w wr ∧ wr.heap.size = w.heap.size + 1 ∧ QueueTo wr w.heap.size n (fun _ => 1) es k) (fun i _ => n - (intOf i).toNat)
  case atStart => exact ⟨0, Nat.zero_le _, rfl, (Below.refl _ w).alloc (Nat.le_refl _) _, by simp, ⟨zjob, Full.made _ _ _ _ _ (fun j hj => made46 n j hj), fun i hi => by omega⟩⟩
  case round =>
    obtain ⟨k, hk, rfl, hbel, hsz, hq⟩ := hrel
    by_cases hlt : k < n
    · have hix := fun W => idx (P := Yba.prog) Yba.underlying22 size2 (cap := cap) ha hlt W
      obtain ⟨f, hf1, hf2⟩ := hq
      have t0 := hf1 (k * 6) (by omega)
      have t1 := hf1 (k * 6 + 1) (by omega)
      have t2 := hf1 (k * 6 + 2) (by omega)
      have t3 := hf1 (k * 6 + 3) (by omega)
      have t4 := hf1 (k * 6 + 4) (by omega)
      have t5 := hf1 (k * 6 + 5) (by omega)
      have hs : wr.cell? ⟨b, off + k, none⟩ = some (.int .i64 (es k)) := by rw [hbel.cell (p := ⟨b, _, none⟩) (hb (by omega))]; exact hc k hlt
      have hq' : QueueTo wr w.heap.size n (fun _ => 1) es k := ⟨f, hf1, hf2⟩
      go_wp2
      refine ⟨⟨k + 1, by omega, by go_num, ?_, by simp [hsz], hq'.step hlt⟩, by simp [intOf]; omega⟩
      exact (((((hbel.setCell (Nat.le_refl _) _).setCell (Nat.le_refl _) _).setCell (Nat.le_refl _) _).setCell (Nat.le_refl _) _).setCell (Nat.le_refl _) _).setCell (Nat.le_refl _) _
    · have hkn : k = n := by omega
      subst hkn
      go_wp2
      go_ret
      exact ⟨rfl, hbel, hsz, hq⟩

set_option maxHeartbeats 400000 in
theorem tried_no (pb : Nat) (a : Option Addr) (n cap : Nat) (k : Int) (w : World) (ho : w.cell? ⟨pb, 12, none⟩ = some (.int .i64 1)) (hs : w.cell? ⟨pb, 14, none⟩ = some (.slice a n cap)) (hk : (n : Int) ≤ k) :
    Calls Yba.prog 6 #[.pointer (some ⟨pb, 0, none⟩), .int .i64 k] w fun e w' => e = .returned (.tuple #[.int .i64 0, .bool false]) ∧ w' = w := by
  go_enter Yba.func6, Yba.ntmps6
  go_wp2
  go_ret2
  exact ⟨rfl, rfl⟩

set_option maxHeartbeats 400000 in
theorem tried_yes (pb sb : Nat) (n cap : Nat) (k : Int) (v : Int) (w : World) (ho : w.cell? ⟨pb, 12, none⟩ = some (.int .i64 1)) (hs : w.cell? ⟨pb, 14, none⟩ = some (.slice (some ⟨sb, 0, none⟩) n cap)) (hk0 : 0 ≤ k) (hk : k < n) (hv : w.cell? ⟨sb, k.toNat, none⟩ = some (.int .i64 v)) :
    Calls Yba.prog 6 #[.pointer (some ⟨pb, 0, none⟩), .int .i64 k] w fun e w' => e = .returned (.tuple #[.int .i64 v, .bool true]) ∧ w' = w := by
  go_enter Yba.func6, Yba.ntmps6
  go_wp2
  go_ret2
  exact ⟨rfl, rfl⟩

set_option maxHeartbeats 400000 in
theorem tried_other (pb : Nat) (a : Option Addr) (n cap : Nat) (o k : Int) (w : World) (ho : w.cell? ⟨pb, 12, none⟩ = some (.int .i64 o)) (h1 : (o == 1) = false) (hq : w.cell? ⟨pb, 0, none⟩ = some (.slice a n cap)) (hk0 : -4096 ≤ k) (hk1 : k ≤ 4096) :
    Calls Yba.prog 6 #[.pointer (some ⟨pb, 0, none⟩), .int .i64 k] w fun e w' => e = .returned (.tuple #[.int .i64 (k + 1), .bool (decide (k + 1 < n))]) ∧ ∃ q, w' = w.drewN q := by
  go_enter Yba.func6, Yba.ntmps6
  go_wp2
  go_quiet (fail)
  go_wp2
  go_ret2
  exact ⟨rfl, _, rfl⟩
end Go.Proofs.Ybulkdbny
