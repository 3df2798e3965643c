/-
  zzs5142bfloats and zzs5142bstart; a row of cells told by a function.
-/
import Derived.Test.YbulkdbluDoorFc
import Derived.Deep.MidRow
namespace Go.Proofs.YbulkdbluDoor
open Go.RowKit

theorem hide {p : Prop} (h : p) : Hid p := h
theorem unhide {p : Prop} (h : Hid p) : p := h

/-- The first n cells of block g hold what f says, and none of them is frozen. -/
def Full (w : World) (g n : Nat) (f : Nat → Value) : Prop := ∀ j, j < n → w.cell? ⟨g, j, none⟩ = some (f j) ∧ w.frozen? ⟨g, j, none⟩ = false

theorem Full.made (w : World) (C : Array Value) (e : TypeId) (n : Nat) (f : Nat → Value) (hs : ∀ j, j < n → C[j]? = some (f j)) : Full (w.alloc (.cells C e)) w.heap.size n f := fun j hj =>
  ⟨by rw [World.cell?_alloc_at _ _ _ _ rfl]; exact hs j hj, World.frozen?_alloc_at _ _ _ _ rfl⟩

theorem Full.set {w : World} {g n i : Nat} {f : Nat → Value} (h : Full w g n f) (hi : i < n) (v : Value) : Full (w.setCell ⟨g, i, none⟩ v) g n (fun j => if j = i then v else f j) := fun j hj => by
  refine ⟨?_, by rw [World.frozen?_setCell]; exact (h j hj).2⟩
  by_cases e : j = i
  · subst e
    simp only [if_true]
    exact World.cell?_setCell_same w ⟨g, j, none⟩ v (h j hj).1
  · simp only [if_neg e]
    rw [World.cell?_setCell_other w ⟨g, i, none⟩ ⟨g, j, none⟩ v (fun x => e (by cases x; rfl))]
    exact (h j hj).1

theorem Full.below {w w' : World} {g n B : Nat} {f : Nat → Value} (h : Full w g n f) (hb : Below B w w') (hg : g < B) : Full w' g n f := fun j hj =>
  ⟨by rw [hb.cell (p := ⟨g, j, none⟩) hg]; exact (h j hj).1, by rw [hb.frozen (p := ⟨g, j, none⟩) hg]; exact (h j hj).2⟩

theorem Full.congr {w : World} {g n : Nat} {f f' : Nat → Value} (h : Full w g n f) (e : ∀ j, j < n → f j = f' j) : Full w g n f' := fun j hj => by rw [← e j hj]; exact h j hj

theorem Full.alloc {w : World} {g n : Nat} {f : Nat → Value} (h : Full w g n f) (hg : g < w.heap.size) (o : Obj) : Full (w.alloc o) g n f := fun j hj =>
  ⟨by rw [World.cell?_alloc_past _ _ _ hg]; exact (h j hj).1, by rw [World.frozen?_alloc_past _ _ _ hg]; exact (h j hj).2⟩

theorem idx {P : Program} {t e : TypeId} (ht : P.underlying t = some (.slice e)) {c : Nat} (hc : ∀ W, (sizeOf e).run P W = .ok c W) {a : Option Addr} {n cap b off : Nat} (ha : 0 < n → a = some ⟨b, off, none⟩) {k : Nat} (hk : k < n) (W : World) :
    (Instr.indexAt t (.slice a n cap) (.int .i64 k)).run P W = .ok (.pointer (some ⟨b, off + k * c, none⟩)) W := by
  have e1 := ha (by omega)
  subst e1
  have ht' : P.underlying t = some (.slice (P.elem t)) := by simp [Program.elem, ht]
  have he : P.elem t = e := by simp [Program.elem, ht]
  rw [run_indexAt_slice _ _ _ _ _ _ _ ht', he, if_pos ⟨by omega, by omega⟩, hc]
  simp [WideShapes.add_plain]

theorem size21 (W : World) : (sizeOf 21).run Ybad.prog W = .ok 1 W := by kernel_rfl
theorem size33 (W : World) : (sizeOf 33).run Ybad.prog W = .ok 1 W := by kernel_rfl
theorem info33 : (Ybad.prog.info? 33).map (fun i => (i.zero, i.size, i.bytes)) = some (some (.float .f64 0), 1, 8) := by kernel_rfl
theorem make33 (w : World) (n : Nat) (hn : n ≤ 1024) :
    (Instr.makeSlice 23 (.int .i64 n) (.int .i64 n)).run Ybad.prog w = .ok (.slice (some ⟨w.heap.size, 0, none⟩) n n) (w.alloc (.cells (madeCells #[Value.float .f64 0] n) 33)) := by
  obtain ⟨i0, hi, hz0, hz1, hz2⟩ := info_parts info33
  have h := run_make (P := Ybad.prog) w 23 33 i0 _ Ybad.underlying23 hi hz0 .i64 .i64 n n (by omega) (by omega) (by rw [hz2]; omega) (by omega)
  rw [hz1] at h
  rw [show (Value.float .f64 0).cells = #[Value.float .f64 0] from rfl] at h
  simpa using h
theorem made33 (n j : Nat) (hj : j < n) : (madeCells #[Value.float .f64 0] n)[j]? = some (.float .f64 0) := by
  simp only [madeCells, Array.getElem?_map, Array.getElem?_range, hj, if_true, Option.map_some]
  simp [Nat.mod_one]

theorem store_float {P : Program} {w : World} {a : Addr} {m : Mode} (k : FloatKind) (n : Nat) : (store a (.float k n) m).run P w = stored P w a (.float k n) m := run_store P w a _ m rfl
attribute [local go_sem] store_float

set_option maxRecDepth 100000 in
set_option maxHeartbeats 1000000 in
theorem floats_any (a0 : Option Addr) (n cap b off m : Nat) (c : Nat → Int) (e : Int) (w : World) (hm : m = min n 16) (he1 : 0 ≤ e) (he2 : e ≤ 28) (hb : 0 < n → b < w.heap.size) (ha : 0 < n → a0 = some ⟨b, off, none⟩) (hnn : n ≤ 9223372036854775807)
    (hc : ∀ i, i < n → w.cell? ⟨b, off + i, none⟩ = some (.int .i32 (c i))) (hcb : ∀ i, i < n → (c i).natAbs ≤ 2147483648) :
    Calls Ybad.prog 6 #[.slice a0 n cap, .int .i64 e] w fun r w' => r = .returned (.slice (some ⟨w.heap.size, 0, none⟩) m m) ∧ Below w.heap.size w w' ∧ w'.heap.size = w.heap.size + 1 ∧ Full w' w.heap.size m (fun k => .float .f64 (Wd (c k) (-e))) := by
  have hm16 : m ≤ 16 := by omega
  have hmn : m ≤ n := by omega
  have hmin : (if (16 : Int) < n then (16 : Int) else n) = (m : Int) := by omega
  have hmk := make33 w m (by omega)
  have Ha := hide ha
  have Hc := hide hc
  have Hcb := hide hcb
  clear hm ha hc hcb
  go_enter Ybad.func6, Ybad.ntmps6
  go_wp2
  go_loopw [7] (fun i wr => ∃ k : Nat, k ≤ m ∧ i = .int .i64 k ∧ Below w.heap.size w wr ∧ wr.heap.size = w.heap.size + 1 ∧ Full wr w.heap.size m (fun j => if j < k then .float .f64 (Wd (c j) (-e)) else .float .f64 0)) (fun i _ => m - (intOf i).toNat)
  case atStart => exact ⟨0, Nat.zero_le _, rfl, (Below.refl _ w).alloc (Nat.le_refl _) _, by simp, (Full.made _ _ _ _ _ (fun j hj => made33 m j hj)).congr (fun j _ => by simp)⟩
  case round =>
    obtain ⟨k, hk, rfl, hbel, hsz, hf⟩ := hrel
    by_cases hlt : k < m
    · have hix := fun W => idx (P := Ybad.prog) Ybad.underlying22 size21 (cap := cap) (unhide Ha) (show k < n by omega) W
      simp only [Nat.mul_one] at hix
      have s1 : wr.cell? ⟨b, off + k, none⟩ = some (.int .i32 (c k)) := by rw [hbel.cell (p := ⟨b, _, none⟩) (hb (by omega))]; exact unhide Hc k (by omega)
      have hcv : floatOfInt .f64 (c k) = Wd (c k) 0 := conv_Wd (by have := unhide Hcb k (by omega); omega)
      have hld := fun W => ldexp_Wd (c := c k) (e := 0) (k := -e) (by have := unhide Hcb k (by omega); omega) (by omega) (by omega) (by omega) (by omega) W
      rw [Int.zero_add] at hld
      have hfk := hf k hlt
      simp only [Nat.lt_irrefl, if_false] at hfk
      have hnext : Hid (Full (wr.setCell ⟨w.heap.size, k, none⟩ (.float .f64 (Wd (c k) (-e)))) w.heap.size m (fun j => if j < k + 1 then .float .f64 (Wd (c j) (-e)) else .float .f64 0)) := (hf.set hlt _).congr (fun j _ => by
        by_cases ej : j = k
        · subst ej; simp
        · rw [if_neg ej]
          by_cases hj : j < k
          · rw [if_pos hj, if_pos (by omega)]
          · rw [if_neg hj, if_neg (by omega)])
      have hbel' := hide (hbel.setCell (p := ⟨w.heap.size, k, none⟩) (Nat.le_refl _) (.float .f64 (Wd (c k) (-e))))
      clear hf hbel
      go_wp2_with (go_at_call 11; refine (hld _).mono ?_; rintro r w' ⟨rfl, rfl⟩)
      exact ⟨⟨k + 1, by omega, by go_num, unhide hbel', by simp [hsz], unhide hnext⟩, by simp [intOf]; omega⟩
    · obtain rfl : m = k := by omega
      go_wp2
      go_ret
      exact ⟨rfl, hbel, hsz, hf.congr (fun j hj => by rw [if_pos hj])⟩

/-- The predictor's 18 cells. -/
def prOf (A : Nat → Int) (p s : Int) (j : Nat) : Value := if j < 16 then .int .i64 (A j) else if j = 16 then .int .i64 p else .int .u64 s
def Pr (w : World) (pb : Nat) (A : Nat → Int) (p s : Int) : Prop := Full w pb 18 (prOf A p s)

def zs28 : Array Value := #[.int .i64 0, .int .i64 0, .int .i64 0, .int .i64 0, .int .i64 0, .int .i64 0, .int .i64 0, .int .i64 0, .int .i64 0, .int .i64 0, .int .i64 0, .int .i64 0, .int .i64 0, .int .i64 0, .int .i64 0, .int .i64 0, .int .i64 0, .int .u64 0]
theorem zero28 (W : World) : (zeroValue 28).run Ybad.prog W = .ok (.agg #[.int .i64 0, .int .i64 0, .int .i64 0, .int .i64 0, .int .i64 0, .int .i64 0, .int .i64 0, .int .i64 0, .int .i64 0, .int .i64 0, .int .i64 0, .int .i64 0, .int .i64 0, .int .i64 0, .int .i64 0, .int .i64 0, .int .i64 0, .int .u64 0]) W := by kernel_rfl
def startV : Value := .agg #[.int .i64 7, .int .i64 7, .int .i64 7, .int .i64 7, .int .i64 7, .int .i64 7, .int .i64 7, .int .i64 7, .int .i64 7, .int .i64 7, .int .i64 7, .int .i64 7, .int .i64 7, .int .i64 7, .int .i64 7, .int .i64 7, .int .i64 3, .int .u64 5]
theorem zs_at (j : Nat) (hj : j < 18) : zs28[j]? = some (prOf (fun _ => 0) 0 0 j) := by
  have h : j = 0 ∨ j = 1 ∨ j = 2 ∨ j = 3 ∨ j = 4 ∨ j = 5 ∨ j = 6 ∨ j = 7 ∨ j = 8 ∨ j = 9 ∨ j = 10 ∨ j = 11 ∨ j = 12 ∨ j = 13 ∨ j = 14 ∨ j = 15 ∨ j = 16 ∨ j = 17 := by omega
  rcases h with rfl | rfl | rfl | rfl | rfl | rfl | rfl | rfl | rfl | rfl | rfl | rfl | rfl | rfl | rfl | rfl | rfl | rfl <;> rfl
theorem new_Pr (w : World) : Pr (w.alloc (.cells #[.int .i64 0, .int .i64 0, .int .i64 0, .int .i64 0, .int .i64 0, .int .i64 0, .int .i64 0, .int .i64 0, .int .i64 0, .int .i64 0, .int .i64 0, .int .i64 0, .int .i64 0, .int .i64 0, .int .i64 0, .int .i64 0, .int .i64 0, .int .u64 0] 28)) w.heap.size (fun _ => 0) 0 0 := Full.made w zs28 28 18 _ zs_at

theorem Pr.setA {w : World} {pb : Nat} {A : Nat → Int} {p s : Int} (h : Pr w pb A p s) {k : Nat} (hk : k < 16) (z : Int) : Pr (w.setCell ⟨pb, k, none⟩ (.int .i64 z)) pb (fun j => if j = k then z else A j) p s :=
  (Full.set h (show k < 18 by omega) _).congr (fun j _ => by
    unfold prOf
    by_cases e : j = k
    · subst e; simp [hk]
    · simp [e])
theorem Pr.setP {w : World} {pb : Nat} {A : Nat → Int} {p s : Int} (h : Pr w pb A p s) (z : Int) : Pr (w.setCell ⟨pb, 16, none⟩ (.int .i64 z)) pb A z s :=
  (Full.set h (show 16 < 18 by omega) _).congr (fun j _ => by
    unfold prOf
    by_cases e : j = 16
    · subst e; simp
    · simp [e])
theorem Pr.setS {w : World} {pb : Nat} {A : Nat → Int} {p s : Int} (h : Pr w pb A p s) (z : Int) : Pr (w.setCell ⟨pb, 17, none⟩ (.int .u64 z)) pb A p z :=
  (Full.set h (show 17 < 18 by omega) _).congr (fun j hj => by
    unfold prOf
    by_cases e : j = 17
    · subst e; simp
    · have h1 : j < 16 ∨ j = 16 := by omega
      rcases h1 with h1 | h1
      · simp [e, h1]
      · simp [h1])

/-- 18 cells, each one cell's value, none frozen. -/
def Some18 (w : World) (b : Nat) (f : Nat → Value) : Prop := Full w b 18 f ∧ ∀ j, j < 18 → (f j).oneCell' = true
def arr18 (f : Nat → Value) : Array Value := ((List.range 18).map f).toArray
theorem arr18_size (f : Nat → Value) : (arr18 f).size = 18 := by simp [arr18]
theorem arr18_all {w : World} {b : Nat} {f : Nat → Value} (h : Some18 w b f) : (arr18 f).all (·.oneCell') = true := all_oneCell_toArray (fun v hv => by
  obtain ⟨j, hj, rfl⟩ := List.mem_map.1 hv
  exact h.2 j (List.mem_range.1 hj))
theorem info28 : (Ybad.prog.info? 28).map (·.size) = some 18 := by kernel_rfl
theorem range18 {w : World} {b : Nat} {f : Nat → Value} (h : Full w b 18 f) : w.rangeAt b 0 ((List.range 18).map f) := fun j v hv => by
  have hj : j < 18 := by have := (List.getElem?_eq_some_iff.1 hv).1; simpa using this
  simp [hj] at hv
  rw [Nat.zero_add, ← hv]
  exact (h j hj).1
theorem there18 {w : World} {b : Nat} {f : Nat → Value} (h : Full w b 18 f) : w.there b 0 18 := fun j hj => by
  rw [Nat.zero_add, (h j hj).1]
  exact ⟨rfl, (h j hj).2⟩
theorem load18 {w : World} {b : Nat} {f : Nat → Value} (h : Full w b 18 f) : (loadVar 28 ⟨b, 0, none⟩).run Ybad.prog w = .ok (.agg (arr18 f)) w :=
  run_loadVar_mid w b 0 28 _ _ (range18 h) Ybad.underlying28 rfl (by rw [info28]; simp)
theorem loadAt18 {w : World} {b : Nat} {f : Nat → Value} (h : Full w b 18 f) : (Instr.loadAt 28 (.pointer (some ⟨b, 0, none⟩))).run Ybad.prog w = .ok (.agg (arr18 f)) w :=
  run_loadAt_mid w b 0 28 _ _ (range18 h) Ybad.underlying28 rfl (by rw [info28]; simp)
theorem storeAt18 {w : World} {b : Nat} {f : Nat → Value} (h : Full w b 18 f) {vs : Array Value} (hs : vs.size = 18) (h1 : vs.all (·.oneCell') = true) : (Instr.storeAt 28 (.pointer (some ⟨b, 0, none⟩)) (.agg vs)).run Ybad.prog w = .ok () (w.setCells b 0 vs.toList) :=
  run_storeAt_mid w b 0 28 vs (by rw [hs]; exact there18 h) (by rw [info28, hs]) h1
theorem Full.put18 {w : World} {b : Nat} {f g : Nat → Value} (h : Full w b 18 f) : Full (w.setCells b 0 (arr18 g).toList) b 18 g := fun j hj => by
  have hl : (arr18 g).toList.length = 18 := by simp [arr18]
  refine ⟨?_, by rw [World.frozen?_setCells]; exact (h j hj).2⟩
  have := World.cell?_setCells_in b (arr18 g).toList 0 w (fun i hi => (there18 h i (by omega)).1) j (by omega)
  rw [Nat.zero_add] at this
  rw [this]
  simp [arr18]
theorem Full.put_other {w : World} {b b' n : Nat} {f : Nat → Value} (h : Full w b' n f) (hne : b' ≠ b) (vs : List Value) : Full (w.setCells b 0 vs) b' n f := fun j hj => by
  rw [World.cell?_setCells_out b vs 0 w ⟨b', j, none⟩ (fun hb _ => absurd hb hne), World.frozen?_setCells]
  exact h j hj

theorem Below.setCells {B : Nat} {a : World} (b : Nat) (hb : B ≤ b) : ∀ (vs : List Value) (o : Nat) (w : World), Below B a w → Below B a (w.setCells b o vs)
  | [], _, _, h => h
  | _ :: vs, o, _, h => Below.setCells b hb vs (o + 1) _ (h.setCell hb _)

theorem zs_all : zs28.all (·.oneCell') = true := by kernel_rfl
theorem Some18.made (w : World) (C : Array Value) (e : TypeId) (h : C.size = 18) (h1 : C.all (·.oneCell') = true) : Some18 (w.alloc (.cells C e)) w.heap.size (fun j => C.getD j undef) :=
  ⟨Full.made w C e 18 _ (fun j hj => by simp [Array.getD, h, hj]), fun j hj => by
    have := (Array.all_eq_true_iff_forall_mem.1 h1) (C[j]'(by omega)) (Array.getElem_mem _)
    simpa [Array.getD, h, hj] using this⟩

theorem results_cell1 {P : Program} {fn : Func} {p : Tmp} {ty : TypeId} (h : fn.results = #[.cell p ty]) (tmps : Array Value) (w : World) (a : Addr) (hp : tmps.getD p undef = .pointer (some a)) {v : Value} (hl : (loadVar ty a).run P w = .ok v w) :
    (results fn tmps).run P w = .ok v w := by
  have hp' : tmps[p]?.getD undef = .pointer (some a) := by simpa using hp
  simp [results, h, hp', asAddr, hl]

def st28 : Array Value := #[.int .i64 0, .int .i64 0, .int .i64 0, .int .i64 0, .int .i64 0, .int .i64 0, .int .i64 0, .int .i64 0, .int .i64 0, .int .i64 0, .int .i64 0, .int .i64 0, .int .i64 0, .int .i64 0, .int .i64 0, .int .i64 0, .int .i64 3, .int .u64 5]
theorem st_all : st28.all (·.oneCell') = true := by kernel_rfl
theorem start0 (w : World) : Below w.heap.size w ((w.alloc (.cells zs28 28)).alloc (.cells st28 28)) ∧ w.heap.size + 2 ≤ ((w.alloc (.cells zs28 28)).alloc (.cells st28 28)).heap.size ∧
    (∃ f, Some18 ((w.alloc (.cells zs28 28)).alloc (.cells st28 28)) (w.heap.size + 1) f) ∧ ∃ f, Full ((w.alloc (.cells zs28 28)).alloc (.cells st28 28)) w.heap.size 18 f := by
  refine ⟨((Below.refl _ w).alloc (Nat.le_refl _) _).alloc (by simp) _, by simp, ?_, _, ((Some18.made w zs28 28 rfl zs_all).1.alloc (by simp) _)⟩
  have := Some18.made (w.alloc (.cells zs28 28)) st28 28 rfl st_all
  rw [show (w.alloc (.cells zs28 28)).heap.size = w.heap.size + 1 by simp] at this
  exact ⟨_, this⟩

set_option maxRecDepth 100000 in
set_option maxHeartbeats 1000000 in
theorem start_any (w : World) : Calls Ybad.prog 7 #[] w fun r w' => ∃ vs : Array Value, r = .returned (.agg vs) ∧ vs.size = 18 ∧ vs.all (·.oneCell') = true ∧ Below w.heap.size w w' := by
  have hz := zero28
  go_enter Ybad.func7, Ybad.ntmps7
  go_wp2
  go_loopw [2] (fun i wr => ∃ k : Nat, k ≤ 16 ∧ i = .int .i64 k ∧ Below w.heap.size w wr ∧ w.heap.size + 2 ≤ wr.heap.size ∧ (∃ f, Some18 wr (w.heap.size + 1) f) ∧ ∃ f, Full wr w.heap.size 18 f) (fun i _ => 16 - (intOf i).toNat)
  case atStart => 
    exact ⟨0, Nat.zero_le _, rfl, start0 w⟩
  case round =>
    obtain ⟨k, hk, rfl, hbel, hsz, ⟨f, hf⟩, f', hf'⟩ := hrel
    by_cases hlt : k < 16
    · have hfk := hf.1 k (by omega)
      go_wp2
      refine ⟨⟨k + 1, by omega, by go_num, hbel.setCell (by simp) _, by simpa using hsz, ⟨_, hf.1.set (show k < 18 by omega) _, fun j hj => ?_⟩, f', fun j hj => ?_⟩, by simp [intOf]; omega⟩
      · by_cases e : j = k
        · simp only [e, if_true]; rfl
        · simp only [e, if_false]; exact hf.2 j hj
      · rw [World.cell?_setCell_other _ _ _ _ (by simp), World.frozen?_setCell]
        exact hf' j hj
    · obtain rfl : k = 16 := by omega
      have hl := hide (range18 hf.1)
      have ht := hide (there18 hf')
      have hr := load18 (Full.put18 (g := f) hf')
      have hz' := arr18_size f
      have ha := arr18_all hf
      have hi : (Ybad.prog.info? 28).map (·.size) = some ((List.range 18).map f).length := by rw [info28]; simp
      have hi' : (Ybad.prog.info? 28).map (·.size) = some (arr18 f).size := by rw [info28, hz']
      have Hi := hide hi
      have Hi' := hide hi'
      have Hr := hide hr
      have ht' : Hid (wr.there w.heap.size 0 (arr18 f).size) := by rw [hz']; exact ht
      have hbel' := hide (Below.setCells w.heap.size (Nat.le_refl _) (arr18 f).toList 0 wr hbel)
      clear hz hi hi' hr ht
      go_wp2_with (first | (refine wpList_load_mid rfl 28 _ rfl (w.heap.size + 1) 0 rfl ((List.range 18).map f) _ (unhide hl) Ybad.underlying28 rfl (unhide Hi) ?_) | (refine wpList_store_mid rfl 28 _ _ rfl w.heap.size 0 (arr18 f) rfl rfl (unhide ht') (unhide Hi') ha ?_))
      refine bodyPost_ret_by (v := .agg (arr18 f)) ?_ rfl ⟨_, rfl, hz', ha, unhide hbel'⟩
      exact results_cell1 (p := 0) (ty := 28) rfl _ _ ⟨w.heap.size, 0, none⟩ rfl (unhide Hr)
end Go.Proofs.YbulkdbluDoor
