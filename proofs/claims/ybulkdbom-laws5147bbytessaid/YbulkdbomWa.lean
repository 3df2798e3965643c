/-
  The law 'node.LawS5147BBytes', walked.
-/
import Derived.Test.YbulkdbomKit
import Derived.Deep.AppendLies
namespace Go.Proofs.Ybulkdbom
open Go.RowKit
set_option linter.unusedVariables false

theorem make5 (w : World) (n : Nat) (hn : n ≤ 4000) :
    (Instr.makeSlice 22 (.int .i64 n) (.int .i64 n)).run Yba.prog w = .ok (.slice (some ⟨w.heap.size, 0, none⟩) n n) (w.alloc (.cells (madeCells (Value.int .u8 0).cells n) 5)) := by
  obtain ⟨i0, hi, hz0, hz1, hz2⟩ := info_parts info5
  have h := run_make (P := Yba.prog) w 22 5 i0 _ Yba.underlying22 hi hz0 .i64 .i64 n n (by omega) (by omega) (by rw [hz2]; omega) (by omega)
  rw [hz1] at h
  simpa using h

theorem make0 (w : World) (c : Int) (h0 : 0 ≤ c) (hc : c ≤ 4000) :
    (Instr.makeSlice 22 (.int .i64 0) (.int .i64 c)).run Yba.prog w = .ok (.slice (some ⟨w.heap.size, 0, none⟩) 0 c.toNat) (w.alloc (.cells (madeCells (Value.int .u8 0).cells c.toNat) 5)) := by
  obtain ⟨i0, hi, hz0, hz1, hz2⟩ := info_parts info5
  have h := run_make (P := Yba.prog) w 22 5 i0 _ Yba.underlying22 hi hz0 .i64 .i64 0 c (by omega) (by omega) (by rw [hz2]; omega) (by omega)
  rw [hz1] at h
  simpa using h

/-- The slice that came in, told by a list of numbers. -/
def In (w : World) (a : Option Addr) (cap b off : Nat) (zs : List Int) : Prop :=
  (a = none → zs = []) ∧ (0 < zs.length → b < w.heap.size) ∧ (0 < zs.length → a = some ⟨b, off, none⟩) ∧ ∀ i, i < zs.length → w.cell? ⟨b, off + i, none⟩ = some (.int .u8 (zs.getD i 0))

theorem In.kept {w w' : World} {a : Option Addr} {cap b off : Nat} {zs : List Int} (h : In w a cap b off zs) (hb : Below w.heap.size w w') : In w' a cap b off zs := by
  obtain ⟨h0, h1, h2, h3⟩ := h
  refine ⟨h0, fun hp => Nat.lt_of_lt_of_le (h1 hp) hb.size, h2, fun i hi => ?_⟩
  rw [hb.cell (p := ⟨b, _, none⟩) (h1 (by omega))]
  exact h3 i hi

theorem In.cells {w : World} {x : Addr} {cap b off : Nat} {zs : List Int} (h : In w (some x) cap b off zs) : ∀ j u, (cellsOf zs)[j]? = some u → w.cell? (x.add j) = some u := by
  obtain ⟨h0, h1, h2, h3⟩ := h
  intro j u hj
  have hl : j < zs.length := by
    have := (List.getElem?_eq_some_iff.1 hj).1
    simpa [cellsOf] using this
  have e := h2 (by omega)
  simp only [Option.some.injEq] at e
  subst e
  rw [WideShapes.add_plain, h3 j hl]
  simp [cellsOf, hl] at hj
  simp [hl, ← hj]

theorem below_setCells {B b : Nat} {w0 : World} (hb : B ≤ b) : ∀ (vs : List Value) (o : Nat) (w : World), Below B w0 w → Below B w0 (w.setCells b o vs) ∧ (w.setCells b o vs).heap.size = w.heap.size
  | [], o, w, h => ⟨h, rfl⟩
  | v :: r, o, w, h => by
    have := below_setCells hb r (o + 1) (w.setCell ⟨b, o, none⟩ v) (h.setCell hb v)
    exact ⟨this.1, by rw [show (w.setCells b o (v :: r)) = (w.setCell ⟨b, o, none⟩ v).setCells b (o + 1) r from rfl, this.2]; simp⟩

/-- make, copy: a row of the same numbers. -/
theorem copy_step (w : World) (a : Option Addr) (cap b off : Nat) (zs : List Int) (h : In w a cap b off zs) :
    ∃ W1, (Builtin.copy_ #[22, 22] 3 #[.slice (some ⟨w.heap.size, 0, none⟩) zs.length zs.length, .slice a zs.length cap]).run Yba.prog (w.alloc (.cells (madeCells (Value.int .u8 0).cells zs.length) 5)) = .ok (goInt zs.length) W1 ∧
      Below w.heap.size w W1 ∧ W1.heap.size = w.heap.size + 1 ∧ ∀ j u, (cellsOf zs)[j]? = some u → W1.cell? ((⟨w.heap.size, 0, none⟩ : Addr).add j) = some u := by
  have hbw : Below w.heap.size w (w.alloc (.cells (madeCells (Value.int .u8 0).cells zs.length) 5)) := (Below.refl _ w).alloc (Nat.le_refl _) _
  rcases Nat.eq_zero_or_pos zs.length with h0 | hp
  · have hz : zs = [] := List.length_eq_zero_iff.1 h0
    subst hz
    refine ⟨_, run_copy_none (P := Yba.prog) _ 22 22 3 5 _ _ 0 0 0 cap Yba.underlying22 (by kernel_rfl) rfl, hbw, by simp, fun j u hj => by simp [cellsOf] at hj⟩
  · have ha := h.2.2.1 hp
    subst ha
    have hsrc := (h.kept hbw).cells
    have hcell : ∀ j, j < zs.length → (madeCells (Value.int .u8 0).cells zs.length)[j]? = some (.int .u8 0) := fun j hj => by
      simp only [madeCells, Value.cells, Array.getElem?_map, Array.getElem?_range, hj, if_true, Option.map_some]
      simp [Nat.mod_one]
    have hsome : ∀ j, j < (cellsOf zs).length → ((w.alloc (.cells (madeCells (Value.int .u8 0).cells zs.length) 5)).cell? ⟨w.heap.size, 0 + j, none⟩).isSome = true := fun j hj => by
      rw [World.cell?_alloc_at _ _ _ _ rfl, Nat.zero_add, hcell j (by simpa [cellsOf] using hj)]
      rfl
    have hr := run_copy_cells (P := Yba.prog) (w.alloc (.cells (madeCells (Value.int .u8 0).cells zs.length) 5)) 22 22 3 5 w.heap.size 0 zs.length zs.length ⟨b, off, none⟩ zs.length cap (cellsOf zs) Yba.underlying22 (by kernel_rfl) (by simp [cellsOf])
      hsrc hsome (fun j _ => World.frozen?_alloc_at _ _ _ _ rfl) (one_cell zs)
    have el : (cellsOf zs).length = zs.length := by simp [cellsOf]
    rw [el] at hr
    refine ⟨_, hr, ?_, ?_, ?_⟩
    · exact (below_setCells (Nat.le_refl _) (cellsOf zs) 0 _ hbw).1
    · rw [(below_setCells (Nat.le_refl _) (cellsOf zs) 0 _ hbw).2]
      simp
    · intro j u hj
      have hl : j < (cellsOf zs).length := (List.getElem?_eq_some_iff.1 hj).1
      have := World.cell?_setCells_in w.heap.size (cellsOf zs) 0 _ hsome j hl
      rw [WideShapes.add_plain, this]
      rw [List.getElem?_eq_getElem hl] at hj
      exact hj

/-- The whole of what came in, appended onto an own row that is not nil. -/
theorem appendIn {w : World} {B g cap0 : Nat} (hown : Own w B (.slice (some ⟨g, 0, none⟩) 0 cap0) []) (hB : B ≤ w.heap.size) (a : Option Addr) (cap b off : Nat) (zs : List Int) (h : In w a cap b off zs) (hl : zs.length ≤ 1024) :
    ∃ v' w', (∀ ty, (Builtin.append_ #[22, 22] ty #[.slice (some ⟨g, 0, none⟩) 0 cap0, .slice a zs.length cap]).run Yba.prog w = .ok v' w') ∧ Own w' B v' zs ∧ w.grownBy w' (some g) := by
  cases a with
  | some x =>
    obtain ⟨v', w', r1, r2, r3⟩ := hown.append hB x cap zs h.cells (by simp; omega)
    exact ⟨v', w', r1, r2, r3⟩
  | none =>
    have hz := h.1 rfl
    subst hz
    obtain ⟨i0, hi, hz0, hz1, hz2⟩ := info_parts info5
    have hs : Src Yba.prog i0.size 22 (.slice none 0 cap) 0 [] w := Src.ofNil w Yba.underlying22 cap
    have hr := run_append_room_src (P := Yba.prog) w 22 22 0 5 i0 Yba.underlying22 hi g 0 0 cap0 _ 0 [] hs (by omega) (fun j hj => by simp at hj) (fun j hj => by simp at hj)
    exact ⟨_, _, fun ty => hr, hown, ⟨rfl, rfl, rfl, Nat.le_refl _, fun _ _ _ => rfl⟩⟩

theorem getD_take (s : ByteArray) (k : Nat) (h : k < s.size) : (strInts s).take (k + 1) = (strInts s).take k ++ [(s[k].toNat : Int)] := by
  rw [List.take_succ_eq_append_getElem (by simpa [strInts] using h)]
  simp [strInts]
  rfl

set_option maxRecDepth 100000 in
set_option maxHeartbeats 1000000 in
theorem law_main (a0 : Option Addr) (cap0 b0 off0 : Nat) (zs : List Int) (s : ByteArray) (N : Int) (w : World) (hin : In w a0 cap0 b0 off0 zs) (hz : zs.length ≤ 1024) (hs : s.size ≤ 1024) :
    Calls Yba.prog 3 #[.slice a0 zs.length cap0, .string s, .int .i64 N] w fun e w' => e = .returned (.bool true) ∧ Below w.heap.size w w' := by
  have hz' : ¬ (1024 : Int) < zs.length := by omega
  have hs' : ¬ (1024 : Int) < s.size := by omega
  have hmk := make5 w zs.length (by omega)
  obtain ⟨W1, hcp, hb1, hsz1, hpre⟩ := copy_step w a0 cap0 b0 off0 zs hin
  have Hpre := hide hpre
  clear hpre
  rw [show (Value.int .u8 0).cells = #[Value.int .u8 0] from rfl] at hcp
  have hin1 := hin.kept hb1
  go_enter Yba.func3, Yba.ntmps3
  go_wp2_with fail
  refine (marker_any w.heap.size zs s N W1 (by omega) hz hs (unhide Hpre)).mono ?_
  rintro e W2 ⟨got, rfl, hgot, hb2⟩
  have hin2 := hin1.kept hb2
  have hcap0 : (0 : Int) ≤ ↑zs.length + ↑s.size + 24 := by omega
  have hmk2 := make0 W2 (↑zs.length + ↑s.size + 24) hcap0 (by omega)
  rw [show (Value.int .u8 0).cells = #[Value.int .u8 0] from rfl] at hmk2
  obtain ⟨O, hO⟩ : ∃ O, O = Obj.cells (madeCells #[Value.int .u8 0] (↑zs.length + ↑s.size + 24 : Int).toNat) 5 := ⟨_, rfl⟩
  rw [← hO] at hmk2
  have hwant0 : Own (W2.alloc O) W2.heap.size (.slice (some ⟨W2.heap.size, 0, none⟩) 0 (↑zs.length + ↑s.size + 24 : Int).toNat) [] := by
    rw [hO]
    exact World.ownsRow_made W2 _ _ (Nat.le_refl _) (by unfold maxLen; omega) (by simp [size_madeCells])
  clear hO
  have hb3 : Below W2.heap.size W2 (W2.alloc O) := (Below.refl _ _).alloc (Nat.le_refl _) _
  obtain ⟨v4, W4, hrun4, hown4, hg4⟩ := appendIn hwant0 (by simp) a0 cap0 b0 off0 zs (hin2.kept hb3) hz
  have hb4 : Below W2.heap.size W2 W4 := hb3.grown hg4 (by simp) (fun k hk => by cases hk; exact Nat.le_refl _)
  have hs4 : W2.heap.size ≤ W4.heap.size := hb4.size
  obtain ⟨v5, W5, hrun5, hown5, hg5⟩ := (hown4.alloc (.cells #[.int .u8 192, .int .u8 1] 5)).append (by simp; omega) ⟨W4.heap.size, 0, none⟩ 2 [192, 1] (two_new W4 (.int .u8 192) (.int .u8 1)) (by simp; omega)
  have hb5 : Below W2.heap.size W2 W5 := (hown4.alloc (.cells #[.int .u8 192, .int .u8 1] 5)).below (hb4.alloc hs4 _) hg5 (Nat.le_refl _) (by simp; omega)
  have Hrun4 := hide hrun4
  have Hrun5 := hide hrun5
  clear hrun4 hrun5 hg4 hg5
  go_wp2_with (first | (at_builtin; refine wpList_append_run rfl _ _ 22 22 rfl _ _ rfl rfl v4 W4 (unhide Hrun4) ?_) | (at_builtin; refine wpList_append_run rfl _ _ 22 22 rfl _ _ rfl rfl v5 W5 (unhide Hrun5) ?_))
  have hs5 : W2.heap.size ≤ W5.heap.size := hb5.size
  refine (uv5_any v5 _ _ W2.heap.size _ (by omega) (by omega) hown5 hs5 (by simp; omega)).mono ?_
  rintro e W6 ⟨v6, rfl, hown6, hb6⟩
  have hb6' : Below W2.heap.size W2 W6 := hb5.trans hb6
  have hu1 := uvF_len 10 s.size
  clear hmk hcp hmk2 Hrun4 Hrun5 hown4 hown5 hwant0 hb6 hb5 hb4 hb3
  go_wp2_with fail
  go_loopw [9, 10] (fun v i wr => ∃ k : Nat, k ≤ s.size ∧ i = .int .i64 k ∧ Own wr W2.heap.size v ((zs ++ [192, 1] ++ uvF 10 s.size) ++ (strInts s).take k) ∧ Below W2.heap.size W2 wr) (fun _ i _ => s.size - (intOf i).toNat)
  case atStart => exact ⟨0, Nat.zero_le _, rfl, by simpa using hown6, hb6'⟩
  case round =>
    clear hown6 hb6'
    obtain ⟨k, hk, rfl, hown, hbel⟩ := hrel
    have hsr : W2.heap.size ≤ wr.heap.size := hbel.size
    by_cases hlt : k < s.size
    · obtain ⟨v7, w7, hrun7, hown7, hg7⟩ := hown.push hsr (s[k].toNat : Int) (by simp; omega)
      have hb7 : Below W2.heap.size W2 w7 := (hown.alloc (.cells #[.int .u8 (s[k].toNat : Int)] 5)).below (hbel.alloc hsr _) hg7 (Nat.le_refl _) (by simp; omega)
      have Hrun7 := hide hrun7
      clear hrun7 hg7
      go_wp2_with (at_builtin; refine wpList_append_run rfl _ _ 22 22 rfl _ _ rfl rfl v7 w7 (unhide Hrun7) ?_)
      refine ⟨⟨k + 1, by omega, by go_num, ?_, hb7⟩, by simp [intOf]; omega⟩
      rw [getD_take s k hlt, ← List.append_assoc]
      exact hown7
    · obtain rfl : k = s.size := by omega
      rw [List.take_of_length_le (by simp [strInts])] at hown
      have hN := wrap_bd N
      go_wp2_with fail
      refine (uv5_any _ _ _ W2.heap.size _ hN.1 hN.2 hown hsr (by simp [strInts]; omega)).mono ?_
      rintro e W8 ⟨want, rfl, hwant, hb8⟩
      have hb8' : Below W2.heap.size W2 W8 := hbel.trans hb8
      generalize hL : zs ++ [192, 1] ++ uvF 10 ↑s.size ++ strInts s ++ uvF 10 (IntKind.u64.wrap N) = L at hgot hwant
      have hLn : 0 < L.length := by rw [← hL]; simp; omega
      have hLm : L.length ≤ 1000000 := by have := uvF_len 10 (IntKind.u64.wrap N); rw [← hL]; simp [strInts]; omega
      clear hL
      obtain ⟨g1, c1, rfl, hg1, hl1⟩ := World.ownsRow.form hgot hLn
      obtain ⟨g2, c2, rfl, hg2, hl2⟩ := World.ownsRow.form hwant hLn
      have hcell : ∀ (W : World) (g B c : Nat), Own W B (.slice (some ⟨g, 0, none⟩) L.length c) L → ∀ i, i < L.length → W.cell? ⟨g, 0 + i, none⟩ = some (.int .u8 (L.getD i 0)) := by
        intro W g B c ho i hi
        have := World.ownsRow.cells ho (g := g) rfl i (.int .u8 (L.getD i 0)) (by simp [cellsOf, hi])
        rw [WideShapes.add_plain] at this
        exact this
      have k1 := hcell W2 g1 _ c1 hgot
      have k2 := hcell W8 g2 _ c2 hwant
      have k1' : ∀ i, i < L.length → W8.cell? ⟨g1, 0 + i, none⟩ = some (.int .u8 (L.getD i 0)) := fun i hi => by rw [hb8'.cell (p := ⟨g1, _, none⟩) hl1]; exact k1 i hi
      have hpre8 : ∀ i, i < zs.length → W8.cell? ⟨w.heap.size, 0 + i, none⟩ = some (.int .u8 (zs.getD i 0)) := fun i hi => by
        have h2 := hb2.size
        rw [hb8'.cell (p := ⟨w.heap.size, _, none⟩) (by show w.heap.size < W2.heap.size; omega), hb2.cell (p := ⟨w.heap.size, _, none⟩) (by show w.heap.size < W1.heap.size; omega)]
        have := unhide Hpre i (.int .u8 (zs.getD i 0)) (by simp [cellsOf, hi])
        rw [WideShapes.add_plain] at this
        exact this
      have hin8 := hin2.kept hb8'
      have hbW : Below w.heap.size w W8 := hb1.trans ((hb2.mono (by omega)).trans (hb8'.mono (by have := hb2.size; omega)))
      clear hcell k1 hgot hwant hown hb8 hb8' hbel hin2 hin1 hin hb2 hb1
      go_wp2_with fail
      refine (same_any (some ⟨g1, 0, none⟩) (some ⟨g2, 0, none⟩) L.length c1 c2 g1 0 g2 0 (fun i => L.getD i 0) W8 hLm (fun _ => rfl) (fun _ => rfl) k1' k2).mono ?_
      rintro e w' ⟨rfl, q, rfl⟩
      go_wp2_with fail
      refine (same_any (some ⟨w.heap.size, 0, none⟩) a0 zs.length zs.length cap0 w.heap.size 0 b0 off0 (fun i => zs.getD i 0) (W8.drewN q) (by omega) (fun _ => rfl) hin8.2.2.1 hpre8 hin8.2.2.2).mono ?_
      rintro e w' ⟨rfl, q2, rfl⟩
      go_wp2
      go_ret
      exact ⟨rfl, below_drewN hbW _⟩

set_option maxRecDepth 100000 in
set_option maxHeartbeats 400000 in
theorem law_long (a0 : Option Addr) (n cap0 : Nat) (s : ByteArray) (N : Int) (w : World) (h : (1024 : Int) < n ∨ (1024 : Int) < s.size) :
    Calls Yba.prog 3 #[.slice a0 n cap0, .string s, .int .i64 N] w fun e w' => e = .returned (.bool true) ∧ Below w.heap.size w w' := by
  by_cases h1 : (1024 : Int) < n
  · go_enter Yba.func3, Yba.ntmps3
    go_wp2
    go_ret
    exact ⟨rfl, Below.refl _ _⟩
  · have h2 : (1024 : Int) < s.size := by omega
    clear h
    go_enter Yba.func3, Yba.ntmps3
    go_wp2
    go_ret
    exact ⟨rfl, Below.refl _ _⟩
end Go.Proofs.Ybulkdbom
