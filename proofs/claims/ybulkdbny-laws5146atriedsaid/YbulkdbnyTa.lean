/-
  The law 'sched.LawS5146ATried', walked: by the order (shortest first or not), the sign of k, whether k lies in the list, and whether the list is nil.
-/
import Derived.Test.YbulkdbnyKit
namespace Go.Proofs.Ybulkdbny
open Go.RowKit
set_option linter.unusedVariables false

set_option maxRecDepth 100000 in
set_option maxHeartbeats 400000 in
theorem tried_long (a0 a1 : Option Addr) (n cap0 m cap1 : Nat) (a2 k : Int) (w : World) (h : (1024 : Int) < n ∨ (1024 : Int) < m) :
    Calls Yba.prog 3 #[.slice a0 n cap0, .slice a1 m cap1, .int .u8 a2, .int .i64 k] w fun e w' => e = .returned (.bool true) ∧ Below w.heap.size w w' := by
  by_cases h1 : (1024 : Int) < n
  · go_enter Yba.func3, Yba.ntmps3
    go_wp2
    go_ret
    exact ⟨rfl, Below.refl _ _⟩
  · have h2 : (1024 : Int) < m := by omega
    clear h
    go_enter Yba.func3, Yba.ntmps3
    go_wp2
    go_ret
    exact ⟨rfl, Below.refl _ _⟩

set_option maxRecDepth 100000 in
set_option maxHeartbeats 400000 in
theorem tried_far (a0 a1 : Option Addr) (n cap0 m cap1 : Nat) (a2 k : Int) (w : World) (hn : n ≤ 1024) (hm : m ≤ 1024) (h : k < -2048 ∨ 2048 < k) :
    Calls Yba.prog 3 #[.slice a0 n cap0, .slice a1 m cap1, .int .u8 a2, .int .i64 k] w fun e w' => e = .returned (.bool true) ∧ Below w.heap.size w w' := by
  have hn' : ¬ (1024 : Int) < n := by omega
  have hm' : ¬ (1024 : Int) < m := by omega
  by_cases h1 : k < -2048
  · go_enter Yba.func3, Yba.ntmps3
    go_wp2
    go_ret
    exact ⟨rfl, Below.refl _ _⟩
  · have h2 : 2048 < k := by omega
    clear h
    go_enter Yba.func3, Yba.ntmps3
    go_wp2
    go_ret
    exact ⟨rfl, Below.refl _ _⟩

set_option maxRecDepth 100000 in
set_option maxHeartbeats 1000000 in
theorem law_s_py (a0 : Option Addr) (n cap0 b0 off0 : Nat) (es : Nat → Int) (x1 : Addr) (m cap1 b1 off1 : Nat) (ss : Nat → Int) (a2 k : Int) (w : World)
    (hn : n ≤ 1024) (hb0 : 0 < n → b0 < w.heap.size) (ha0 : 0 < n → a0 = some ⟨b0, off0, none⟩) (hc0 : ∀ i, i < n → w.cell? ⟨b0, off0 + i, none⟩ = some (.int .i64 (es i)))
    (hm : m ≤ 1024) (hb1 : 0 < m → b1 < w.heap.size) (ha1 : 0 < m → some x1 = some ⟨b1, off1, none⟩) (hc1 : ∀ i, i < m → w.cell? ⟨b1, off1 + i, none⟩ = some (.int .i64 (ss i)))
    (h20 : 0 ≤ a2) (h21 : a2 ≤ 255) (ho : (a2 % 3 == 1) = true) (hk0 : 0 ≤ k) (hk1 : k ≤ 2048) (hkm : k < m) :
    Calls Yba.prog 3 #[.slice a0 n cap0, .slice (some x1) m cap1, .int .u8 a2, .int .i64 k] w fun e w' => e = .returned (.bool true) ∧ Below w.heap.size w w' := by
  have hn' : ¬ (1024 : Int) < n := by omega
  have hm' : ¬ (1024 : Int) < m := by omega
  have hx1 : ¬ k < -2048 := by omega
  have hx2 : ¬ 2048 < k := by omega
  have hd0 : decide (k < 0) = false := by simpa using hk0
  have hmk := fun W => make3 W m hm
  go_enter Yba.func3, Yba.ntmps3
  go_wp2_with (first | (go_at_call 5; refine (queue_any a0 n cap0 b0 off0 es _ hn hb0 ha0 hc0).mono ?_; rintro e w1 ⟨rfl, hbel1, hsz1, hq1⟩) | (go_at_call 6; fail))
  go_loopw [12] (fun i wr => ∃ (j : Nat) (f : Nat → Value), j ≤ m ∧ i = .int .i64 j ∧ Below w.heap.size w wr ∧ wr.heap.size = w.heap.size + 2 ∧ QueueTo wr w.heap.size n (fun _ => 1) es n ∧ Full wr (w.heap.size + 1) m f ∧ ∀ i, i < j → f i = .int .i64 (ss i)) (fun i _ => m - (intOf i).toNat)
  case atStart =>
    refine ⟨0, fun _ => .int .i64 0, Nat.zero_le _, rfl, hbel1.alloc (by omega) _, by simp [hsz1], ?_, ?_, fun i hi => by omega⟩
    · obtain ⟨f, hf1, hf2⟩ := hq1
      exact ⟨f, hf1.alloc (by omega) _, hf2⟩
    · have := Full.made w1 (madeCells (Value.int .i64 0).cells m) 3 m (fun _ => .int .i64 0) (fun j hj => made3 m j hj)
      rw [hsz1] at this
      exact this
  case round =>
    clear hbel1 hsz1 hq1
    obtain ⟨j, f, hj, rfl, hbel, hsz, hq, hf, hfs⟩ := hrel
    by_cases hlt : j < m
    · have hix := fun W => idx (P := Yba.prog) Yba.underlying23 size3 (cap := cap1) ha1 hlt W
      have t0 := hf j hlt
      have hs : wr.cell? ⟨b1, off1 + j, none⟩ = some (.int .i64 (ss j)) := by rw [hbel.cell (p := ⟨b1, _, none⟩) (hb1 (by omega))]; exact hc1 j hlt
      go_wp2
      refine ⟨⟨j + 1, _, by omega, by go_num, hbel.setCell (by simp) _, by simp [hsz], ?_, hf.set hlt _, ?_⟩, by simp [intOf]; omega⟩
      · obtain ⟨g, hg1, hg2⟩ := hq
        exact ⟨g, fun i hi => ⟨by rw [World.cell?_setCell_other _ _ _ _ (by simp)]; exact (hg1 i hi).1, by rw [World.frozen?_setCell]; exact (hg1 i hi).2⟩, hg2⟩
      · intro i hi
        by_cases e : i = j
        · subst e; simp
        · simp only [if_neg e]; exact hfs i (by omega)
    · obtain rfl : m = j := by omega
      clear hmk hlt hj
      have hb1w := hb1 (by omega)
      have hkk : 0 ≤ k := by omega
      have hixk := fun W => idxI (P := Yba.prog) Yba.underlying23 size3 (cap := cap1) ha1 hkk hkm W
      have hfk : wr.cell? ⟨w.heap.size + 1, (k).toNat, none⟩ = some (.int .i64 (ss (k).toNat)) := by rw [(hf (k).toNat (by omega)).1, hfs _ (by omega)]
      have Ha1 := hide ha1
      clear ha1
      have hq2 := hide hq
      clear hq
      go_wp2_with fail
      refine (tried_yes (w.heap.size + 2) (w.heap.size + 1) m m k (ss (k).toNat) _ ?_ ?_ (by omega) hkm ?_).mono ?_
      · rw [World.cell?_alloc_at _ _ _ _ hsz.symm]; simp; exact eq_of_beq ho
      · rw [World.cell?_alloc_at _ _ _ _ hsz.symm]; rfl
      · rw [World.cell?_alloc_past _ _ _ (by omega)]; exact hfk
      rintro e W ⟨rfl, hW⟩
      have p0 : W.cell? ⟨w.heap.size + 2, 0, none⟩ = some (.slice (some ⟨w.heap.size, 0, none⟩) n n) := by rw [hW, World.cell?_alloc_at _ _ _ _ hsz.symm]; rfl
      have p14 : W.cell? ⟨w.heap.size + 2, 14, none⟩ = some (.slice (some ⟨w.heap.size + 1, 0, none⟩) m m) := by rw [hW, World.cell?_alloc_at _ _ _ _ hsz.symm]; rfl
      have hfW : Full W (w.heap.size + 1) m f := by rw [hW]; exact hf.alloc (by omega) _
      have hbW : Below w.heap.size w W := by rw [hW]; exact hbel.alloc (by omega) _
      have hqW : ∃ g, Full W w.heap.size (n * 6) g ∧ ∀ i, i < n → g (i * 6) = .int .i64 i ∧ g (i * 6 + 1) = .int .i64 1 ∧ g (i * 6 + 2) = .int .i64 (es i) := by
        obtain ⟨g, hg1, hg2⟩ := unhide hq2
        exact ⟨g, by rw [hW]; exact hg1.alloc (by omega) _, hg2⟩
      have skW : W.cell? ⟨b1, off1 + (k).toNat, none⟩ = some (.int .i64 (ss (k).toNat)) := by rw [hbW.cell (p := ⟨b1, _, none⟩) hb1w]; exact hc1 _ (by omega)
      clear hW hq2 hbel hsz hf hfk
      obtain ⟨g, hg1, hg2⟩ := hqW
      have Ha0 := hide ha0
      clear ha0
      go_wp2
      go_loopw [16] (fun i wq => ∃ (j q : Nat), j ≤ n ∧ i = .int .i64 j ∧ wq = W.drewN q) (fun i _ => n - (intOf i).toNat)
      case atStart => exact ⟨0, 0, Nat.zero_le _, rfl, rfl⟩
      case round =>
        obtain ⟨j, q, hj, rfl, rfl⟩ := hrel
        by_cases hlt : j < n
        · have hix := fun W => idx (P := Yba.prog) Yba.underlying22 size2 (cap := cap0) (unhide Ha0) hlt W
          have c0 : W.cell? ⟨w.heap.size, j * 6, none⟩ = some (.int .i64 j) := by rw [(hg1 _ (by omega)).1, (hg2 j hlt).1]
          have c2 : W.cell? ⟨w.heap.size, j * 6 + 2, none⟩ = some (.int .i64 (es j)) := by rw [(hg1 _ (by omega)).1, (hg2 j hlt).2.2]
          have cs : W.cell? ⟨b0, off0 + j, none⟩ = some (.int .i64 (es j)) := by rw [hbW.cell (p := ⟨b0, _, none⟩) (hb0 (by omega))]; exact hc0 j hlt
          have hj2 : (j : Int) < n := by omega
          go_wp2
          go_quiet (fail)
          go_wp2
          exact ⟨⟨j + 1, _, by omega, by go_num, rfl⟩, by simp [intOf]; omega⟩
        · go_wp2
          go_loopw [17] (fun i wq => ∃ (j q : Nat), j ≤ m ∧ i = .int .i64 j ∧ wq = W.drewN q) (fun i _ => m - (intOf i).toNat)
          case atStart => exact ⟨0, _, Nat.zero_le _, rfl, rfl⟩
          case round =>
            obtain ⟨j, q, hj, rfl, rfl⟩ := hrel
            by_cases hlt : j < m
            · have hix := fun W => idx (P := Yba.prog) Yba.underlying23 size3 (cap := cap1) (unhide Ha1) hlt W
              have c0 : W.cell? ⟨w.heap.size + 1, j, none⟩ = some (.int .i64 (ss j)) := by rw [(hfW j hlt).1, hfs j hlt]
              have cs : W.cell? ⟨b1, off1 + j, none⟩ = some (.int .i64 (ss j)) := by rw [hbW.cell (p := ⟨b1, _, none⟩) (hb1 (by omega))]; exact hc1 j hlt
              have hj2 : (j : Int) < m := by omega
              go_wp2
              go_quiet (fail)
              go_wp2
              exact ⟨⟨j + 1, _, by omega, by go_num, rfl⟩, by simp [intOf]; omega⟩
            · go_wp2
              go_ret
              exact ⟨rfl, below_drewN hbW _⟩

set_option maxRecDepth 100000 in
set_option maxHeartbeats 1000000 in
theorem law_s_pn (a0 : Option Addr) (n cap0 b0 off0 : Nat) (es : Nat → Int) (x1 : Addr) (m cap1 b1 off1 : Nat) (ss : Nat → Int) (a2 k : Int) (w : World)
    (hn : n ≤ 1024) (hb0 : 0 < n → b0 < w.heap.size) (ha0 : 0 < n → a0 = some ⟨b0, off0, none⟩) (hc0 : ∀ i, i < n → w.cell? ⟨b0, off0 + i, none⟩ = some (.int .i64 (es i)))
    (hm : m ≤ 1024) (hb1 : 0 < m → b1 < w.heap.size) (ha1 : 0 < m → some x1 = some ⟨b1, off1, none⟩) (hc1 : ∀ i, i < m → w.cell? ⟨b1, off1 + i, none⟩ = some (.int .i64 (ss i)))
    (h20 : 0 ≤ a2) (h21 : a2 ≤ 255) (ho : (a2 % 3 == 1) = true) (hk0 : 0 ≤ k) (hk1 : k ≤ 2048) (hkm : m ≤ k) :
    Calls Yba.prog 3 #[.slice a0 n cap0, .slice (some x1) m cap1, .int .u8 a2, .int .i64 k] w fun e w' => e = .returned (.bool true) ∧ Below w.heap.size w w' := by
  have hn' : ¬ (1024 : Int) < n := by omega
  have hm' : ¬ (1024 : Int) < m := by omega
  have hx1 : ¬ k < -2048 := by omega
  have hx2 : ¬ 2048 < k := by omega
  have hd0 : decide (k < 0) = false := by simpa using hk0
  have hmk := fun W => make3 W m hm
  go_enter Yba.func3, Yba.ntmps3
  go_wp2_with (first | (go_at_call 5; refine (queue_any a0 n cap0 b0 off0 es _ hn hb0 ha0 hc0).mono ?_; rintro e w1 ⟨rfl, hbel1, hsz1, hq1⟩) | (go_at_call 6; fail))
  go_loopw [12] (fun i wr => ∃ (j : Nat) (f : Nat → Value), j ≤ m ∧ i = .int .i64 j ∧ Below w.heap.size w wr ∧ wr.heap.size = w.heap.size + 2 ∧ QueueTo wr w.heap.size n (fun _ => 1) es n ∧ Full wr (w.heap.size + 1) m f ∧ ∀ i, i < j → f i = .int .i64 (ss i)) (fun i _ => m - (intOf i).toNat)
  case atStart =>
    refine ⟨0, fun _ => .int .i64 0, Nat.zero_le _, rfl, hbel1.alloc (by omega) _, by simp [hsz1], ?_, ?_, fun i hi => by omega⟩
    · obtain ⟨f, hf1, hf2⟩ := hq1
      exact ⟨f, hf1.alloc (by omega) _, hf2⟩
    · have := Full.made w1 (madeCells (Value.int .i64 0).cells m) 3 m (fun _ => .int .i64 0) (fun j hj => made3 m j hj)
      rw [hsz1] at this
      exact this
  case round =>
    clear hbel1 hsz1 hq1
    obtain ⟨j, f, hj, rfl, hbel, hsz, hq, hf, hfs⟩ := hrel
    by_cases hlt : j < m
    · have hix := fun W => idx (P := Yba.prog) Yba.underlying23 size3 (cap := cap1) ha1 hlt W
      have t0 := hf j hlt
      have hs : wr.cell? ⟨b1, off1 + j, none⟩ = some (.int .i64 (ss j)) := by rw [hbel.cell (p := ⟨b1, _, none⟩) (hb1 (by omega))]; exact hc1 j hlt
      go_wp2
      refine ⟨⟨j + 1, _, by omega, by go_num, hbel.setCell (by simp) _, by simp [hsz], ?_, hf.set hlt _, ?_⟩, by simp [intOf]; omega⟩
      · obtain ⟨g, hg1, hg2⟩ := hq
        exact ⟨g, fun i hi => ⟨by rw [World.cell?_setCell_other _ _ _ _ (by simp)]; exact (hg1 i hi).1, by rw [World.frozen?_setCell]; exact (hg1 i hi).2⟩, hg2⟩
      · intro i hi
        by_cases e : i = j
        · subst e; simp
        · simp only [if_neg e]; exact hfs i (by omega)
    · obtain rfl : m = j := by omega
      clear hmk hlt hj
      have Ha1 := hide ha1
      clear ha1
      have hq2 := hide hq
      clear hq
      go_wp2_with fail
      refine (tried_no (w.heap.size + 2) (some ⟨w.heap.size + 1, 0, none⟩) m m k _ ?_ ?_ (by omega)).mono ?_
      · rw [World.cell?_alloc_at _ _ _ _ hsz.symm]; simp; exact eq_of_beq ho
      · rw [World.cell?_alloc_at _ _ _ _ hsz.symm]; rfl
      rintro e W ⟨rfl, hW⟩
      have p0 : W.cell? ⟨w.heap.size + 2, 0, none⟩ = some (.slice (some ⟨w.heap.size, 0, none⟩) n n) := by rw [hW, World.cell?_alloc_at _ _ _ _ hsz.symm]; rfl
      have p14 : W.cell? ⟨w.heap.size + 2, 14, none⟩ = some (.slice (some ⟨w.heap.size + 1, 0, none⟩) m m) := by rw [hW, World.cell?_alloc_at _ _ _ _ hsz.symm]; rfl
      have hfW : Full W (w.heap.size + 1) m f := by rw [hW]; exact hf.alloc (by omega) _
      have hbW : Below w.heap.size w W := by rw [hW]; exact hbel.alloc (by omega) _
      have hqW : ∃ g, Full W w.heap.size (n * 6) g ∧ ∀ i, i < n → g (i * 6) = .int .i64 i ∧ g (i * 6 + 1) = .int .i64 1 ∧ g (i * 6 + 2) = .int .i64 (es i) := by
        obtain ⟨g, hg1, hg2⟩ := unhide hq2
        exact ⟨g, by rw [hW]; exact hg1.alloc (by omega) _, hg2⟩
      clear hW hq2 hbel hsz hf
      obtain ⟨g, hg1, hg2⟩ := hqW
      have Ha0 := hide ha0
      clear ha0
      go_wp2
      go_loopw [16] (fun i wq => ∃ (j q : Nat), j ≤ n ∧ i = .int .i64 j ∧ wq = W.drewN q) (fun i _ => n - (intOf i).toNat)
      case atStart => exact ⟨0, 0, Nat.zero_le _, rfl, rfl⟩
      case round =>
        obtain ⟨j, q, hj, rfl, rfl⟩ := hrel
        by_cases hlt : j < n
        · have hix := fun W => idx (P := Yba.prog) Yba.underlying22 size2 (cap := cap0) (unhide Ha0) hlt W
          have c0 : W.cell? ⟨w.heap.size, j * 6, none⟩ = some (.int .i64 j) := by rw [(hg1 _ (by omega)).1, (hg2 j hlt).1]
          have c2 : W.cell? ⟨w.heap.size, j * 6 + 2, none⟩ = some (.int .i64 (es j)) := by rw [(hg1 _ (by omega)).1, (hg2 j hlt).2.2]
          have cs : W.cell? ⟨b0, off0 + j, none⟩ = some (.int .i64 (es j)) := by rw [hbW.cell (p := ⟨b0, _, none⟩) (hb0 (by omega))]; exact hc0 j hlt
          have hj2 : (j : Int) < n := by omega
          go_wp2
          go_quiet (fail)
          go_wp2
          exact ⟨⟨j + 1, _, by omega, by go_num, rfl⟩, by simp [intOf]; omega⟩
        · go_wp2
          go_loopw [17] (fun i wq => ∃ (j q : Nat), j ≤ m ∧ i = .int .i64 j ∧ wq = W.drewN q) (fun i _ => m - (intOf i).toNat)
          case atStart => exact ⟨0, _, Nat.zero_le _, rfl, rfl⟩
          case round =>
            obtain ⟨j, q, hj, rfl, rfl⟩ := hrel
            by_cases hlt : j < m
            · have hix := fun W => idx (P := Yba.prog) Yba.underlying23 size3 (cap := cap1) (unhide Ha1) hlt W
              have c0 : W.cell? ⟨w.heap.size + 1, j, none⟩ = some (.int .i64 (ss j)) := by rw [(hfW j hlt).1, hfs j hlt]
              have cs : W.cell? ⟨b1, off1 + j, none⟩ = some (.int .i64 (ss j)) := by rw [hbW.cell (p := ⟨b1, _, none⟩) (hb1 (by omega))]; exact hc1 j hlt
              have hj2 : (j : Int) < m := by omega
              go_wp2
              go_quiet (fail)
              go_wp2
              exact ⟨⟨j + 1, _, by omega, by go_num, rfl⟩, by simp [intOf]; omega⟩
            · go_wp2
              go_ret
              exact ⟨rfl, below_drewN hbW _⟩

set_option maxRecDepth 100000 in
set_option maxHeartbeats 1000000 in
theorem law_s_ny (a0 : Option Addr) (n cap0 b0 off0 : Nat) (es : Nat → Int) (x1 : Addr) (m cap1 b1 off1 : Nat) (ss : Nat → Int) (a2 k : Int) (w : World)
    (hn : n ≤ 1024) (hb0 : 0 < n → b0 < w.heap.size) (ha0 : 0 < n → a0 = some ⟨b0, off0, none⟩) (hc0 : ∀ i, i < n → w.cell? ⟨b0, off0 + i, none⟩ = some (.int .i64 (es i)))
    (hm : m ≤ 1024) (hb1 : 0 < m → b1 < w.heap.size) (ha1 : 0 < m → some x1 = some ⟨b1, off1, none⟩) (hc1 : ∀ i, i < m → w.cell? ⟨b1, off1 + i, none⟩ = some (.int .i64 (ss i)))
    (h20 : 0 ≤ a2) (h21 : a2 ≤ 255) (ho : (a2 % 3 == 1) = true) (hk0 : k < 0) (hk1 : -2048 ≤ k) (hkm : -k - 1 < m) :
    Calls Yba.prog 3 #[.slice a0 n cap0, .slice (some x1) m cap1, .int .u8 a2, .int .i64 k] w fun e w' => e = .returned (.bool true) ∧ Below w.heap.size w w' := by
  have hn' : ¬ (1024 : Int) < n := by omega
  have hm' : ¬ (1024 : Int) < m := by omega
  have hx1 : ¬ k < -2048 := by omega
  have hx2 : ¬ 2048 < k := by omega
  have hd0 : decide (k < 0) = true := by simpa using hk0
  have hmk := fun W => make3 W m hm
  go_enter Yba.func3, Yba.ntmps3
  go_wp2_with (first | (go_at_call 5; refine (queue_any a0 n cap0 b0 off0 es _ hn hb0 ha0 hc0).mono ?_; rintro e w1 ⟨rfl, hbel1, hsz1, hq1⟩) | (go_at_call 6; fail))
  go_loopw [12] (fun i wr => ∃ (j : Nat) (f : Nat → Value), j ≤ m ∧ i = .int .i64 j ∧ Below w.heap.size w wr ∧ wr.heap.size = w.heap.size + 2 ∧ QueueTo wr w.heap.size n (fun _ => 1) es n ∧ Full wr (w.heap.size + 1) m f ∧ ∀ i, i < j → f i = .int .i64 (ss i)) (fun i _ => m - (intOf i).toNat)
  case atStart =>
    refine ⟨0, fun _ => .int .i64 0, Nat.zero_le _, rfl, hbel1.alloc (by omega) _, by simp [hsz1], ?_, ?_, fun i hi => by omega⟩
    · obtain ⟨f, hf1, hf2⟩ := hq1
      exact ⟨f, hf1.alloc (by omega) _, hf2⟩
    · have := Full.made w1 (madeCells (Value.int .i64 0).cells m) 3 m (fun _ => .int .i64 0) (fun j hj => made3 m j hj)
      rw [hsz1] at this
      exact this
  case round =>
    clear hbel1 hsz1 hq1
    obtain ⟨j, f, hj, rfl, hbel, hsz, hq, hf, hfs⟩ := hrel
    by_cases hlt : j < m
    · have hix := fun W => idx (P := Yba.prog) Yba.underlying23 size3 (cap := cap1) ha1 hlt W
      have t0 := hf j hlt
      have hs : wr.cell? ⟨b1, off1 + j, none⟩ = some (.int .i64 (ss j)) := by rw [hbel.cell (p := ⟨b1, _, none⟩) (hb1 (by omega))]; exact hc1 j hlt
      go_wp2
      refine ⟨⟨j + 1, _, by omega, by go_num, hbel.setCell (by simp) _, by simp [hsz], ?_, hf.set hlt _, ?_⟩, by simp [intOf]; omega⟩
      · obtain ⟨g, hg1, hg2⟩ := hq
        exact ⟨g, fun i hi => ⟨by rw [World.cell?_setCell_other _ _ _ _ (by simp)]; exact (hg1 i hi).1, by rw [World.frozen?_setCell]; exact (hg1 i hi).2⟩, hg2⟩
      · intro i hi
        by_cases e : i = j
        · subst e; simp
        · simp only [if_neg e]; exact hfs i (by omega)
    · obtain rfl : m = j := by omega
      clear hmk hlt hj
      have hb1w := hb1 (by omega)
      have hkk : 0 ≤ (-k - 1) := by omega
      have hixk := fun W => idxI (P := Yba.prog) Yba.underlying23 size3 (cap := cap1) ha1 hkk hkm W
      have hfk : wr.cell? ⟨w.heap.size + 1, ((-k - 1)).toNat, none⟩ = some (.int .i64 (ss ((-k - 1)).toNat)) := by rw [(hf ((-k - 1)).toNat (by omega)).1, hfs _ (by omega)]
      have Ha1 := hide ha1
      clear ha1
      have hq2 := hide hq
      clear hq
      go_wp2_with fail
      refine (tried_yes (w.heap.size + 2) (w.heap.size + 1) m m (-k - 1) (ss ((-k - 1)).toNat) _ ?_ ?_ (by omega) hkm ?_).mono ?_
      · rw [World.cell?_alloc_at _ _ _ _ hsz.symm]; simp; exact eq_of_beq ho
      · rw [World.cell?_alloc_at _ _ _ _ hsz.symm]; rfl
      · rw [World.cell?_alloc_past _ _ _ (by omega)]; exact hfk
      rintro e W ⟨rfl, hW⟩
      have p0 : W.cell? ⟨w.heap.size + 2, 0, none⟩ = some (.slice (some ⟨w.heap.size, 0, none⟩) n n) := by rw [hW, World.cell?_alloc_at _ _ _ _ hsz.symm]; rfl
      have p14 : W.cell? ⟨w.heap.size + 2, 14, none⟩ = some (.slice (some ⟨w.heap.size + 1, 0, none⟩) m m) := by rw [hW, World.cell?_alloc_at _ _ _ _ hsz.symm]; rfl
      have hfW : Full W (w.heap.size + 1) m f := by rw [hW]; exact hf.alloc (by omega) _
      have hbW : Below w.heap.size w W := by rw [hW]; exact hbel.alloc (by omega) _
      have hqW : ∃ g, Full W w.heap.size (n * 6) g ∧ ∀ i, i < n → g (i * 6) = .int .i64 i ∧ g (i * 6 + 1) = .int .i64 1 ∧ g (i * 6 + 2) = .int .i64 (es i) := by
        obtain ⟨g, hg1, hg2⟩ := unhide hq2
        exact ⟨g, by rw [hW]; exact hg1.alloc (by omega) _, hg2⟩
      have skW : W.cell? ⟨b1, off1 + ((-k - 1)).toNat, none⟩ = some (.int .i64 (ss ((-k - 1)).toNat)) := by rw [hbW.cell (p := ⟨b1, _, none⟩) hb1w]; exact hc1 _ (by omega)
      have etn : (-k - 1).toNat = (-k).toNat - 1 := by omega
      rw [etn] at skW
      clear etn
      clear hW hq2 hbel hsz hf hfk
      obtain ⟨g, hg1, hg2⟩ := hqW
      have Ha0 := hide ha0
      clear ha0
      go_wp2
      go_loopw [16] (fun i wq => ∃ (j q : Nat), j ≤ n ∧ i = .int .i64 j ∧ wq = W.drewN q) (fun i _ => n - (intOf i).toNat)
      case atStart => exact ⟨0, 0, Nat.zero_le _, rfl, rfl⟩
      case round =>
        obtain ⟨j, q, hj, rfl, rfl⟩ := hrel
        by_cases hlt : j < n
        · have hix := fun W => idx (P := Yba.prog) Yba.underlying22 size2 (cap := cap0) (unhide Ha0) hlt W
          have c0 : W.cell? ⟨w.heap.size, j * 6, none⟩ = some (.int .i64 j) := by rw [(hg1 _ (by omega)).1, (hg2 j hlt).1]
          have c2 : W.cell? ⟨w.heap.size, j * 6 + 2, none⟩ = some (.int .i64 (es j)) := by rw [(hg1 _ (by omega)).1, (hg2 j hlt).2.2]
          have cs : W.cell? ⟨b0, off0 + j, none⟩ = some (.int .i64 (es j)) := by rw [hbW.cell (p := ⟨b0, _, none⟩) (hb0 (by omega))]; exact hc0 j hlt
          have hj2 : (j : Int) < n := by omega
          go_wp2
          go_quiet (fail)
          go_wp2
          exact ⟨⟨j + 1, _, by omega, by go_num, rfl⟩, by simp [intOf]; omega⟩
        · go_wp2
          go_loopw [17] (fun i wq => ∃ (j q : Nat), j ≤ m ∧ i = .int .i64 j ∧ wq = W.drewN q) (fun i _ => m - (intOf i).toNat)
          case atStart => exact ⟨0, _, Nat.zero_le _, rfl, rfl⟩
          case round =>
            obtain ⟨j, q, hj, rfl, rfl⟩ := hrel
            by_cases hlt : j < m
            · have hix := fun W => idx (P := Yba.prog) Yba.underlying23 size3 (cap := cap1) (unhide Ha1) hlt W
              have c0 : W.cell? ⟨w.heap.size + 1, j, none⟩ = some (.int .i64 (ss j)) := by rw [(hfW j hlt).1, hfs j hlt]
              have cs : W.cell? ⟨b1, off1 + j, none⟩ = some (.int .i64 (ss j)) := by rw [hbW.cell (p := ⟨b1, _, none⟩) (hb1 (by omega))]; exact hc1 j hlt
              have hj2 : (j : Int) < m := by omega
              go_wp2
              go_quiet (fail)
              go_wp2
              exact ⟨⟨j + 1, _, by omega, by go_num, rfl⟩, by simp [intOf]; omega⟩
            · go_wp2
              go_ret
              exact ⟨rfl, below_drewN hbW _⟩

set_option maxRecDepth 100000 in
set_option maxHeartbeats 1000000 in
theorem law_s_nn (a0 : Option Addr) (n cap0 b0 off0 : Nat) (es : Nat → Int) (x1 : Addr) (m cap1 b1 off1 : Nat) (ss : Nat → Int) (a2 k : Int) (w : World)
    (hn : n ≤ 1024) (hb0 : 0 < n → b0 < w.heap.size) (ha0 : 0 < n → a0 = some ⟨b0, off0, none⟩) (hc0 : ∀ i, i < n → w.cell? ⟨b0, off0 + i, none⟩ = some (.int .i64 (es i)))
    (hm : m ≤ 1024) (hb1 : 0 < m → b1 < w.heap.size) (ha1 : 0 < m → some x1 = some ⟨b1, off1, none⟩) (hc1 : ∀ i, i < m → w.cell? ⟨b1, off1 + i, none⟩ = some (.int .i64 (ss i)))
    (h20 : 0 ≤ a2) (h21 : a2 ≤ 255) (ho : (a2 % 3 == 1) = true) (hk0 : k < 0) (hk1 : -2048 ≤ k) (hkm : m ≤ -k - 1) :
    Calls Yba.prog 3 #[.slice a0 n cap0, .slice (some x1) m cap1, .int .u8 a2, .int .i64 k] w fun e w' => e = .returned (.bool true) ∧ Below w.heap.size w w' := by
  have hn' : ¬ (1024 : Int) < n := by omega
  have hm' : ¬ (1024 : Int) < m := by omega
  have hx1 : ¬ k < -2048 := by omega
  have hx2 : ¬ 2048 < k := by omega
  have hd0 : decide (k < 0) = true := by simpa using hk0
  have hmk := fun W => make3 W m hm
  go_enter Yba.func3, Yba.ntmps3
  go_wp2_with (first | (go_at_call 5; refine (queue_any a0 n cap0 b0 off0 es _ hn hb0 ha0 hc0).mono ?_; rintro e w1 ⟨rfl, hbel1, hsz1, hq1⟩) | (go_at_call 6; fail))
  go_loopw [12] (fun i wr => ∃ (j : Nat) (f : Nat → Value), j ≤ m ∧ i = .int .i64 j ∧ Below w.heap.size w wr ∧ wr.heap.size = w.heap.size + 2 ∧ QueueTo wr w.heap.size n (fun _ => 1) es n ∧ Full wr (w.heap.size + 1) m f ∧ ∀ i, i < j → f i = .int .i64 (ss i)) (fun i _ => m - (intOf i).toNat)
  case atStart =>
    refine ⟨0, fun _ => .int .i64 0, Nat.zero_le _, rfl, hbel1.alloc (by omega) _, by simp [hsz1], ?_, ?_, fun i hi => by omega⟩
    · obtain ⟨f, hf1, hf2⟩ := hq1
      exact ⟨f, hf1.alloc (by omega) _, hf2⟩
    · have := Full.made w1 (madeCells (Value.int .i64 0).cells m) 3 m (fun _ => .int .i64 0) (fun j hj => made3 m j hj)
      rw [hsz1] at this
      exact this
  case round =>
    clear hbel1 hsz1 hq1
    obtain ⟨j, f, hj, rfl, hbel, hsz, hq, hf, hfs⟩ := hrel
    by_cases hlt : j < m
    · have hix := fun W => idx (P := Yba.prog) Yba.underlying23 size3 (cap := cap1) ha1 hlt W
      have t0 := hf j hlt
      have hs : wr.cell? ⟨b1, off1 + j, none⟩ = some (.int .i64 (ss j)) := by rw [hbel.cell (p := ⟨b1, _, none⟩) (hb1 (by omega))]; exact hc1 j hlt
      go_wp2
      refine ⟨⟨j + 1, _, by omega, by go_num, hbel.setCell (by simp) _, by simp [hsz], ?_, hf.set hlt _, ?_⟩, by simp [intOf]; omega⟩
      · obtain ⟨g, hg1, hg2⟩ := hq
        exact ⟨g, fun i hi => ⟨by rw [World.cell?_setCell_other _ _ _ _ (by simp)]; exact (hg1 i hi).1, by rw [World.frozen?_setCell]; exact (hg1 i hi).2⟩, hg2⟩
      · intro i hi
        by_cases e : i = j
        · subst e; simp
        · simp only [if_neg e]; exact hfs i (by omega)
    · obtain rfl : m = j := by omega
      clear hmk hlt hj
      have Ha1 := hide ha1
      clear ha1
      have hq2 := hide hq
      clear hq
      go_wp2_with fail
      refine (tried_no (w.heap.size + 2) (some ⟨w.heap.size + 1, 0, none⟩) m m (-k - 1) _ ?_ ?_ (by omega)).mono ?_
      · rw [World.cell?_alloc_at _ _ _ _ hsz.symm]; simp; exact eq_of_beq ho
      · rw [World.cell?_alloc_at _ _ _ _ hsz.symm]; rfl
      rintro e W ⟨rfl, hW⟩
      have p0 : W.cell? ⟨w.heap.size + 2, 0, none⟩ = some (.slice (some ⟨w.heap.size, 0, none⟩) n n) := by rw [hW, World.cell?_alloc_at _ _ _ _ hsz.symm]; rfl
      have p14 : W.cell? ⟨w.heap.size + 2, 14, none⟩ = some (.slice (some ⟨w.heap.size + 1, 0, none⟩) m m) := by rw [hW, World.cell?_alloc_at _ _ _ _ hsz.symm]; rfl
      have hfW : Full W (w.heap.size + 1) m f := by rw [hW]; exact hf.alloc (by omega) _
      have hbW : Below w.heap.size w W := by rw [hW]; exact hbel.alloc (by omega) _
      have hqW : ∃ g, Full W w.heap.size (n * 6) g ∧ ∀ i, i < n → g (i * 6) = .int .i64 i ∧ g (i * 6 + 1) = .int .i64 1 ∧ g (i * 6 + 2) = .int .i64 (es i) := by
        obtain ⟨g, hg1, hg2⟩ := unhide hq2
        exact ⟨g, by rw [hW]; exact hg1.alloc (by omega) _, hg2⟩
      clear hW hq2 hbel hsz hf
      obtain ⟨g, hg1, hg2⟩ := hqW
      have Ha0 := hide ha0
      clear ha0
      go_wp2
      go_loopw [16] (fun i wq => ∃ (j q : Nat), j ≤ n ∧ i = .int .i64 j ∧ wq = W.drewN q) (fun i _ => n - (intOf i).toNat)
      case atStart => exact ⟨0, 0, Nat.zero_le _, rfl, rfl⟩
      case round =>
        obtain ⟨j, q, hj, rfl, rfl⟩ := hrel
        by_cases hlt : j < n
        · have hix := fun W => idx (P := Yba.prog) Yba.underlying22 size2 (cap := cap0) (unhide Ha0) hlt W
          have c0 : W.cell? ⟨w.heap.size, j * 6, none⟩ = some (.int .i64 j) := by rw [(hg1 _ (by omega)).1, (hg2 j hlt).1]
          have c2 : W.cell? ⟨w.heap.size, j * 6 + 2, none⟩ = some (.int .i64 (es j)) := by rw [(hg1 _ (by omega)).1, (hg2 j hlt).2.2]
          have cs : W.cell? ⟨b0, off0 + j, none⟩ = some (.int .i64 (es j)) := by rw [hbW.cell (p := ⟨b0, _, none⟩) (hb0 (by omega))]; exact hc0 j hlt
          have hj2 : (j : Int) < n := by omega
          go_wp2
          go_quiet (fail)
          go_wp2
          exact ⟨⟨j + 1, _, by omega, by go_num, rfl⟩, by simp [intOf]; omega⟩
        · go_wp2
          go_loopw [17] (fun i wq => ∃ (j q : Nat), j ≤ m ∧ i = .int .i64 j ∧ wq = W.drewN q) (fun i _ => m - (intOf i).toNat)
          case atStart => exact ⟨0, _, Nat.zero_le _, rfl, rfl⟩
          case round =>
            obtain ⟨j, q, hj, rfl, rfl⟩ := hrel
            by_cases hlt : j < m
            · have hix := fun W => idx (P := Yba.prog) Yba.underlying23 size3 (cap := cap1) (unhide Ha1) hlt W
              have c0 : W.cell? ⟨w.heap.size + 1, j, none⟩ = some (.int .i64 (ss j)) := by rw [(hfW j hlt).1, hfs j hlt]
              have cs : W.cell? ⟨b1, off1 + j, none⟩ = some (.int .i64 (ss j)) := by rw [hbW.cell (p := ⟨b1, _, none⟩) (hb1 (by omega))]; exact hc1 j hlt
              have hj2 : (j : Int) < m := by omega
              go_wp2
              go_quiet (fail)
              go_wp2
              exact ⟨⟨j + 1, _, by omega, by go_num, rfl⟩, by simp [intOf]; omega⟩
            · go_wp2
              go_ret
              exact ⟨rfl, below_drewN hbW _⟩

set_option maxRecDepth 100000 in
set_option maxHeartbeats 1000000 in
theorem law_s_o (a0 : Option Addr) (n cap0 b0 off0 : Nat) (es : Nat → Int) (x1 : Addr) (m cap1 b1 off1 : Nat) (ss : Nat → Int) (a2 k : Int) (w : World)
    (hn : n ≤ 1024) (hb0 : 0 < n → b0 < w.heap.size) (ha0 : 0 < n → a0 = some ⟨b0, off0, none⟩) (hc0 : ∀ i, i < n → w.cell? ⟨b0, off0 + i, none⟩ = some (.int .i64 (es i)))
    (hm : m ≤ 1024) (hb1 : 0 < m → b1 < w.heap.size) (ha1 : 0 < m → some x1 = some ⟨b1, off1, none⟩) (hc1 : ∀ i, i < m → w.cell? ⟨b1, off1 + i, none⟩ = some (.int .i64 (ss i)))
    (h20 : 0 ≤ a2) (h21 : a2 ≤ 255) (ho : (a2 % 3 == 1) = false) (hk0 : -2048 ≤ k) (hk1 : k ≤ 2048) :
    Calls Yba.prog 3 #[.slice a0 n cap0, .slice (some x1) m cap1, .int .u8 a2, .int .i64 k] w fun e w' => e = .returned (.bool true) ∧ Below w.heap.size w w' := by
  have hn' : ¬ (1024 : Int) < n := by omega
  have hm' : ¬ (1024 : Int) < m := by omega
  have hx1 : ¬ k < -2048 := by omega
  have hx2 : ¬ 2048 < k := by omega
  have hmk := fun W => make3 W m hm
  go_enter Yba.func3, Yba.ntmps3
  go_wp2_with (first | (go_at_call 5; refine (queue_any a0 n cap0 b0 off0 es _ hn hb0 ha0 hc0).mono ?_; rintro e w1 ⟨rfl, hbel1, hsz1, hq1⟩) | (go_at_call 6; fail))
  go_loopw [12] (fun i wr => ∃ (j : Nat) (f : Nat → Value), j ≤ m ∧ i = .int .i64 j ∧ Below w.heap.size w wr ∧ wr.heap.size = w.heap.size + 2 ∧ QueueTo wr w.heap.size n (fun _ => 1) es n ∧ Full wr (w.heap.size + 1) m f ∧ ∀ i, i < j → f i = .int .i64 (ss i)) (fun i _ => m - (intOf i).toNat)
  case atStart =>
    refine ⟨0, fun _ => .int .i64 0, Nat.zero_le _, rfl, hbel1.alloc (by omega) _, by simp [hsz1], ?_, ?_, fun i hi => by omega⟩
    · obtain ⟨f, hf1, hf2⟩ := hq1
      exact ⟨f, hf1.alloc (by omega) _, hf2⟩
    · have := Full.made w1 (madeCells (Value.int .i64 0).cells m) 3 m (fun _ => .int .i64 0) (fun j hj => made3 m j hj)
      rw [hsz1] at this
      exact this
  case round =>
    clear hbel1 hsz1 hq1
    obtain ⟨j, f, hj, rfl, hbel, hsz, hq, hf, hfs⟩ := hrel
    by_cases hlt : j < m
    · have hix := fun W => idx (P := Yba.prog) Yba.underlying23 size3 (cap := cap1) ha1 hlt W
      have t0 := hf j hlt
      have hs : wr.cell? ⟨b1, off1 + j, none⟩ = some (.int .i64 (ss j)) := by rw [hbel.cell (p := ⟨b1, _, none⟩) (hb1 (by omega))]; exact hc1 j hlt
      go_wp2
      refine ⟨⟨j + 1, _, by omega, by go_num, hbel.setCell (by simp) _, by simp [hsz], ?_, hf.set hlt _, ?_⟩, by simp [intOf]; omega⟩
      · obtain ⟨g, hg1, hg2⟩ := hq
        exact ⟨g, fun i hi => ⟨by rw [World.cell?_setCell_other _ _ _ _ (by simp)]; exact (hg1 i hi).1, by rw [World.frozen?_setCell]; exact (hg1 i hi).2⟩, hg2⟩
      · intro i hi
        by_cases e : i = j
        · subst e; simp
        · simp only [if_neg e]; exact hfs i (by omega)
    · obtain rfl : m = j := by omega
      clear hmk hlt hj
      have Ha1 := hide ha1
      clear ha1
      have hq2 := hide hq
      clear hq
      go_wp2_with fail
      refine (tried_other (w.heap.size + 2) (some ⟨w.heap.size, 0, none⟩) n n (a2 % 3) k _ ?_ ho ?_ (by omega) (by omega)).mono ?_
      · rw [World.cell?_alloc_at _ _ _ _ hsz.symm]; rfl
      · rw [World.cell?_alloc_at _ _ _ _ hsz.symm]; rfl
      rintro e W ⟨rfl, qq, hW⟩
      have p0 : W.cell? ⟨w.heap.size + 2, 0, none⟩ = some (.slice (some ⟨w.heap.size, 0, none⟩) n n) := by rw [hW, World.cell?_drewN, World.cell?_alloc_at _ _ _ _ hsz.symm]; rfl
      have p14 : W.cell? ⟨w.heap.size + 2, 14, none⟩ = some (.slice (some ⟨w.heap.size + 1, 0, none⟩) m m) := by rw [hW, World.cell?_drewN, World.cell?_alloc_at _ _ _ _ hsz.symm]; rfl
      have hfW : Full W (w.heap.size + 1) m f := by rw [hW]; exact hf.alloc (by omega) _
      have hbW : Below w.heap.size w W := by rw [hW]; exact below_drewN (hbel.alloc (by omega) _) _
      have hqW : ∃ g, Full W w.heap.size (n * 6) g ∧ ∀ i, i < n → g (i * 6) = .int .i64 i ∧ g (i * 6 + 1) = .int .i64 1 ∧ g (i * 6 + 2) = .int .i64 (es i) := by
        obtain ⟨g, hg1, hg2⟩ := unhide hq2
        exact ⟨g, by rw [hW]; exact hg1.alloc (by omega) _, hg2⟩
      clear hW hq2 hbel hsz hf
      obtain ⟨g, hg1, hg2⟩ := hqW
      have Ha0 := hide ha0
      clear ha0
      go_wp2
      go_loopw [16] (fun i wq => ∃ (j q : Nat), j ≤ n ∧ i = .int .i64 j ∧ wq = W.drewN q) (fun i _ => n - (intOf i).toNat)
      case atStart => exact ⟨0, 0, Nat.zero_le _, rfl, rfl⟩
      case round =>
        obtain ⟨j, q, hj, rfl, rfl⟩ := hrel
        by_cases hlt : j < n
        · have hix := fun W => idx (P := Yba.prog) Yba.underlying22 size2 (cap := cap0) (unhide Ha0) hlt W
          have c0 : W.cell? ⟨w.heap.size, j * 6, none⟩ = some (.int .i64 j) := by rw [(hg1 _ (by omega)).1, (hg2 j hlt).1]
          have c2 : W.cell? ⟨w.heap.size, j * 6 + 2, none⟩ = some (.int .i64 (es j)) := by rw [(hg1 _ (by omega)).1, (hg2 j hlt).2.2]
          have cs : W.cell? ⟨b0, off0 + j, none⟩ = some (.int .i64 (es j)) := by rw [hbW.cell (p := ⟨b0, _, none⟩) (hb0 (by omega))]; exact hc0 j hlt
          have hj2 : (j : Int) < n := by omega
          go_wp2
          go_quiet (fail)
          go_wp2
          exact ⟨⟨j + 1, _, by omega, by go_num, rfl⟩, by simp [intOf]; omega⟩
        · go_wp2
          go_loopw [17] (fun i wq => ∃ (j q : Nat), j ≤ m ∧ i = .int .i64 j ∧ wq = W.drewN q) (fun i _ => m - (intOf i).toNat)
          case atStart => exact ⟨0, _, Nat.zero_le _, rfl, rfl⟩
          case round =>
            obtain ⟨j, q, hj, rfl, rfl⟩ := hrel
            by_cases hlt : j < m
            · have hix := fun W => idx (P := Yba.prog) Yba.underlying23 size3 (cap := cap1) (unhide Ha1) hlt W
              have c0 : W.cell? ⟨w.heap.size + 1, j, none⟩ = some (.int .i64 (ss j)) := by rw [(hfW j hlt).1, hfs j hlt]
              have cs : W.cell? ⟨b1, off1 + j, none⟩ = some (.int .i64 (ss j)) := by rw [hbW.cell (p := ⟨b1, _, none⟩) (hb1 (by omega))]; exact hc1 j hlt
              have hj2 : (j : Int) < m := by omega
              go_wp2
              go_quiet (fail)
              go_wp2
              exact ⟨⟨j + 1, _, by omega, by go_num, rfl⟩, by simp [intOf]; omega⟩
            · go_wp2
              go_ret
              exact ⟨rfl, below_drewN hbW _⟩

set_option maxRecDepth 100000 in
set_option maxHeartbeats 1000000 in
theorem law_z_pn (a0 : Option Addr) (n cap0 b0 off0 : Nat) (es : Nat → Int) (cap1 : Nat) (a2 k : Int) (w : World)
    (hn : n ≤ 1024) (hb0 : 0 < n → b0 < w.heap.size) (ha0 : 0 < n → a0 = some ⟨b0, off0, none⟩) (hc0 : ∀ i, i < n → w.cell? ⟨b0, off0 + i, none⟩ = some (.int .i64 (es i)))
    (h20 : 0 ≤ a2) (h21 : a2 ≤ 255) (ho : (a2 % 3 == 1) = true) (hk0 : 0 ≤ k) (hk1 : k ≤ 2048) :
    Calls Yba.prog 3 #[.slice a0 n cap0, .slice none 0 cap1, .int .u8 a2, .int .i64 k] w fun e w' => e = .returned (.bool true) ∧ Below w.heap.size w w' := by
  have hn' : ¬ (1024 : Int) < n := by omega
  have hx1 : ¬ k < -2048 := by omega
  have hx2 : ¬ 2048 < k := by omega
  have hd0 : decide (k < 0) = false := by simpa using hk0
  go_enter Yba.func3, Yba.ntmps3
  go_wp2_with (first | (go_at_call 5; refine (queue_any a0 n cap0 b0 off0 es _ hn hb0 ha0 hc0).mono ?_; rintro e w1 ⟨rfl, hbel1, hsz1, hq1⟩) | (go_at_call 6; fail))
  have hq2 := hide hq1
  clear hq1
  refine (tried_no (w.heap.size + 1) none 0 0 k _ ?_ ?_ (by omega)).mono ?_
  · rw [World.cell?_alloc_at _ _ _ _ hsz1.symm]; simp; exact eq_of_beq ho
  · rw [World.cell?_alloc_at _ _ _ _ hsz1.symm]; rfl
  rintro e W ⟨rfl, hW⟩
  have p0 : W.cell? ⟨w.heap.size + 1, 0, none⟩ = some (.slice (some ⟨w.heap.size, 0, none⟩) n n) := by rw [hW, World.cell?_alloc_at _ _ _ _ hsz1.symm]; rfl
  have p14 : W.cell? ⟨w.heap.size + 1, 14, none⟩ = some (.slice none 0 0) := by rw [hW, World.cell?_alloc_at _ _ _ _ hsz1.symm]; rfl
  have hbW : Below w.heap.size w W := by rw [hW]; exact hbel1.alloc (by omega) _
  have hqW : ∃ g, Full W w.heap.size (n * 6) g ∧ ∀ i, i < n → g (i * 6) = .int .i64 i ∧ g (i * 6 + 1) = .int .i64 1 ∧ g (i * 6 + 2) = .int .i64 (es i) := by
    obtain ⟨g, hg1, hg2⟩ := unhide hq2
    exact ⟨g, by rw [hW]; exact hg1.alloc (by omega) _, hg2⟩
  clear hW hq2 hbel1 hsz1
  obtain ⟨g, hg1, hg2⟩ := hqW
  have Ha0 := hide ha0
  clear ha0
  go_wp2
  go_loopw [16] (fun i wq => ∃ (j q : Nat), j ≤ n ∧ i = .int .i64 j ∧ wq = W.drewN q) (fun i _ => n - (intOf i).toNat)
  case atStart => exact ⟨0, 0, Nat.zero_le _, rfl, rfl⟩
  case round =>
    obtain ⟨j, q, hj, rfl, rfl⟩ := hrel
    by_cases hlt : j < n
    · have hix := fun W => idx (P := Yba.prog) Yba.underlying22 size2 (cap := cap0) (unhide Ha0) hlt W
      have c0 : W.cell? ⟨w.heap.size, j * 6, none⟩ = some (.int .i64 j) := by rw [(hg1 _ (by omega)).1, (hg2 j hlt).1]
      have c2 : W.cell? ⟨w.heap.size, j * 6 + 2, none⟩ = some (.int .i64 (es j)) := by rw [(hg1 _ (by omega)).1, (hg2 j hlt).2.2]
      have cs : W.cell? ⟨b0, off0 + j, none⟩ = some (.int .i64 (es j)) := by rw [hbW.cell (p := ⟨b0, _, none⟩) (hb0 (by omega))]; exact hc0 j hlt
      have hj2 : (j : Int) < n := by omega
      go_wp2
      go_quiet (fail)
      go_wp2
      exact ⟨⟨j + 1, _, by omega, by go_num, rfl⟩, by simp [intOf]; omega⟩
    · go_wp2
      go_loopw [17] (fun i wq => i = .int .i64 0 ∧ ∃ (q : Nat), wq = W.drewN q) (fun i _ => 0)
      case atStart => exact ⟨rfl, _, rfl⟩
      case round =>
        obtain ⟨rfl, q, rfl⟩ := hrel
        go_wp2
        go_ret
        exact ⟨rfl, below_drewN hbW _⟩

set_option maxRecDepth 100000 in
set_option maxHeartbeats 1000000 in
theorem law_z_nn (a0 : Option Addr) (n cap0 b0 off0 : Nat) (es : Nat → Int) (cap1 : Nat) (a2 k : Int) (w : World)
    (hn : n ≤ 1024) (hb0 : 0 < n → b0 < w.heap.size) (ha0 : 0 < n → a0 = some ⟨b0, off0, none⟩) (hc0 : ∀ i, i < n → w.cell? ⟨b0, off0 + i, none⟩ = some (.int .i64 (es i)))
    (h20 : 0 ≤ a2) (h21 : a2 ≤ 255) (ho : (a2 % 3 == 1) = true) (hk0 : k < 0) (hk1 : -2048 ≤ k) :
    Calls Yba.prog 3 #[.slice a0 n cap0, .slice none 0 cap1, .int .u8 a2, .int .i64 k] w fun e w' => e = .returned (.bool true) ∧ Below w.heap.size w w' := by
  have hn' : ¬ (1024 : Int) < n := by omega
  have hx1 : ¬ k < -2048 := by omega
  have hx2 : ¬ 2048 < k := by omega
  have hd0 : decide (k < 0) = true := by simpa using hk0
  go_enter Yba.func3, Yba.ntmps3
  go_wp2_with (first | (go_at_call 5; refine (queue_any a0 n cap0 b0 off0 es _ hn hb0 ha0 hc0).mono ?_; rintro e w1 ⟨rfl, hbel1, hsz1, hq1⟩) | (go_at_call 6; fail))
  have hq2 := hide hq1
  clear hq1
  refine (tried_no (w.heap.size + 1) none 0 0 (-k - 1) _ ?_ ?_ (by omega)).mono ?_
  · rw [World.cell?_alloc_at _ _ _ _ hsz1.symm]; simp; exact eq_of_beq ho
  · rw [World.cell?_alloc_at _ _ _ _ hsz1.symm]; rfl
  rintro e W ⟨rfl, hW⟩
  have p0 : W.cell? ⟨w.heap.size + 1, 0, none⟩ = some (.slice (some ⟨w.heap.size, 0, none⟩) n n) := by rw [hW, World.cell?_alloc_at _ _ _ _ hsz1.symm]; rfl
  have p14 : W.cell? ⟨w.heap.size + 1, 14, none⟩ = some (.slice none 0 0) := by rw [hW, World.cell?_alloc_at _ _ _ _ hsz1.symm]; rfl
  have hbW : Below w.heap.size w W := by rw [hW]; exact hbel1.alloc (by omega) _
  have hqW : ∃ g, Full W w.heap.size (n * 6) g ∧ ∀ i, i < n → g (i * 6) = .int .i64 i ∧ g (i * 6 + 1) = .int .i64 1 ∧ g (i * 6 + 2) = .int .i64 (es i) := by
    obtain ⟨g, hg1, hg2⟩ := unhide hq2
    exact ⟨g, by rw [hW]; exact hg1.alloc (by omega) _, hg2⟩
  clear hW hq2 hbel1 hsz1
  obtain ⟨g, hg1, hg2⟩ := hqW
  have Ha0 := hide ha0
  clear ha0
  go_wp2
  go_loopw [16] (fun i wq => ∃ (j q : Nat), j ≤ n ∧ i = .int .i64 j ∧ wq = W.drewN q) (fun i _ => n - (intOf i).toNat)
  case atStart => exact ⟨0, 0, Nat.zero_le _, rfl, rfl⟩
  case round =>
    obtain ⟨j, q, hj, rfl, rfl⟩ := hrel
    by_cases hlt : j < n
    · have hix := fun W => idx (P := Yba.prog) Yba.underlying22 size2 (cap := cap0) (unhide Ha0) hlt W
      have c0 : W.cell? ⟨w.heap.size, j * 6, none⟩ = some (.int .i64 j) := by rw [(hg1 _ (by omega)).1, (hg2 j hlt).1]
      have c2 : W.cell? ⟨w.heap.size, j * 6 + 2, none⟩ = some (.int .i64 (es j)) := by rw [(hg1 _ (by omega)).1, (hg2 j hlt).2.2]
      have cs : W.cell? ⟨b0, off0 + j, none⟩ = some (.int .i64 (es j)) := by rw [hbW.cell (p := ⟨b0, _, none⟩) (hb0 (by omega))]; exact hc0 j hlt
      have hj2 : (j : Int) < n := by omega
      go_wp2
      go_quiet (fail)
      go_wp2
      exact ⟨⟨j + 1, _, by omega, by go_num, rfl⟩, by simp [intOf]; omega⟩
    · go_wp2
      go_loopw [17] (fun i wq => i = .int .i64 0 ∧ ∃ (q : Nat), wq = W.drewN q) (fun i _ => 0)
      case atStart => exact ⟨rfl, _, rfl⟩
      case round =>
        obtain ⟨rfl, q, rfl⟩ := hrel
        go_wp2
        go_ret
        exact ⟨rfl, below_drewN hbW _⟩

set_option maxRecDepth 100000 in
set_option maxHeartbeats 1000000 in
theorem law_z_o (a0 : Option Addr) (n cap0 b0 off0 : Nat) (es : Nat → Int) (cap1 : Nat) (a2 k : Int) (w : World)
    (hn : n ≤ 1024) (hb0 : 0 < n → b0 < w.heap.size) (ha0 : 0 < n → a0 = some ⟨b0, off0, none⟩) (hc0 : ∀ i, i < n → w.cell? ⟨b0, off0 + i, none⟩ = some (.int .i64 (es i)))
    (h20 : 0 ≤ a2) (h21 : a2 ≤ 255) (ho : (a2 % 3 == 1) = false) (hk0 : -2048 ≤ k) (hk1 : k ≤ 2048) :
    Calls Yba.prog 3 #[.slice a0 n cap0, .slice none 0 cap1, .int .u8 a2, .int .i64 k] w fun e w' => e = .returned (.bool true) ∧ Below w.heap.size w w' := by
  have hn' : ¬ (1024 : Int) < n := by omega
  have hx1 : ¬ k < -2048 := by omega
  have hx2 : ¬ 2048 < k := by omega
  go_enter Yba.func3, Yba.ntmps3
  go_wp2_with (first | (go_at_call 5; refine (queue_any a0 n cap0 b0 off0 es _ hn hb0 ha0 hc0).mono ?_; rintro e w1 ⟨rfl, hbel1, hsz1, hq1⟩) | (go_at_call 6; fail))
  have hq2 := hide hq1
  clear hq1
  refine (tried_other (w.heap.size + 1) (some ⟨w.heap.size, 0, none⟩) n n (a2 % 3) k _ ?_ ho ?_ (by omega) (by omega)).mono ?_
  · rw [World.cell?_alloc_at _ _ _ _ hsz1.symm]; rfl
  · rw [World.cell?_alloc_at _ _ _ _ hsz1.symm]; rfl
  rintro e W ⟨rfl, qq, hW⟩
  have p0 : W.cell? ⟨w.heap.size + 1, 0, none⟩ = some (.slice (some ⟨w.heap.size, 0, none⟩) n n) := by rw [hW, World.cell?_drewN, World.cell?_alloc_at _ _ _ _ hsz1.symm]; rfl
  have p14 : W.cell? ⟨w.heap.size + 1, 14, none⟩ = some (.slice none 0 0) := by rw [hW, World.cell?_drewN, World.cell?_alloc_at _ _ _ _ hsz1.symm]; rfl
  have hbW : Below w.heap.size w W := by rw [hW]; exact below_drewN (hbel1.alloc (by omega) _) _
  have hqW : ∃ g, Full W w.heap.size (n * 6) g ∧ ∀ i, i < n → g (i * 6) = .int .i64 i ∧ g (i * 6 + 1) = .int .i64 1 ∧ g (i * 6 + 2) = .int .i64 (es i) := by
    obtain ⟨g, hg1, hg2⟩ := unhide hq2
    exact ⟨g, by rw [hW]; exact hg1.alloc (by omega) _, hg2⟩
  clear hW hq2 hbel1 hsz1
  obtain ⟨g, hg1, hg2⟩ := hqW
  have Ha0 := hide ha0
  clear ha0
  go_wp2
  go_loopw [16] (fun i wq => ∃ (j q : Nat), j ≤ n ∧ i = .int .i64 j ∧ wq = W.drewN q) (fun i _ => n - (intOf i).toNat)
  case atStart => exact ⟨0, 0, Nat.zero_le _, rfl, rfl⟩
  case round =>
    obtain ⟨j, q, hj, rfl, rfl⟩ := hrel
    by_cases hlt : j < n
    · have hix := fun W => idx (P := Yba.prog) Yba.underlying22 size2 (cap := cap0) (unhide Ha0) hlt W
      have c0 : W.cell? ⟨w.heap.size, j * 6, none⟩ = some (.int .i64 j) := by rw [(hg1 _ (by omega)).1, (hg2 j hlt).1]
      have c2 : W.cell? ⟨w.heap.size, j * 6 + 2, none⟩ = some (.int .i64 (es j)) := by rw [(hg1 _ (by omega)).1, (hg2 j hlt).2.2]
      have cs : W.cell? ⟨b0, off0 + j, none⟩ = some (.int .i64 (es j)) := by rw [hbW.cell (p := ⟨b0, _, none⟩) (hb0 (by omega))]; exact hc0 j hlt
      have hj2 : (j : Int) < n := by omega
      go_wp2
      go_quiet (fail)
      go_wp2
      exact ⟨⟨j + 1, _, by omega, by go_num, rfl⟩, by simp [intOf]; omega⟩
    · go_wp2
      go_loopw [17] (fun i wq => i = .int .i64 0 ∧ ∃ (q : Nat), wq = W.drewN q) (fun i _ => 0)
      case atStart => exact ⟨rfl, _, rfl⟩
      case round =>
        obtain ⟨rfl, q, rfl⟩ := hrel
        go_wp2
        go_ret
        exact ⟨rfl, below_drewN hbW _⟩

end Go.Proofs.Ybulkdbny
