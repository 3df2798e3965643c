/-
  The law 'sched.LawS5146AShortestWalk', walked.
-/
import Derived.Test.YbulkdbnySb
namespace Go.Proofs.Ybulkdbny
open Go.RowKit
set_option linter.unusedVariables false

theorem size50 (W : World) : (sizeOf 50).run Yba.prog W = .ok 2 W := by kernel_rfl
theorem size4 (W : World) : (sizeOf 4).run Yba.prog W = .ok 1 W := by kernel_rfl
theorem info4 : (Yba.prog.info? 4).map (fun i => (i.zero, i.size, i.bytes)) = some (some (.bool false), 1, 1) := by kernel_rfl
theorem make4 (w : World) (n : Nat) (hn : n ≤ 1024) :
    (Instr.makeSlice 52 (.int .i64 n) (.int .i64 n)).run Yba.prog w = .ok (.slice (some ⟨w.heap.size, 0, none⟩) n n) (w.alloc (.cells (madeCells #[Value.bool false] n) 4)) := by
  obtain ⟨i0, hi, hz0, hz1, hz2⟩ := info_parts info4
  have h := run_make (P := Yba.prog) w 52 4 i0 _ Yba.underlying52 hi hz0 .i64 .i64 n n (by omega) (by omega) (by rw [hz2]; omega) (by omega)
  rw [hz1] at h
  rw [show (Value.bool false).cells = #[Value.bool false] from rfl] at h
  simpa using h
theorem made4 (n j : Nat) (hj : j < n) : (madeCells #[Value.bool false] n)[j]? = some (.bool false) := by
  simp only [madeCells, Array.getElem?_map, Array.getElem?_range, hj, if_true, Option.map_some]
  simp [Nat.mod_one]

theorem size_drew (w : World) : w.drew.heap.size = w.heap.size := rfl
theorem QueueTo.drew {w : World} {g n k : Nat} {ps es : Nat → Int} (h : QueueTo w g n ps es k) : QueueTo w.drew g n ps es k := h
theorem QueueTo.alloc {w : World} {g n k : Nat} {ps es : Nat → Int} (h : QueueTo w g n ps es k) (hg : g < w.heap.size) (o : Obj) : QueueTo (w.alloc o) g n ps es k := by
  obtain ⟨f, h1, h2⟩ := h
  exact ⟨f, h1.alloc hg o, h2⟩

theorem getD_at {L : List Nat} {k : Nat} (hk : k < L.length) : L.getD k 0 = L[k] := by simp [List.getD, hk]
theorem L_facts {L : List Nat} {ps : Nat → Int} {free : Int} {n : Nat} (h : L.Perm (placesTo ps free n)) {k : Nat} (hk : k < L.length) : 1 ≤ L.getD k 0 ∧ L.getD k 0 < n ∧ ps (L.getD k 0) ≤ free := by
  have hm : L.getD k 0 ∈ L := by rw [getD_at hk]; exact List.getElem_mem hk
  have hm' := h.mem_iff.1 hm
  simp only [placesTo, List.mem_filter, List.mem_range, Bool.and_eq_true, decide_eq_true_eq] at hm'
  exact ⟨hm'.2.1, hm'.1, hm'.2.2⟩
theorem L_step {L : List Nat} {es : Nat → Int} (h : L.Pairwise (ltQ es)) {k : Nat} (hk : k + 1 < L.length) : ltQ es (L.getD k 0) (L.getD (k + 1) 0) := by
  rw [getD_at hk, getD_at (by omega)]
  exact List.pairwise_iff_getElem.1 h k (k + 1) (by omega) hk (by omega)
theorem L_new {L : List Nat} (h : L.Nodup) {k : Nat} (hk : k < L.length) : L.getD k 0 ∉ L.take k := by
  rw [getD_at hk]
  intro hm
  obtain ⟨i, hi, e⟩ := List.mem_iff_getElem.1 hm
  rw [List.getElem_take] at e
  have hi' : i < k := by rw [List.length_take] at hi; omega
  exact (List.pairwise_iff_getElem.1 h i k (by omega) hk hi') e
theorem L_take {L : List Nat} {k : Nat} (hk : k < L.length) (j : Nat) : j ∈ L.take (k + 1) ↔ j = L.getD k 0 ∨ j ∈ L.take k := by
  rw [List.take_succ_eq_append_getElem hk, getD_at hk]
  rw [List.mem_append, List.mem_singleton, or_comm]
theorem L_nodup {L : List Nat} {ps : Nat → Int} {free : Int} {n : Nat} (h : L.Perm (placesTo ps free n)) : L.Nodup := h.nodup_iff.2 (List.nodup_range.filter _)

def prevOf (L : List Nat) : Nat → Int
  | 0 => -1
  | k + 1 => L.getD k 0
def seenOf (L : List Nat) (k : Nat) (j : Nat) : Value := .bool (decide (j ∈ L.take k))

theorem fill_step {w wr : World} {n k : Nat} {ps es : Nat → Int} (hbel : Below w.heap.size w wr) (hsz : wr.heap.size = w.heap.size + 1) (hq : QueueTo wr w.heap.size n ps es k) (hk : k < n) :
    let w' := ((((((wr.setCell ⟨w.heap.size, k * 6, none⟩ (.int .i64 k)).setCell ⟨w.heap.size, k * 6 + 1, none⟩ (.int .i64 (ps k))).setCell ⟨w.heap.size, k * 6 + 2, none⟩ (.int .i64 (es k))).setCell ⟨w.heap.size, k * 6 + 3, none⟩ (.int .i64 0)).setCell ⟨w.heap.size, k * 6 + 4, none⟩ (.int .i64 0)).setCell ⟨w.heap.size, k * 6 + 5, none⟩ (.bool false)).drew
    Below w.heap.size w w' ∧ w'.heap.size = w.heap.size + 1 ∧ QueueTo w' w.heap.size n ps es (k + 1) :=
  ⟨((((((hbel.setCell (Nat.le_refl _) _).setCell (Nat.le_refl _) _).setCell (Nat.le_refl _) _).setCell (Nat.le_refl _) _).setCell (Nat.le_refl _) _).setCell (Nat.le_refl _) _).drew, by rw [size_drew]; simp [hsz], (hq.step hk).drew⟩

set_option maxRecDepth 100000 in
set_option maxHeartbeats 1000000 in
theorem law_walk (hT : TrySaid) (a0 : Option Addr) (n cap0 b0 off0 : Nat) (ps es : Nat → Int) (free : Int) (w : World) (hn : n ≤ 1024) (hb0 : 0 < n → b0 < w.heap.size) (ha0 : 0 < n → a0 = some ⟨b0, off0, none⟩)
    (hp : ∀ i, i < n → w.cell? ⟨b0, off0 + i * 2, none⟩ = some (.int .i64 (ps i))) (he : ∀ i, i < n → w.cell? ⟨b0, off0 + i * 2 + 1, none⟩ = some (.int .i64 (es i))) :
    Calls Yba.prog 4 #[.slice a0 n cap0, .int .i64 free] w fun e w' => e = .returned (.bool true) ∧ Below w.heap.size w w' := by
  have hn' : ¬ (1024 : Int) < n := by omega
  have hmk := make46 w n hn
  have HT := hide hT
  have Ha0 := hide ha0
  clear hT ha0
  go_enter Yba.func4, Yba.ntmps4
  go_wp2
  go_loopw [6] (fun i wr => ∃ k : Nat, k ≤ n ∧ i = .int .i64 k ∧ Below w.heap.size w wr ∧ wr.heap.size = w.heap.size + 1 ∧ QueueTo wr w.heap.size n ps es k) (fun i _ => n - (intOf i).toNat)
  case atStart => exact ⟨0, Nat.zero_le _, rfl, (Below.refl _ w).alloc (Nat.le_refl _) _, by simp, ⟨zjob, Full.made _ _ _ _ _ (fun j hj => made46 n j hj), fun i hi => by omega⟩⟩
  case round =>
    obtain ⟨k, hk, rfl, hbel, hsz, hq⟩ := hrel
    by_cases hlt : k < n
    · have hlt' : (k : Int) < n := by omega
      have hix := fun W => idx (P := Yba.prog) Yba.underlying48 size50 (cap := cap0) (unhide Ha0) hlt W
      have s1 : wr.cell? ⟨b0, off0 + k * 2, none⟩ = some (.int .i64 (ps k)) := by rw [hbel.cell (p := ⟨b0, _, none⟩) (hb0 (by omega))]; exact hp k hlt
      have s2 : wr.cell? ⟨b0, off0 + k * 2 + 1, none⟩ = some (.int .i64 (es k)) := by rw [hbel.cell (p := ⟨b0, _, none⟩) (hb0 (by omega))]; exact he k hlt
      have hb0n : b0 ≠ w.heap.size := by have := hb0 (by omega); omega
      obtain ⟨f, hf1, hf2⟩ := hq
      have t0 := hf1 (k * 6) (by omega)
      have t1 := hf1 (k * 6 + 1) (by omega)
      have t2 := hf1 (k * 6 + 2) (by omega)
      have t3 := hf1 (k * 6 + 3) (by omega)
      have t4 := hf1 (k * 6 + 4) (by omega)
      have t5 := hf1 (k * 6 + 5) (by omega)
      have hq' : QueueTo wr w.heap.size n ps es k := ⟨f, hf1, hf2⟩
      go_wp2
      go_region
      go_wp2
      have hst := fill_step hbel hsz hq' hlt
      clear hbel hsz hq' hf1 hf2 t0 t1 t2 t3 t4 t5 s1 s2 hix
      refine ⟨⟨k + 1, by omega, by go_num, hst⟩, ?_⟩
      simp only [intOf]
      omega
    · obtain rfl : n = k := by omega
      clear hmk hlt hk
      go_wp2_with fail
      have s1 : (w.heap.size + 1) = wr.heap.size := hsz.symm
      refine (unhide HT (w.heap.size + 1) w.heap.size n ps es free _ hn (by simp [hsz]) (by simp [hsz]; omega) (by omega) (hq.alloc (by omega) _) ?_ ?_ ?_ ?_).mono ?_
      · rw [s1, World.cell?_alloc_at _ _ _ _ rfl]; rfl
      · rw [s1, World.cell?_alloc_at _ _ _ _ rfl]; rfl
      · rw [s1, World.cell?_alloc_at _ _ _ _ rfl]; rfl
      · rw [s1, World.frozen?_alloc_at _ _ _ _ rfl]
      rintro e w' ⟨rfl, L, a, cap, g, hperm, hpw, c14, c12, ha, hc, hg, hgr⟩
      have hbel2 : Below w.heap.size w w' := (hbel.alloc (by omega) _).grown hgr (by simp [hsz]; omega) (fun b e => by cases e; omega)
      have hsz2 : w.heap.size + 2 ≤ w'.heap.size := by have := hgr.size; simp [hsz] at this; omega
      clear hbel hq hgr hsz s1
      have HC := hide hc
      have Hpw := hide hpw
      have Hperm := hide hperm
      have Hha := hide ha
      have Hhg := hide hg
      clear hc hpw hperm ha hg
      have hp' : ∀ i, i < n → w'.cell? ⟨b0, off0 + i * 2, none⟩ = some (.int .i64 (ps i)) := fun i hi => by rw [hbel2.cell (p := ⟨b0, _, none⟩) (hb0 (by omega))]; exact hp i hi
      have he' : ∀ i, i < n → w'.cell? ⟨b0, off0 + i * 2 + 1, none⟩ = some (.int .i64 (es i)) := fun i hi => by rw [hbel2.cell (p := ⟨b0, _, none⟩) (hb0 (by omega))]; exact he i hi
      have Hp := hide hp'
      have He := hide he'
      clear hp he hp' he'
      go_wp2
      go_loopw [8, 9] (fun c i wr => ∃ k : Nat, 1 ≤ k ∧ (k ≤ n ∨ k = 1) ∧ i = .int .i64 k ∧ c = .int .i64 (placesTo ps free k).length ∧ wr = w') (fun _ i _ => n - (intOf i).toNat)
      case atStart => exact ⟨1, Nat.le_refl _, Or.inr rfl, rfl, by simp [placesTo], rfl⟩
      case round =>
        obtain ⟨k, hk1, hkn, rfl, rfl, rfl⟩ := hrel
        by_cases hlt : k < n
        · have hlt' : (k : Int) < n := by omega
          have hix := fun W => idx (P := Yba.prog) Yba.underlying48 size50 (cap := cap0) (unhide Ha0) hlt W
          have s1 := unhide Hp k hlt
          have hle := places_len ps free k
          by_cases hfit : ps k ≤ free
          · go_wp2
            refine ⟨⟨k + 1, by omega, Or.inl (by omega), by go_num, ?_, trivial⟩, by simp [intOf]; omega⟩
            rw [places_hit hk1 hfit]
            simp
          · go_wp2
            refine ⟨⟨k + 1, by omega, Or.inl (by omega), by go_num, ?_, trivial⟩, by simp [intOf]; omega⟩
            rw [places_miss hfit]
        · have hpl : placesTo ps free k = placesTo ps free n := by
            rcases hkn with h | h
            · rw [show k = n by omega]
            · subst h
              have : n = 0 ∨ n = 1 := by omega
              rcases this with rfl | rfl <;> simp [placesTo]
          have hlen : (placesTo ps free n).length = L.length := (unhide Hperm).length_eq.symm
          rw [hpl, hlen]
          clear hpl hkn hk1 hlen
          have hmk := make4 wr n hn
          have hLn : L.length ≤ n := by have := places_len ps free n; have := (unhide Hperm).length_eq; omega
          go_wp2
          go_loopw [11, 12, 13] (fun c p i wt => ∃ k : Nat, k ≤ L.length ∧ c = .int .i64 k ∧ i = .int .i64 k ∧ p = .int .i64 (prevOf L k) ∧ Below wr.heap.size wr wt ∧ Full wt wr.heap.size n (seenOf L k)) (fun _ _ i _ => n + 1 - (intOf i).toNat)
          case atStart => exact ⟨0, Nat.zero_le _, rfl, rfl, rfl, (Below.refl _ wr).alloc (Nat.le_refl _) _, Full.made _ _ _ _ _ (fun j hj => by rw [made4 n j hj]; simp [seenOf])⟩
          case round =>
            rename World => wt
            obtain ⟨k, hk, rfl, rfl, rfl, hbel, hfull⟩ := hrel
            clear hmk
            have d14 := hbel.cell (p := ⟨w.heap.size + 1, 14, none⟩) (by show w.heap.size + 1 < wr.heap.size; omega)
            rw [c14] at d14
            have d12 := hbel.cell (p := ⟨w.heap.size + 1, 12, none⟩) (by show w.heap.size + 1 < wr.heap.size; omega)
            rw [c12] at d12
            have hkn : (k : Int) ≤ n := by omega
            by_cases hlt : k < L.length
            · obtain ⟨hx1, hx2, hx3⟩ := L_facts (unhide Hperm) hlt
              have hxn : (n : Int) > (L.getD k 0 : Int) := by omega
              have hxc := (hbel.cell (p := ⟨g, k, none⟩) (unhide Hhg (by omega))).trans (unhide HC k hlt)
              have hax := unhide Hha (by omega)
              have hnew := L_new (L_nodup (unhide Hperm)) hlt
              have hb0' : b0 < wr.heap.size := by have := hb0 (by omega); omega
              have hpx := (hbel.cell (p := ⟨b0, off0 + L.getD k 0 * 2, none⟩) hb0').trans (unhide Hp _ hx2)
              have hex := (hbel.cell (p := ⟨b0, off0 + L.getD k 0 * 2 + 1, none⟩) hb0').trans (unhide He _ hx2)
              have hix := fun W => idx (P := Yba.prog) Yba.underlying48 size50 (cap := cap0) (unhide Ha0) hx2 W
              have hsx := fun W => idx (P := Yba.prog) Yba.underlying52 size4 (a := some ⟨wr.heap.size, 0, none⟩) (b := wr.heap.size) (off := 0) (n := n) (cap := n) (fun _ => rfl) hx2 W
              have hseen := hfull _ hx2
              rw [show seenOf L k (L.getD k 0) = .bool false by simp only [seenOf, hnew, decide_false]] at hseen
              have hnext : Hid (Full (wt.setCell ⟨wr.heap.size, L.getD k 0, none⟩ (.bool true)) wr.heap.size n (seenOf L (k + 1))) := (hfull.set hx2 (.bool true)).congr (fun j _ => by
                by_cases ej : j = L.getD k 0
                · rw [if_pos ej, ej]; simp [seenOf, L_take hlt]
                · rw [if_neg ej]; simp only [seenOf, L_take hlt, ej, false_or])
              have hprevx : prevOf L (k + 1) = (L.getD k 0 : Nat) := rfl
              have hpw : k = 0 ∨ ∃ k', k = k' + 1 ∧ L.getD k' 0 < n ∧ ltQ es (L.getD k' 0) (L.getD k 0) := by
                cases k with
                | zero => exact Or.inl rfl
                | succ k' => exact Or.inr ⟨k', rfl, (L_facts (unhide Hperm) (by omega)).2.1, L_step (unhide Hpw) hlt⟩
              have hbel' := hide (hbel.setCell (p := ⟨wr.heap.size, L.getD k 0, none⟩) (Nat.le_refl _) (.bool true))
              go_wp2_with fail
              rw [hax] at d14
              refine (tried_yes (w.heap.size + 1) g L.length cap k (L.getD k 0) wt d12 d14 (by omega) (by omega) (by simpa using hxc)).mono ?_
              rintro e w2 ⟨rfl, rfl⟩
              clear d12 d14 hxc hax c14 c12 hnew
              generalize L.getD k 0 = x at *
              rcases hpw with rfl | ⟨k', rfl, hy, hlq⟩
              · have hp0 : prevOf L 0 = -1 := rfl
                rw [hp0]
                clear hfull hbel
                go_wp2
                exact ⟨⟨0 + 1, by omega, by go_num, by go_num, by rw [hprevx], unhide hbel', unhide hnext⟩, by simp [intOf]⟩
              · have hp0 : prevOf L (k' + 1) = (L.getD k' 0 : Nat) := rfl
                rw [hp0]
                have hey := (hbel.cell (p := ⟨b0, off0 + L.getD k' 0 * 2 + 1, none⟩) hb0').trans (unhide He _ hy)
                have hiy := fun W => idx (P := Yba.prog) Yba.underlying48 size50 (cap := cap0) (unhide Ha0) hy W
                generalize L.getD k' 0 = y at *
                clear hfull hbel
                rcases hlq with hlq | ⟨hlq, hyx⟩
                · go_wp2
                  exact ⟨⟨k' + 1 + 1, by omega, by go_num, by go_num, by rw [hprevx], unhide hbel', unhide hnext⟩, by simp [intOf]; omega⟩
                · go_wp2
                  exact ⟨⟨k' + 1 + 1, by omega, by go_num, by go_num, by rw [hprevx], unhide hbel', unhide hnext⟩, by simp [intOf]; omega⟩
            · have hkL : k = L.length := by omega
              subst hkL
              go_wp2_with fail
              refine (tried_no (w.heap.size + 1) a L.length cap L.length wt d12 d14 (by omega)).mono ?_
              rintro e w2 ⟨rfl, rfl⟩
              go_wp2
              go_ret
              exact ⟨by go_num, hbel2.trans (hbel.mono (by omega))⟩

set_option maxHeartbeats 400000 in
theorem law_big (a0 : Option Addr) (n cap0 : Nat) (free : Int) (w : World) (hn : 1024 < n) :
    Calls Yba.prog 4 #[.slice a0 n cap0, .int .i64 free] w fun e w' => e = .returned (.bool true) ∧ Below w.heap.size w w' := by
  have hn' : (1024 : Int) < n := by omega
  go_enter Yba.func4, Yba.ntmps4
  go_wp2
  go_ret
  exact ⟨rfl, Below.refl _ _⟩
end Go.Proofs.Ybulkdbny
