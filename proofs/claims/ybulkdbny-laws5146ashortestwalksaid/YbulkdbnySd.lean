/-
  (*easy).tryShortest, by its contract.
-/
import Derived.Test.YbulkdbnySc
namespace Go.Proofs.Ybulkdbny
open Go.RowKit

set_option maxRecDepth 100000 in
set_option maxHeartbeats 1000000 in
theorem try_any : TrySaid := by
  intro pb qg n ps es free w hn hpb hqg hne hq c0 c12 c14 f14
  have hpb1 : pb < w.heap.size + 1 := by omega
  go_enter Yba.func7, Yba.ntmps7
  go_wp2
  go_region
  go_wp2
  go_loopw [4] (fun i wr => ∃ (k : Nat) (v : Value), 1 ≤ k ∧ (k ≤ n ∨ k = 1) ∧ i = .int .i64 k ∧ w.grownBy wr (some pb) ∧ w.heap.size + 1 ≤ wr.heap.size ∧ wr.cell? ⟨w.heap.size, 0, none⟩ = some (.pointer (some ⟨pb, 0, none⟩)) ∧
      wr.cell? ⟨pb, 0, none⟩ = some (.slice (some ⟨qg, 0, none⟩) n n) ∧ wr.cell? ⟨pb, 12, none⟩ = some (.int .i64 1) ∧ wr.cell? ⟨pb, 14, none⟩ = some v ∧ wr.frozen? ⟨pb, 14, none⟩ = false ∧ OwnI wr (w.heap.size + 1) v ((placesTo ps free k).map fun (x : Nat) => (x : Int))) (fun i _ => n - (intOf i).toNat)
  case atStart =>
    refine ⟨1, .slice none 0 0, Nat.le_refl _, Or.inr rfl, rfl, ?_, ?_, ?_, ?_, ?_, ?_, ?_, ?_⟩
    · exact grown_none (grown_none (grown_setCell w pb 14 _) (World.grownBy_alloc _ _ none)) (grown_drew _)
    · simp
    · go_simp
    · go_simp
    · go_simp
    · go_simp
    · go_simp
    · exact World.ownsRow_nil _ _ _ _
  case round =>
    obtain ⟨k, v, hk1, hkn, rfl, hgr, hsz, cb, d0, d12, d14, g14, hown⟩ := hrel
    by_cases hlt : k < n
    · have hlt' : (k : Int) < n := by omega
      have hps : wr.cell? ⟨qg, k * 6 + 1, none⟩ = some (.int .i64 (ps k)) := by
        obtain ⟨f, hf1, hf2⟩ := hq
        have := (hf1 (k * 6 + 1) (by omega)).1
        rw [(hf2 k hlt).2.1] at this
        exact hgr.cell this (by simpa using hne)
      by_cases hfit : ps k ≤ free
      · obtain ⟨v2, w2, hrun, hown2, hg2⟩ := hown.push hsz k (by have := places_len ps free k; simp; omega)
        obtain ⟨g2, cp2, rfl, hg2a, hg2b⟩ := World.ownsRow.form hown2 (by simp)
        generalize hln : ((placesTo ps free k).map (fun (x : Nat) => (x : Int)) ++ [(k : Int)]).length = ln at hrun hown2
        have Hrun := hide hrun
        clear hrun
        have hpbr : pb < wr.heap.size := by omega
        have hwr : w.heap.size < wr.heap.size := by omega
        have hob : ∀ b, b ≤ w.heap.size → some b ≠ v.ownBlock := fun b hb e => by
          have := (hown.lt b e.symm).1
          omega
        have hlow : ∀ b o, b ≤ w.heap.size → w2.cell? ⟨b, o, none⟩ = wr.cell? ⟨b, o, none⟩ := fun b o hb => by
          rw [World.grownBy.cell_far hg2 ⟨b, o, none⟩ (by simp; omega) (hob b hb), World.cell?_drew, World.cell?_alloc_past _ _ _ (by omega)]
        have hlowf : w2.frozen? ⟨pb, 14, none⟩ = wr.frozen? ⟨pb, 14, none⟩ := by
          rw [World.grownBy.frozen_far hg2 ⟨pb, 14, none⟩ (by simp; omega) (hob pb (by omega))]
          exact World.frozen?_alloc_past _ _ _ hpbr
        have e14 : w2.cell? ⟨pb, 14, none⟩ = some v := by rw [hlow pb 14 (by omega)]; exact d14
        have eb : w2.cell? ⟨w.heap.size, 0, none⟩ = some (.pointer (some ⟨pb, 0, none⟩)) := by rw [hlow _ 0 (by omega)]; exact cb
        have h14 : w2.frozen? ⟨pb, 14, none⟩ = false := by rw [hlowf]; exact g14
        have e0 : w2.cell? ⟨pb, 0, none⟩ = some (.slice (some ⟨qg, 0, none⟩) n n) := by rw [hlow pb 0 (by omega)]; exact d0
        have e12 : w2.cell? ⟨pb, 12, none⟩ = some (.int .i64 1) := by rw [hlow pb 12 (by omega)]; exact d12
        have hgr2 : w.grownBy w2 (some pb) := by
          have h1 := grown_none (grown_none hgr (World.grownBy_alloc wr (.cells #[.int .i64 (k : Int)] 3) none)) (grown_drew _)
          cases hb : v.ownBlock with
          | none => rw [hb] at hg2; exact grown_none h1 hg2
          | some g => rw [hb] at hg2; exact grown_via h1 hg2 (Or.inl (by have := (hown.lt g hb).1; omega))
        have hsz2 : w.heap.size + 1 ≤ w2.heap.size := by have := hg2.size; simp at this; omega
        have R : Hid (w.grownBy (w2.setCell ⟨pb, 14, none⟩ (.slice (some ⟨g2, 0, none⟩) ln cp2)) (some pb) ∧ w.heap.size + 1 ≤ (w2.setCell ⟨pb, 14, none⟩ (.slice (some ⟨g2, 0, none⟩) ln cp2)).heap.size ∧
            (w2.setCell ⟨pb, 14, none⟩ (.slice (some ⟨g2, 0, none⟩) ln cp2)).cell? ⟨w.heap.size, 0, none⟩ = some (.pointer (some ⟨pb, 0, none⟩)) ∧ (w2.setCell ⟨pb, 14, none⟩ (.slice (some ⟨g2, 0, none⟩) ln cp2)).cell? ⟨pb, 0, none⟩ = some (.slice (some ⟨qg, 0, none⟩) n n) ∧
            (w2.setCell ⟨pb, 14, none⟩ (.slice (some ⟨g2, 0, none⟩) ln cp2)).cell? ⟨pb, 12, none⟩ = some (.int .i64 1) ∧ (w2.setCell ⟨pb, 14, none⟩ (.slice (some ⟨g2, 0, none⟩) ln cp2)).cell? ⟨pb, 14, none⟩ = some (.slice (some ⟨g2, 0, none⟩) ln cp2) ∧
            (w2.setCell ⟨pb, 14, none⟩ (.slice (some ⟨g2, 0, none⟩) ln cp2)).frozen? ⟨pb, 14, none⟩ = false ∧ OwnI (w2.setCell ⟨pb, 14, none⟩ (.slice (some ⟨g2, 0, none⟩) ln cp2)) (w.heap.size + 1) (.slice (some ⟨g2, 0, none⟩) ln cp2) ((placesTo ps free (k + 1)).map fun (x : Nat) => (x : Int))) := by
          refine ⟨grown_via hgr2 (grown_setCell w2 pb 14 _) (Or.inr rfl), by simpa using hsz2, ?_, ?_, ?_, ?_, ?_, ?_⟩
          · rw [World.cell?_setCell_other _ _ _ _ (by simp)]; exact eb
          · rw [World.cell?_setCell_other _ _ _ _ (by simp)]; exact e0
          · rw [World.cell?_setCell_other _ _ _ _ (by simp)]; exact e12
          · exact World.cell?_setCell_same _ _ _ e14
          · rw [World.frozen?_setCell]; exact h14
          · rw [places_hit hk1 hfit, List.map_append]
            exact World.ownsRow.kept hown2 (grown_setCell w2 pb 14 _) (Or.inr (by simp [Value.ownBlock]; omega))
        clear hlow hlowf hob hgr2 hsz2 e0 e12 hown2 hg2
        go_wp2
        go_region_law (first | (refine step_append_run rfl _ _ 23 23 rfl _ _ rfl rfl (.slice (some ⟨g2, 0, none⟩) ln cp2) w2 (unhide Hrun) ?_))
        all_goals go_wp2
        all_goals exact ⟨⟨k + 1, _, by omega, Or.inl (by omega), by go_num, (unhide R).1, (unhide R).2.1, (unhide R).2.2.1, (unhide R).2.2.2.1, (unhide R).2.2.2.2.1, (unhide R).2.2.2.2.2.1, (unhide R).2.2.2.2.2.2.1, (unhide R).2.2.2.2.2.2.2⟩, by simp [intOf]; omega⟩
      · rw [← places_miss hfit] at hown
        go_wp2
        exact ⟨⟨k + 1, v, by omega, Or.inl (by omega), by go_num, hgr, hsz, cb, d0, d12, d14, g14, hown⟩, by simp [intOf]; omega⟩
    · have hpl : placesTo ps free k = placesTo ps free n := by
        rcases hkn with h | h
        · rw [show k = n by omega]
        · subst h
          have : n = 0 ∨ n = 1 := by omega
          rcases this with rfl | rfl <;> simp [placesTo]
      rw [hpl] at hown
      have hpn : ∀ x ∈ placesTo ps free n, x < n := fun x hx => List.mem_range.1 (List.mem_filter.1 hx).1
      have hnd : (placesTo ps free n).Nodup := List.nodup_range.filter _
      have hqs : ∀ i, i < n → wr.cell? ⟨qg, i * 6 + 2, none⟩ = some (.int .i64 (es i)) := fun i hi => by
        obtain ⟨f, hf1, hf2⟩ := hq
        have := (hf1 (i * 6 + 2) (by omega)).1
        rw [(hf2 i hi).2.2] at this
        exact hgr.cell this (by simpa using hne)
      have hs := sort_list wr (w.heap.size + 1) w.heap.size pb qg n es v (placesTo ps free n) hown hpn hnd (by have := places_len ps free n; omega) (by omega) (by omega) (by omega) cb d0 hqs
      have hlo : ∀ b, v.ownBlock = some b → w.heap.size + 1 ≤ b := fun b hb => (hown.lt b hb).1
      clear hown hqs hq c0 c12 c14 f14
      go_wp2_with fail
      refine hs.mono ?_
      rintro e w' ⟨rfl, L, hL, hP, hg, a, cap, g, rfl, ha, hgl, hcl⟩
      have hgr' : w.grownBy w' (some pb) := by
        cases hb : (Value.slice a L.length cap).ownBlock with
        | none => rw [hb] at hg; exact grown_none hgr hg
        | some g' => rw [hb] at hg; exact grown_via hgr hg (Or.inl (by have := hlo g' hb; omega))
      have hne' : ∀ b, b ≤ w.heap.size → some b ≠ (Value.slice a L.length cap).ownBlock := fun b hb e => by
        have := hlo b e.symm
        omega
      have R : Tried w w' pb n ps es free := ⟨L, a, cap, g, hL, hP, hg.cell d14 (hne' pb (by omega)), hg.cell d12 (hne' pb (by omega)), ha, hcl, fun h => Nat.lt_of_lt_of_le (hgl h) hg.size, hgr'⟩
      go_wp2
      go_end0
      exact ⟨rfl, R⟩
end Go.Proofs.Ybulkdbny
