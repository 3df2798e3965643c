/-
  LawS5141BExact, walked.
-/
import Derived.Test.YbulkdblgFmtTk
namespace Go.Proofs.YbulkdblgFmt
open Go.RowKit Go.Shelf Go.Stop

set_option maxRecDepth 100000 in
set_option maxHeartbeats 2000000 in
theorem exact_any (FI : Interp) (n0 which : Int) (hn0 : 0 ≤ n0) (hn1 : n0 ≤ 255) (hw0 : 0 ≤ which) (hw1 : which ≤ 255) (a0 : Option Addr) (len cap : Nat) (oB : Nat → Int) (kV eV : Nat → Value) (kS eS : Nat → List Int) (w : World) (hF : FI.told.answers w.tape) (hG : Given w a0 len oB kV eV kS eS) :
    Calls Ybaf.prog 5 #[.int .u8 n0, .int .u8 which, .slice a0 len cap] w fun e w' => e = .returned (.bool true) ∧ Below w.heap.size w w' := by
  obtain ⟨n, hn⟩ : ∃ n : Nat, n0 % 6 + 1 = (n : Int) := ⟨(n0 % 6 + 1).toNat, by omega⟩
  have hnp : 1 ≤ n := by omega
  have hn6 : n ≤ 6 := by omega
  have hmm := @run_makeMap Ybaf.prog
  obtain ⟨i0, hi, hz0, hz1, hz2⟩ := info_parts info42
  go_enter Ybaf.func5, Ybaf.ntmps5
  go_wp2_with (at_make; refine wpList_make_full _ rfl _ _ 40 rfl w.heap.size 42 i0 (.agg #[.int .u8 0, .slice none 0 0, .slice none 0 0]) 3 Ybaf.underlying40 hi hz0 hz1 .i64 .i64 n n n rfl rfl rfl rfl ?b2 ?b3 (Nat.le_refl _) ?nxt)
  case b2 => rw [hz2]; omega
  case b3 => unfold maxLen; omega
  case nxt =>
    intro W0 hown hgr
    have hS0 := hideT (Spc.start (oB := oB) (kV := kV) (eV := eV) hown hgr)
    clear hown hgr
    go_upto_block 0 with fail
    go_cut [9] from 42 to 59 (fun _ wx => Spc w n oB kV eV n wx)
    case first =>
      go_wp2_with fail
      go_loopw [9] (fun s9 wr => ∃ i : Nat, i ≤ n ∧ s9 = .int .i64 i ∧ Spc w n oB kV eV i wr) (fun s9 _ => 100 - (intOf s9).toNat)
      case atStart => exact ⟨0, Nat.zero_le _, rfl, unhideT hS0⟩
      case round =>
        clear hS0
        obtain ⟨i, hi', rfl, hS⟩ := hrel
        by_cases hcopy : i < n ∧ i < len
        · obtain ⟨hin, hil⟩ := hcopy
          obtain ⟨b, off, rfl, hb, c0, c1, c2⟩ := hG.rows i hil
          obtain ⟨ka, kc, hkv, _⟩ := hG.ke i
          obtain ⟨ea, ec, hev, _⟩ := hG.ex i
          have d0 := (hS.bel.cell (p := ⟨b, off + i * 3, none⟩) hb).trans c0
          have d1 := (hS.bel.cell (p := ⟨b, off + i * 3 + 1, none⟩) hb).trans c1
          have d2 := (hS.bel.cell (p := ⟨b, off + i * 3 + 2, none⟩) hb).trans c2
          obtain ⟨e0, e1, e2⟩ := hS.new i hin (Nat.le_refl _)
          have hfz := hS.frozen
          have hstep := hS.step hin
          rw [hkv, hev] at hstep
          rw [hkv] at d1
          rw [hev] at d2
          have Hstep := hideT hstep
          have hneg : ¬ (i : Int) < 0 := by omega
          clear hstep hS c0 c1 c2
          go_wp2
          exact ⟨⟨i + 1, by omega, rfl, unhideT Hstep⟩, by simp [intOf]; omega⟩
        · have hS1 := hideT (hS.all hG (by omega))
          have hdec : (i < n ∧ ¬ i < len) ∨ ¬ i < n := by omega
          clear hS
          rcases hdec with ⟨h1, h2⟩ | h1
          · go_wp2
            go_meet
            exact unhideT hS1
          · go_wp2
            go_meet
            exact unhideT hS1
    case rest =>
      clear hS0
      obtain ⟨W1, hW1⟩ : ∃ W1, W1 = wc := ⟨_, rfl⟩
      subst hW1
      have hS1 := hcut
      clear hcut
      go_upto_block 2 with fail
      go_cut [6, 10] from 60 to 80 (fun s6 _ wx => wx = W1 ∧ s6 = .bool false ∧ ∀ j, j < n → (kS j).length ≤ 256 ∧ (eS j).length ≤ 256)
      case first =>
        go_wp2_with fail
        go_loopw [6, 10] (fun s6 s10 wr => wr = W1 ∧ s6 = .bool false ∧ ∃ i : Nat, i ≤ n ∧ s10 = .int .i64 i ∧ ∀ j, j < i → (kS j).length ≤ 256 ∧ (eS j).length ≤ 256) (fun _ s10 _ => 100 - (intOf s10).toNat)
        case atStart => exact ⟨rfl, rfl, 0, Nat.zero_le _, rfl, fun j hj => absurd hj (Nat.not_lt_zero _)⟩
        case round =>
          obtain ⟨rfl, rfl, i, hi', rfl, hsm⟩ := hrel
          by_cases hin : i < n
          · obtain ⟨e0, e1, e2⟩ := hS1.old i hin hin
            obtain ⟨ka, kc, hkv, _⟩ := hG.ke i
            obtain ⟨ea, ec, hev, _⟩ := hG.ex i
            rw [hkv] at e1
            rw [hev] at e2
            have hneg : ¬ (i : Int) < 0 := by omega
            have hbel := hideT hS1.bel
            by_cases hk : (256 : Int) < (kS i).length
            · go_wp2
              go_ret
              exact ⟨rfl, unhideT hbel⟩
            · by_cases he : (256 : Int) < (eS i).length
              · go_wp2
                go_ret
                exact ⟨rfl, unhideT hbel⟩
              · have hsm' : Hid (∀ j, j < i + 1 → (kS j).length ≤ 256 ∧ (eS j).length ≤ 256) := fun j hj => by
                  by_cases e : j = i
                  · subst e; omega
                  · exact hsm j (by omega)
                clear hsm
                go_wp2
                exact ⟨⟨trivial, rfl, i + 1, by omega, rfl, unhideT hsm'⟩, by simp [intOf]; omega⟩
          · obtain rfl : i = n := by omega
            have Hsm := hideT hsm
            clear hsm
            go_wp2
            go_meet
            exact ⟨rfl, rfl, unhideT Hsm⟩
      case rest =>
        obtain ⟨rfl, rfl, hsm⟩ := hcut
        obtain ⟨W1, hW1⟩ : ∃ W1, W1 = wc := ⟨_, rfl⟩
        subst hW1
        have hst := hideT (Bld.start kS eS hn6 hS1)
        clear hS1
        go_upto_block 4 with fail
        refine exact_build n hnp hn6 a0 len oB kV eV kS eS w _ W1.heap.size hG hsm (unhideT hst) _ _ _ _ _ _ _ _ _ _ _ _ _ _ _ _ _ _ _ _ _ _ _ _ _ _ _ _ _ _ _ _ _ _ _ _ _ _ _ _ _ _ _ _ _ _ _ _ _ _ _ _ _ _ _ _ _ _ _ _ _ _ _ _ _ _ _ _ _ _ _ _ _ _ _ _ _ _ _ _ _ _ _ _ _ _ _ _ _ _ _ _ _ _ _ _ _ _ _ _ _ _ _ _ _ _ _ _ _ _ _ _ _ _ _ _ _ _ _ _ _ _ _ _ _ _ _ _ _ _ _ _ _ _ _ _ _ _ _ _ _ _ _ _ _ _ _ _ _ _ _ _ _ _ _ _ _ _ _ _ _ _ _ _ _ _ _ _ _ _ _ _ _ _ _ _ _ _ _ _ _ _ _ _ _ _ _ _ _ _ _ _ _ _ _ _ _ _ _ _ _ _ _ _ _ _ _ _ _ _ _ _ _ _ _ _ _ _ _ _ _ _ _ _ _ _ _ _ _ _ _ _ _ _ _ _ _ _ _ _ _ _ _ _ _ _ _ _ _ _ _ _ _ _ _ _ _ _ _ _ _ _ _ _ _ _ _ _ _ _ _ _ _ _ _ _ _ _ _ ?_
        intro _ _ _ _ _ _ _ _ _ _ _ _ _ _ _ _ _ _ _ _ _ _ _ _ _ _ _ _ _ _ _ _ _ _ _ _ _ _ _ _ _ _ _ _ _ _ _ _ _ _ _ _ _ _ _ _ _ _ _ _ _ _ _ _ _ _ _ _ _ _ _ _ _ _ _ _ _ _ _ _ _ _ _ _ _ _ _ _ _ _ _ _ _ _ _ _ _ _ _ _ _ _ _ _ _ _ _ _ _ _ _ _ _ _ _ _ _ _ _ _ wx hB
        go_step
        exact exact_tail FI which hw0 hw1 n hnp hn6 oB kV eV kS eS w wx W1.heap.size hF hB _ _ _ _ _ _ _ _ _ _ _ _ _ _ _ _ _ _ _ _ _ _ _ _ _ _ _ _ _ _ _ _ _ _ _ _ _ _ _ _ _ _ _ _ _ _ _ _ _ _ _ _ _ _ _ _ _ _ _ _ _ _ _ _ _ _ _ _ _ _ _ _ _ _ _ _ _ _ _ _ _ _ _ _ _ _ _ _ _ _ _ _ _ _ _ _ _ _ _ _ _ _ _ _ _ _ _ _ _ _ _ _ _ _ _ _ _ _ _ _ _ _ _ _ _ _ _ _ _ _ _ _ _ _ _ _ _ _ _ _ _ _ _ _ _ _ _ _ _ _ _ _ _ _ _ _ _ _ _ _ _ _ _ _ _ _ _ _ _ _ _ _ _ _ _ _ _ _ _ _ _ _ _ _ _ _ _ _ _ _ _ _ _ _ _ _ _ _ _ _ _ _ _ _ _ _ _ _ _ _ _ _ _ _ _ _ _ _ _ _ _ _ _ _ _ _ _ _ _ _ _ _ _ _ _ _ _ _ _ _ _ _ _ _ _ _ _ _ _ _ _ _ _ _ _ _ _ _ _ _ _ _ _ _ _ _ _ _ _ _ _ _ _ _ _ _ _ _
end Go.Proofs.YbulkdblgFmt
