/-
  LawS5141BExact: all that follows the building.
-/
import Derived.Test.YbulkdblgFmtTi
namespace Go.Proofs.YbulkdblgFmt
open Go.RowKit Go.Shelf Go.Stop

/-- The code ends in that block. -/
def hasB (id : Nat) : Code → Bool
  | .block k _ => k == id
  | .seq _ b => hasB id b
  | _ => false
/-- The code behind that block. -/
def afterB (id : Nat) : Code → Option Code
  | .seq a b => if hasB id a then some b else afterB id b
  | _ => none

set_option maxRecDepth 100000 in
set_option maxHeartbeats 8000000 in
theorem exact_tail (FI : Interp) (which : Int) (hw0 : 0 ≤ which) (hw1 : which ≤ 255) (n : Nat) (hnp : 1 ≤ n) (hn6 : n ≤ 6) (oB : Nat → Int) (kV eV : Nat → Value) (kS eS : Nat → List Int) (w X : World) (mb : Nat) (hF : FI.told.answers w.tape) (hBd : Bld w mb n oB kV eV kS eS n X)
    (c0 c2 c3 c4 c5 c6 c8 c9 c10 c14 c15 c16 c17 c18 c19 c20 c21 c22 c23 c24 c25 c26 c27 c28 c29 c30 c31 c32 c33 c34 c35 c36 c37 c38 c39 c40 c41 c42 c43 c44 c45 c46 c47 c48 c49 c50 c51 c52 c53 c54 c55 c56 c57 c58 c59 c60 c61 c62 c63 c64 c65 c66 c67 c68 c69 c70 c71 c72 c73 c74 c75 c76 c77 c78 c79 c80 c81 c82 c83 c84 c85 c86 c87 c88 c89 c90 c91 c92 c93 c94 c95 c96 c97 c98 c99 c100 c101 c102 c103 c104 c105 c106 c107 c108 c109 c110 c111 c112 c113 c114 c115 c116 c117 c118 c119 c120 c121 c122 c123 c124 c125 c126 c127 c128 c129 c130 c131 c132 c133 c134 c135 c136 c137 c138 c139 c140 c141 c142 c143 c144 c145 c146 c147 c148 c149 c150 c151 c152 c153 c154 c155 c156 c157 c158 c159 c160 c161 c162 c163 c164 c165 c166 c167 c168 c169 c170 c171 c172 c173 c174 c175 c176 c177 c178 c179 c180 c181 c182 c183 c184 c185 c186 c187 c188 c189 c190 c191 c192 c193 c194 c195 c196 c197 c198 c199 c200 c201 c202 c203 c204 c205 c206 c207 c208 c209 c210 c211 c212 c213 c214 c215 c216 c217 c218 c219 c220 c221 c222 c223 c224 c225 c226 c227 c228 c229 c230 c231 c232 c233 c234 c235 c236 c237 c238 c239 c240 c241 c242 c243 c244 c245 c246 c247 c248 c249 c250 c251 c252 c253 c254 c255 c256 c257 c258 c259 c260 c261 c262 c263 c264 c265 c266 c267 c268 c269 c270 c271 c272 c273 c274 c275 c276 c277 c278 c279 c280 c281 c282 : Value) :
    Code.wp Ybaf.prog ((Ybaf.f5.body.bind (afterB 4)).getD .skip) (bodyPost Ybaf.prog Ybaf.f5 fun e w' => e = .returned (.bool true) ∧ Below w.heap.size w w') { tmps := #[c0, .int .u8 which, c2, c3, c4, c5, c6, .int .i64 n, c8, c9, c10, .pointer (some ⟨mb + 1, 0, none⟩), .pointer (some ⟨mb + 1 + 1, 0, none⟩), .pointer (some ⟨mb + 1 + 1 + 1, 0, none⟩), c14, c15, c16, c17, c18, c19, c20, c21, c22, c23, c24, c25, c26, c27, c28, c29, c30, c31, c32, c33, c34, c35, c36, c37, c38, c39, c40, c41, c42, c43, c44, c45, c46, c47, c48, c49, c50, c51, c52, c53, c54, c55, c56, c57, c58, c59, c60, c61, c62, c63, c64, c65, c66, c67, c68, c69, c70, c71, c72, c73, c74, c75, c76, c77, c78, c79, c80, c81, c82, c83, c84, c85, c86, c87, c88, c89, c90, c91, c92, c93, c94, c95, c96, c97, c98, c99, c100, c101, c102, c103, c104, c105, c106, c107, c108, c109, c110, c111, c112, c113, c114, c115, c116, c117, c118, c119, c120, c121, c122, c123, c124, c125, c126, c127, c128, c129, c130, c131, c132, c133, c134, c135, c136, c137, c138, c139, c140, c141, c142, c143, c144, c145, c146, c147, c148, c149, c150, c151, c152, c153, c154, c155, c156, c157, c158, c159, c160, c161, c162, c163, c164, c165, c166, c167, c168, c169, c170, c171, c172, c173, c174, c175, c176, c177, c178, c179, c180, c181, c182, c183, c184, c185, c186, c187, c188, c189, c190, c191, c192, c193, c194, c195, c196, c197, c198, c199, c200, c201, c202, c203, c204, c205, c206, c207, c208, c209, c210, c211, c212, c213, c214, c215, c216, c217, c218, c219, c220, c221, c222, c223, c224, c225, c226, c227, c228, c229, c230, c231, c232, c233, c234, c235, c236, c237, c238, c239, c240, c241, c242, c243, c244, c245, c246, c247, c248, c249, c250, c251, c252, c253, c254, c255, c256, c257, c258, c259, c260, c261, c262, c263, c264, c265, c266, c267, c268, c269, c270, c271, c272, c273, c274, c275, c276, c277, c278, c279, c280, c281, c282], defers := [] } X := by
  conv => arg 2; whnf
  have hrefl := adj0_refl n kS eS
  have hR0 : Hid (Rc X n (partM (adj0 n kS eS) 0 0) (X.alloc (.cells #[.bool false, .bool false, .bool false, .bool false, .bool false, .bool false, .bool false, .bool false, .bool false, .bool false, .bool false, .bool false, .bool false, .bool false, .bool false, .bool false, .bool false, .bool false, .bool false, .bool false, .bool false, .bool false, .bool false, .bool false, .bool false, .bool false, .bool false, .bool false, .bool false, .bool false, .bool false, .bool false, .bool false, .bool false, .bool false, .bool false] 49))) := ⟨Mat.new X n hn6 _ (partM_start _), (Below.refl _ X).alloc (Nat.le_refl _) _⟩
  have HBd := hideT hBd
  have hmA := hideT hBd.mA
  have hmE := hideT hBd.mE
  have hltA := hBd.mA.lt
  have hltE := hBd.mE.lt
  clear hBd
  go_upto_block 10 with fail
  go_cut [27, 28] from 194 to 217 (fun _ _ wx => Rc X n (adj0 n kS eS) wx)
  case first =>
    go_wp2_with fail
    go_loopw [27] (fun s27 wr => ∃ i : Nat, i ≤ n ∧ s27 = .int .i64 i ∧ Rc X n (partM (adj0 n kS eS) i 0) wr) (fun s27 _ => 100 - (intOf s27).toNat)
    case atStart => exact ⟨0, Nat.zero_le _, rfl, unhideT hR0⟩
    case round =>
      clear hR0
      obtain ⟨i, hi', rfl, hRc⟩ := hrel
      by_cases hin : i < n
      · have hneg : ¬ (i : Int) < 0 := by omega
        have hi6 : (i : Int) < 6 := by omega
        have HRc := hideT hRc
        clear hRc
        go_wp2
        go_loopw [28] (fun s28 wq => ∃ j : Nat, j ≤ n ∧ s28 = .int .i64 j ∧ Rc X n (partM (adj0 n kS eS) i j) wq) (fun s28 _ => 100 - (intOf s28).toNat)
        case atStart => exact ⟨0, Nat.zero_le _, rfl, unhideT HRc⟩
        case round =>
          clear HRc
          obtain ⟨j, hj', rfl, hRc⟩ := hrel
          by_cases hjn : j < n
          · have hjneg : ¬ (j : Int) < 0 := by omega
            have hj6 : (j : Int) < 6 := by omega
            have cA := (hRc.mat (unhideT hmA)).cel i j hin hjn
            rw [lowA_all hin] at cA
            have cR := hRc.mR.cel i j hin hjn
            have fR := hRc.mR.frozen (i * 6 + j)
            have hstep := hideT ((hRc.set (v := adj0 n kS eS i j) hn6 hin hjn (fun a b _ _ => partM_step (adj0 n kS eS) i j a b)).drew)
            clear hRc
            cases hx : names n (kS i ++ eS i) j with
            | true =>
              rw [hx] at cA
              have hv : adj0 n kS eS i j = true := by simp [adj0, hx]
              rw [hv] at hstep
              go_wp2
              apply cutP
              · intro Y
                go_region
                all_goals exact Y
              · go_wp2
                exact ⟨⟨j + 1, by omega, rfl, unhideT hstep⟩, by simp [intOf]; omega⟩
            | false =>
              rw [hx] at cA
              by_cases hij : i = j
              · subst hij
                have hv : adj0 n kS eS i i = true := by simp [adj0]
                rw [hv] at hstep
                go_wp2
                apply cutP
                · intro Y
                  go_region
                  all_goals exact Y
                · go_wp2
                  exact ⟨⟨i + 1, by omega, rfl, unhideT hstep⟩, by simp [intOf]; omega⟩
              · have hv : adj0 n kS eS i j = false := by simp [adj0, hx, hij]
                have hb : ((i : Int) == j) = false := by simp; omega
                rw [hv] at hstep
                go_wp2
                apply cutP
                · intro Y
                  go_region
                  all_goals exact Y
                · go_wp2
                  exact ⟨⟨j + 1, by omega, rfl, unhideT hstep⟩, by simp [intOf]; omega⟩
          · obtain rfl : j = n := by omega
            have hnx := hideT (hRc.ext (fun a b _ hb => partM_row (i := i) hb))
            clear hRc
            go_wp2
            exact ⟨⟨i + 1, by omega, rfl, unhideT hnx⟩, by simp [intOf]; omega⟩
      · obtain rfl : i = n := by omega
        have hnx := hideT (hRc.ext (fun a b ha _ => partM_all ha))
        clear hRc
        go_wp2
        go_meet
        exact unhideT hnx
  case rest =>
    have hR1 : Hid (Rc X n (clo (adj0 n kS eS) 0) wc) := hcut
    clear hcut hR0
    go_upto_block 14 with fail
    go_cut [29, 30, 31] from 218 to 248 (fun _ _ _ wx => Rc X n (clo (adj0 n kS eS) n) wx)
    case first =>
      go_wp2_with fail
      go_loopw [29] (fun s29 wr => ∃ k : Nat, k ≤ n ∧ s29 = .int .i64 k ∧ Rc X n (clo (adj0 n kS eS) k) wr) (fun s29 _ => 100 - (intOf s29).toNat)
      case atStart => exact ⟨0, Nat.zero_le _, rfl, unhideT hR1⟩
      case round =>
        clear hR1
        obtain ⟨k, hk', rfl, hRc⟩ := hrel
        by_cases hkn : k < n
        · have hkneg : ¬ (k : Int) < 0 := by omega
          have hk6 : (k : Int) < 6 := by omega
          have HRc := hideT (hRc.ext (fun a b _ _ => (mixM_start (adj0 n kS eS) k a b).symm))
          clear hRc
          go_wp2
          go_loopw [30] (fun s30 wq => ∃ i : Nat, i ≤ n ∧ s30 = .int .i64 i ∧ Rc X n (mixM (adj0 n kS eS) k i 0) wq) (fun s30 _ => 100 - (intOf s30).toNat)
          case atStart => exact ⟨0, Nat.zero_le _, rfl, unhideT HRc⟩
          case round =>
            clear HRc
            obtain ⟨i, hi', rfl, hRc⟩ := hrel
            by_cases hin : i < n
            · have hneg : ¬ (i : Int) < 0 := by omega
              have hi6 : (i : Int) < 6 := by omega
              have HRc := hideT hRc
              clear hRc
              go_wp2
              go_loopw [31] (fun s31 wp => ∃ j : Nat, j ≤ n ∧ s31 = .int .i64 j ∧ Rc X n (mixM (adj0 n kS eS) k i j) wp) (fun s31 _ => 100 - (intOf s31).toNat)
              case atStart => exact ⟨0, Nat.zero_le _, rfl, unhideT HRc⟩
              case round =>
                clear HRc
                obtain ⟨j, hj', rfl, hRc⟩ := hrel
                by_cases hjn : j < n
                · have hjneg : ¬ (j : Int) < 0 := by omega
                  have hj6 : (j : Int) < 6 := by omega
                  have c1 := hRc.mR.cel i k hin hkn
                  rw [mixM_col hrefl] at c1
                  have c2 := hRc.mR.cel k j hkn hjn
                  rw [mixM_krow hrefl] at c2
                  cases h1 : clo (adj0 n kS eS) k i k with
                  | false =>
                    rw [h1] at c1
                    have hnx := hideT (hRc.ext (fun a b _ _ => mixM_miss (i := i) (j := j) (k := k) (by rw [h1]; rfl) a b))
                    clear hRc
                    go_wp2
                    exact ⟨⟨j + 1, by omega, rfl, unhideT hnx⟩, by simp [intOf]; omega⟩
                  | true =>
                    rw [h1] at c1
                    cases h2 : clo (adj0 n kS eS) k k j with
                    | false =>
                      rw [h2] at c2
                      have hnx := hideT (hRc.ext (fun a b _ _ => mixM_miss (i := i) (j := j) (k := k) (by rw [h1, h2]; rfl) a b))
                      clear hRc
                      go_wp2
                      exact ⟨⟨j + 1, by omega, rfl, unhideT hnx⟩, by simp [intOf]; omega⟩
                    | true =>
                      rw [h2] at c2
                      have cR := hRc.mR.cel i j hin hjn
                      have fR := hRc.mR.frozen (i * 6 + j)
                      have hnx := hideT (hRc.set (v := true) hn6 hin hjn (fun a b _ _ => mixM_hit h1 h2 a b))
                      clear hRc
                      go_wp2
                      exact ⟨⟨j + 1, by omega, rfl, unhideT hnx⟩, by simp [intOf]; omega⟩
                · obtain rfl : j = n := by omega
                  have hnx := hideT (hRc.ext (fun a b _ hb => mixM_row (k := k) (i := i) hb))
                  clear hRc
                  go_wp2
                  exact ⟨⟨i + 1, by omega, rfl, unhideT hnx⟩, by simp [intOf]; omega⟩
            · obtain rfl : i = n := by omega
              have hnx := hideT (hRc.ext (fun a b ha _ => mixM_all ha))
              clear hRc
              go_wp2
              exact ⟨⟨k + 1, by omega, rfl, unhideT hnx⟩, by simp [intOf]; omega⟩
        · obtain rfl : k = n := by omega
          have HRc := hideT hRc
          clear hRc
          go_wp2
          go_meet
          exact unhideT HRc
    case rest =>
      obtain ⟨r, hr⟩ : ∃ r : Nat, which % (n : Int) = r := ⟨(which % (n : Int)).toNat, by have := Int.emod_nonneg which (show (n : Int) ≠ 0 by omega); omega⟩
      have hrn : r < n := by have := Int.emod_lt_of_pos which (show (0 : Int) < n by omega); omega
      have hrneg : ¬ (r : Int) < 0 := by omega
      have hr6 : (r : Int) < 6 := by omega
      have hR2 := hcut
      clear hcut hR1
      obtain ⟨W5, hW5⟩ : ∃ W5, W5 = wc := ⟨_, rfl⟩
      subst hW5
      have hE5 := hR2.mat (unhideT hmE)
      go_upto_block 20 with fail
      rw [hr]
      go_cut [33, 34] from 253 to 269 (fun s33 _ wx => wx = W5 ∧ s33 = .bool (anyUp n kS eS r n))
      case first =>
        go_wp2_with fail
        go_loopw [33, 34] (fun s33 s34 wr => wr = W5 ∧ ∃ s : Nat, s ≤ n ∧ s34 = .int .i64 s ∧ s33 = .bool (anyUp n kS eS r s)) (fun _ s34 _ => 100 - (intOf s34).toNat)
        case atStart => exact ⟨rfl, 0, Nat.zero_le _, rfl, rfl⟩
        case round =>
          obtain ⟨rfl, s, hs', rfl, rfl⟩ := hrel
          by_cases hsn : s < n
          · have hsneg : ¬ (s : Int) < 0 := by omega
            have hs6 : (s : Int) < 6 := by omega
            have c1 := hE5.cel r s hrn hsn
            rw [lowE_all hrn] at c1
            have c2 := hR2.mR.cel s r hsn hrn
            have hup := anyUp_succ n kS eS r s
            cases h1 : names n (eS r) s with
            | false =>
              rw [h1] at c1 hup
              simp only [Bool.false_and, Bool.or_false] at hup
              have hup' := hideT hup
              clear hup
              go_wp2
              exact ⟨⟨trivial, s + 1, by omega, rfl, by rw [unhideT hup']⟩, by simp [intOf]; omega⟩
            | true =>
              cases h2 : clo (adj0 n kS eS) n s r with
              | false =>
                rw [h1] at c1 hup
                rw [h2] at c2 hup
                simp only [Bool.and_false, Bool.or_false] at hup
                have hup' := hideT hup
                clear hup
                go_wp2
                exact ⟨⟨trivial, s + 1, by omega, rfl, by rw [unhideT hup']⟩, by simp [intOf]; omega⟩
              | true =>
                rw [h1] at c1 hup
                rw [h2] at c2 hup
                simp only [Bool.and_true, Bool.or_true] at hup
                have hup' := hideT hup
                clear hup
                go_wp2
                exact ⟨⟨trivial, s + 1, by omega, rfl, by rw [unhideT hup']⟩, by simp [intOf]; omega⟩
          · obtain rfl : s = n := by omega
            go_wp2
            go_meet
            exact ⟨rfl, rfl⟩
      case rest =>
        obtain ⟨hwc, rfl⟩ := hcut
        subst hwc
        obtain ⟨W5, hW5⟩ : ∃ W5, W5 = wc := ⟨_, rfl⟩
        subst hW5
        have hBd := unhideT HBd
        obtain ⟨f, rb, hmap, hrels⟩ := hBd.pre.rels
        have hv : (fn r).val = r := fn_val (by omega)
        obtain ⟨r1, r2, r3, tv0, th, r4, r5⟩ := hrels (fn r) (by rw [hv]; exact hrn)
        have hbX := hR2.bel
        have hbw : Below w.heap.size w W5 := hBd.pre.bel.trans (hbX.mono hBd.pre.bel.size)
        have hgX := hBd.pre.graph (fun k _ => exact_names hn6 (opN_le oB) k)
        have hg : Graph W5.drew.heap.size W5.drew (mb + 1) (fun k => decide (k.val < n) = true) (exactL n (opN oB) kS eS) := (hgX.below hbX.drew).mono hbX.size
        have hchk := check_in FI 10 (by omega) (mb + 1) (rb (fn r)) (fun k => decide (k.val < n)) (exactL n (opN oB) kS eS) (fn r) W5.drew (by have := hbw.tape; rw [show W5.drew.tape = w.tape from this]; exact hF) hg (Nat.lt_of_lt_of_le r2 hbX.size) ((hbX.cell (p := ⟨rb (fn r), 0, none⟩) r2).trans r3) tv0 th ((hbX.cell (p := ⟨rb (fn r), 2, none⟩) r2).trans r4) ((r5.below hbX.drew).mono hbX.size)
          (fun x hx k hk => by obtain ⟨o, st⟩ := x; cases hk; exact decide_eq_true (exact_names hn6 (opN_le oB) (fn r) k st hx))
        have hlook := (hmap.of_block (hbX.block _ hBd.pre.hmb)).drew.look1 Ybaf.underlying44 (zero61 _) (nm (fn r)) (nm_size _)
        simp only [r1, Option.getD_some] at hlook
        have ctb : W5.cell? ⟨mb + 1, 2, none⟩ = some (.map (some mb)) := (hbX.cell (p := ⟨mb + 1, 2, none⟩) hBd.pre.htb).trans hBd.pre.cell
        have hnr := hideT (name_any r (by omega))
        have hcb : Bad (exactL n (opN oB) kS eS) (fn r) (exactL n (opN oB) kS eS (fn r)) ↔ anyUp n kS eS r n = true := (exact_bad hn6 (opN_le oB) hrn).trans (anyUp_iff n kS eS r).symm
        have Hbw := hideT hbw
        clear hg hgX hrels r5 hBd HBd hmap hR2 hE5 hbX hmA hmE
        cases hany : anyUp n kS eS r n with
        | true =>
          have hc2 := hideT ((callsIn_wide.1 hchk).mono (R' := fun e w' => (∃ t v, e = .returned (.iface t v)) ∧ Below W5.drew.heap.size W5.drew w') (fun e w' ⟨hb, h⟩ => by
            rcases h with ⟨hnb, _⟩ | ⟨_, h⟩
            · exact absurd (hcb.2 hany) hnb
            · exact ⟨h, hb⟩))
          clear hchk hcb
          go_wp2
          go_region_with (first | (go_at_call 9; refine (unhideT hnr _).mono ?_; rintro e w' ⟨rfl, hw'⟩; obtain rfl := hw'.symm) | (go_at_call 11; refine (unhideT hc2).mono ?_; rintro e w' ⟨⟨t, v, rfl⟩, hb⟩))
          all_goals go_wp2
          all_goals go_ret
          all_goals exact ⟨rfl, (unhideT Hbw).drew.trans (hb.mono (unhideT Hbw).size)⟩
        | false =>
          have hc2 := hideT ((callsIn_wide.1 hchk).mono (R' := fun e w' => e = .returned .nilIface ∧ Below W5.drew.heap.size W5.drew w') (fun e w' ⟨hb, h⟩ => by
            rcases h with ⟨_, h⟩ | ⟨hbad, _⟩
            · exact ⟨h, hb⟩
            · exact absurd (hcb.1 hbad) (by rw [hany]; decide)))
          clear hchk hcb
          go_wp2
          go_region_with (first | (go_at_call 9; refine (unhideT hnr _).mono ?_; rintro e w' ⟨rfl, hw'⟩; obtain rfl := hw'.symm) | (go_at_call 11; refine (unhideT hc2).mono ?_; rintro e w' ⟨rfl, hb⟩))
          all_goals go_wp2
          all_goals go_ret
          all_goals exact ⟨rfl, (unhideT Hbw).drew.trans (hb.mono (unhideT Hbw).size)⟩
end Go.Proofs.YbulkdblgFmt
