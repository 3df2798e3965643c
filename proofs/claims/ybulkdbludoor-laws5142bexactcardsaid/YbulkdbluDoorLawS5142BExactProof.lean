/-
  'Rows.LawS5142BExactCardSaid': the arguments and the listed sentinel opened, the row lifted (the walk out of YbulkdbluDoorFf), the tied card closed by the given tie.
-/
import Derived.Test.YbulkdbluDoorRows
import Derived.Test.YbulkdbluDoorCards
import Derived.Test.YbulkdbluDoorTie
import Derived.Test.YbulkdbluDoorFf
import Derived.ProofKit
import Derived.OpenShut
import Derived.ChangeSame
import Derived.ChangeVars
import Derived.ChangeOld
import Derived.JoinedOf
import Derived.RowKit
import Derived.RowKitTokens
import Derived.LaidLaws
import Derived.LaidMore
import Derived.LaidEql
import Derived.Stop.LaidErr
import Derived.Stop.Joined
import Derived.SevenTiedAt
import Derived.Below
namespace Go.Proofs.YbulkdbluDoor.lawS5142BExact
open Go.ChangeShapes Go.WideShapes Go.ChangeAt Go.RowKit
set_option linter.unusedVariables false

theorem own : ownKnob Ybad.prog.godebug = none := by kernel_rfl
theorem laidOut : laidOutB Ybad.prog = true := by kernel_rfl
/-- The variable's name, as the specification has it. -/
abbrev vN : String := Rows.lawS5142BExactSpec.vars.headD default
theorem gV : Ybad.prog.globalNamed vN = some 0 := by kernel_rfl
theorem gT : (Ybad.prog.globals[0]?).map (·.type) = some 31 := by kernel_rfl
/-- The type's name in the listed datum. -/
abbrev nmE : String := match (Rows.laid_example_com_sinefold_sinefold_errNoPredictor : DataW Unit) with
  | .iface n _ => n
  | _ => default
theorem cells61 : Ybad.prog.cellsOf 61 = 1 := by kernel_rfl
theorem cells9 : Ybad.prog.cellsOf 9 = 1 := by kernel_rfl
theorem row59 (u : TypeId) (h : Ybad.prog.typeName? 3 u = some nmE) : u = 59 :=
  typeName_ptr_named (nm := "errors.errorString") (by kernel_rfl) (by kernel_rfl) (by decide) u (h.trans (by kernel_rfl))

/-- The door's own heap meets the condition. -/
theorem door_met (os : Os) (args : Array Value) : laidMetH Ybad.prog Rows.lawS5142BExactRow.laid ((World.doorLaid Ybad.prog 47 os).forCall (fun _ _ => 0) ⟨#[], args, []⟩).memory :=
  laidMetH_of_parts3 (fuel := 8) (laidMet_of_run' 8 (by kernel_rfl) (by kernel_rfl)) (by kernel_rfl) (by kernel_rfl)

theorem of_laid {W : World} (h : laidMetH Ybad.prog Rows.lawS5142BExactRow.laid W) : ∃ a, W.var? Ybad.prog vN = some #[.iface 59 (.pointer (some a))] := by
  rw [MakeChecks.laidMetH_plain _ _ _ (by kernel_rfl)] at h
  have h' : laidMet Ybad.prog [(vN, Rows.laid_example_com_sinefold_sinefold_errNoPredictor)] W := h
  obtain ⟨a, s, hv, _⟩ := laid_sentinel h' gV gT Ybad.underlying31 row59 Ybad.underlying59 Ybad.underlying61 rfl rfl Ybad.underlying9 cells61 cells9
  exact ⟨a, hv⟩

theorem info59 : (Ybad.prog.info? 59).map (·.comparable) = some true := by kernel_rfl
theorem info61 : (Ybad.prog.info? 61).isSome = true := by kernel_rfl
theorem neq_same (a : Addr) (W : World) : (binOp .neq 31 (.iface 59 (.pointer (some a))) (.iface 59 (.pointer (some a)))).run Ybad.prog W = .ok (.bool false) W := by
  obtain ⟨i, hi, hc⟩ := Option.map_eq_some_iff.1 info59
  obtain ⟨j, hj⟩ := Option.isSome_iff_exists.1 info61
  simp only [binOp]
  simp [Op.equal, Op.maxDepth, run_equalIn_iface_ptr_same W 9998 a Ybad.underlying31 Ybad.underlying59 hi hc hj]
theorem guard_same (a : Addr) (W : World) (x y : Operand) : (eqGuard .neq 31 x y (.iface 59 (.pointer (some a))) (.iface 59 (.pointer (some a)))).run Ybad.prog W = .ok () W := by
  simp [eqGuard]

theorem var_below {W W' : World} {n : String} {cs : Array Value} (h : W.var? Ybad.prog n = some cs) (hb : Below W.heap.size W W') : W'.var? Ybad.prog n = some cs := by
  unfold World.var? at h ⊢
  cases hg : Ybad.prog.globalNamed n with
  | none => simp [hg] at h
  | some g =>
    simp only [hg, Option.bind_some] at h ⊢
    have hlt : g < W.heap.size := by
      rcases Nat.lt_or_ge g W.heap.size with h' | h'
      · exact h'
      · simp [Array.getElem?_eq_none h'] at h
    rw [hb.block g hlt]
    exact h

/-- What the walk is told of the slice of int32 that came in. -/
def IsRow (w : World) (a : Option Addr) (n : Nat) : Prop :=
  ∃ (b off : Nat) (c : Nat → Int), n ≤ 9223372036854775807 ∧ (0 < n → b < w.heap.size) ∧ (0 < n → a = some ⟨b, off, none⟩) ∧ (∀ i, i < n → w.cell? ⟨b, off + i, none⟩ = some (.int .i32 (c i))) ∧ ∀ i, i < n → -2147483648 ≤ c i ∧ c i ≤ 2147483647

set_option maxRecDepth 100000 in
theorem lifted (os : Os) (started : os.Started) (H : Type) (enc : TypeId × Value → H) :
    ReturnsInHanded {} Ybad.checked os 3 .any (fun w args => (Rows.lawS5142BExactSpec.pre enc Ybad.prog Ybad.f3 [] false w args ∧ laidMetH Ybad.prog Rows.lawS5142BExactRow.laid w) ∧ sizedMet enc Ybad.prog Ybad.f3 (OpenSpec.ofChange Rows.lawS5142BExactSpec) false w args)
      (Rows.lawS5142BExactSpec.post enc Ybad.prog Ybad.f3 false true false false) := by
  refine returnsInHanded_of_change_and (C := Ybad.checked) (X := fun w _ => laidMetH Ybad.prog Rows.lawS5142BExactRow.laid w) (fun _ _ _ hh h => h.of_heap hh) own started (by kernel_rfl) Ybad.func3
    (ChangeSpec.witness_shaped (enc := enc) (C := Ybad.checked) (os := os) (X := fun w _ => laidMetH Ybad.prog Rows.lawS5142BExactRow.laid w) false (World.doorLaid Ybad.prog 47 os) #[.slice none 0 0, .int .u8 0, .int .u8 0] 8 rfl (World.shaped_of_RefB (by kernel_rfl) (by kernel_rfl)) (by kernel_rfl) (by kernel_rfl) (by kernel_rfl) (door_met os _)) ?_
  intro W base args ds gs before hval0 hW _ _ hL _
  have hval : ∀ (j : Nat) t v, Ybad.f3.params[j]? = some t → args[j]? = some v → Value.okWide Ybad.prog W .any base t v := hval0
  have hW' := hW
  obtain ⟨p, q, hA0, hV0, rfl, hfz, hnd⟩ := hW
  have hA : DataW.TrodAll enc Ybad.prog W 0 (fun _ => true) true Ybad.f3.params.toList args.toList ds p := hA0
  have hV : DataW.TrodVars enc Ybad.prog W (fun _ => true) [vN] gs q := hV0
  rw [Ybad.params3] at hA hval
  obtain ⟨v0, vs0, d0, ds0, p0, q0, hargs, rfl, rfl, h0, r0⟩ := trodAll_cons hA
  obtain ⟨v1, vs1, d1, ds1, p1, q1, rfl, rfl, rfl, h1, r1⟩ := trodAll_cons r0
  obtain ⟨v2, vs2, d2, ds2, p2, q2, rfl, rfl, rfl, h2, r2⟩ := trodAll_cons r1
  obtain ⟨rfl, rfl, rfl⟩ := trodAll_nil r2
  obtain rfl : args = #[v0, v1, v2] := by cases args; simp_all
  obtain ⟨a0, len0, cap0, rfl⟩ := okWide_slice Ybad.underlying22 (hval 0 22 v0 rfl rfl)
  have k0 := h0
  have lt0 : ∀ x ∈ p0, x.block < W.heap.size := by obtain ⟨m, hm⟩ := k0; exact DataW.trod_lt m _ _ _ hm
  have w0 : IsRow W a0 len0 := by
    obtain ⟨fuel, hf⟩ := h0
    rcases open_ints Ybad.underlying22 Ybad.underlying21 (by kernel_rfl) hf with ⟨hcs, _⟩ | ⟨x, l, c, zs, hcs, _, hl, hm, hz, _, hcell, hwz⟩
    · simp [Value.cells] at hcs
      obtain ⟨rfl, rfl, rfl⟩ := hcs
      exact ⟨0, 0, fun _ => 0, by omega, fun h => by omega, fun h => by omega, fun i hi => by omega, fun i hi => by omega⟩
    · simp [Value.cells] at hcs
      obtain ⟨rfl, rfl, rfl⟩ := hcs
      rcases Nat.eq_zero_or_pos len0 with hz0 | hpos
      · exact ⟨0, 0, fun _ => 0, by omega, fun h => by omega, fun h => by omega, fun i hi => by omega, fun i hi => by omega⟩
      · have hzl : zs.length = cap0 := by simpa using hz
        obtain ⟨b, off, rfl, hc⟩ := ints_at hcell (by omega)
        refine ⟨b, off, fun i => zs.getD i 0, by unfold maxLen at hm; omega, fun _ => ?_, fun _ => rfl, fun i hi => hc i (by omega), fun i hi => ?_⟩
        · rcases Nat.lt_or_ge b W.heap.size with h | h
          · exact h
          · have := hc 0 (by omega)
            simp [World.cell?, Array.getElem?_eq_none h] at this
        · have hmem : zs.getD i 0 ∈ zs := by
            have hi' : i < zs.length := by omega
            rw [show zs.getD i 0 = zs[i] by simp [List.getD, hi']]
            exact List.getElem_mem hi'
          exact bounds_i32 (hwz _ hmem)
  obtain ⟨a1, rfl, rfl, rfl, w1⟩ := open_int Ybad.underlying5 (hval 1 5 v1 rfl rfl) h1
  obtain ⟨a2, rfl, rfl, rfl, w2⟩ := open_int Ybad.underlying5 (hval 2 5 v2 rfl rfl) h2
  obtain ⟨pe, hv⟩ := of_laid hL
  obtain ⟨rfl, rfl⟩ := hV.unique (vars_read1 enc gV gT Ybad.underlying31 hv trivial _)
  clear hA0 hV0 hval0
  have hg0 : W.cell? ⟨0, 0, none⟩ = some (.iface 59 (.pointer (some pe))) := by simpa using World.var?_cell gV hv 0
  have hw0 : 0 < W.heap.size := by
    rcases Nat.eq_zero_or_pos W.heap.size with h | h
    · simp [World.cell?, Array.getElem?_eq_none (show W.heap.size ≤ 0 by omega)] at hg0
    · exact h
  obtain ⟨b, off, c, t1, t2, t3, t4, t5⟩ := w0
  have b1 := bounds_u8 w1
  have b2 := bounds_u8 w2
  refine (law_walk a0 len0 cap0 b off c a1 a2 _ W (neq_same pe) (guard_same pe) hw0 t1 b1.1 b1.2 b2.1 b2.2 t2 t3 t4 t5 hg0).mono fun e W' ⟨he, bel⟩ => ?_
  subst he
  refine ⟨_, rfl, _, _, _, [], _, [.cell 0 0], hW', trodAll_mk1 (shut_bool Ybad.underlying4 _), (trodAll_cons_mk (Below.trod laidOut (by kernel_rfl) (of_decide_eq_true (by kernel_rfl)) k0 bel lt0) (trodAll_cons_mk (shut_int Ybad.underlying5 w1) (trodAll_cons_mk (shut_int Ybad.underlying5 w2) trodAll_mk0))), vars_read1 enc gV gT Ybad.underlying31 (var_below hv bel) trivial _, bel.frame _, fun h => by cases h⟩

theorem said : Rows.LawS5142BExactSaid :=
  OpenClaim.holds_of_wide 3 Ybad.f3 rfl rfl rfl rfl rfl rfl rfl ⟨rfl, rfl, rfl, rfl, rfl⟩ rfl rfl rfl rfl rfl (by kernel_rfl) Ybad.func3 (by kernel_rfl)
    (of_decide_eq_true (by kernel_rfl)) (by unfold Func.isWrapper; first | (rw [if_pos (by decide +kernel)]; kernel_rfl) | (rw [if_neg (by decide +kernel)]; exact ⟨rfl, rfl⟩))
    (fun os started H enc _ => lifted os started H enc)

/-- ████ THE STATEMENT ████ -/
theorem proved : Rows.LawS5142BExactCardSaid :=
  Claim7.holds_tied_plain_at .later [] [.sentinel] true (true, "91676afe8bdd1e3f1f0c21ccc876c7e02ccacfb8b4eeee5acbc3d5e6ca98e8a7") true
    said (fun _ h => by cases h) (by kernel_rfl) (fun _ h => by cases h) lawS5142BExact_row_tie rfl ⟨rfl, rfl⟩ (by kernel_rfl) rfl
    (fun f fn hf hfn => by
      obtain rfl : f = 3 := Option.some.inj ((show Ybad.prog.funcNamed Rows.lawS5142BExactRow.func = some 3 by kernel_rfl).symm.trans hf) |>.symm
      obtain rfl : fn = Ybad.f3 := (Option.some.inj (Ybad.func3.symm.trans hfn)).symm
      exact ⟨by kernel_rfl, fun j t ht => by
        rw [Ybad.params3] at ht
        have h3 : t = 22 ∨ t = 5 := by
          rcases j with _ | _ | _ | j
          · exact Or.inl (by simpa using ht.symm)
          · exact Or.inr (by simpa using ht.symm)
          · exact Or.inr (by simpa using ht.symm)
          · simp at ht
        rcases h3 with rfl | rfl
        · exact (show Ybad.prog.wantsStandIn 22 = false by kernel_rfl)
        · exact (show Ybad.prog.wantsStandIn 5 = false by kernel_rfl)⟩)
    (by kernel_rfl)
end Go.Proofs.YbulkdbluDoor.lawS5142BExact
