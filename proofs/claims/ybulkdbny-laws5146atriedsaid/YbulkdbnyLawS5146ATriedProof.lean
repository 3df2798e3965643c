/-
  'Rows.LawS5146ATriedSaid' ('sched.LawS5146ATried'), in the frame that the kit's tool writes for this function; the walk out of YbulkdbnyTa.
-/
import Derived.Test.YbulkdbnyRows
import Derived.Test.YbulkdbnyTa
import Derived.WalkKit
import Derived.ProofKit
import Derived.OpenShut
import Derived.ShutString
import Derived.ChangeOld
import Derived.Below
namespace Go.Proofs.Ybulkdbny.lawS5146ATried
open Go.ChangeShapes Go.WideShapes Go.ChangeAt Go.RowKit
open Go.ChangeMaps (open_string shut_string)
set_option linter.unusedVariables false

theorem own : ownKnob Yba.prog.godebug = none := by kernel_rfl
theorem laidOut : laidOutB Yba.prog = true := by kernel_rfl

/-- WHAT THE WALK IS TOLD OF A SLICE OF INTEGERS THAT CAME IN: it is nil; or it leads to a row of 'cap' cells, the numbers 'zs' (the first 'len' are its elements, the rest its spare room), each fitting its kind. -/
def IsRow (k : IntKind) (w : World) (a : Option Addr) (len cap : Nat) (zs : List Int) : Prop :=
  (a = none ∧ len = 0 ∧ cap = 0 ∧ zs = []) ∨
  ∃ x, a = some x ∧ len ≤ cap ∧ cap ≤ maxLen ∧ zs.length = cap ∧ (∀ i, i < zs.length → w.cell? (x.add i) = some (.int k (zs.getD i 0))) ∧ ∀ n ∈ zs, (Lit.int k n).wf = true

theorem row_parts {w : World} {a : Option Addr} {len cap : Nat} {zs : List Int} (h : IsRow .i64 w a len cap zs) :
    ∃ b off, (0 < len → b < w.heap.size) ∧ (0 < len → a = some ⟨b, off, none⟩) ∧ ∀ i, i < len → w.cell? ⟨b, off + i, none⟩ = some (.int .i64 (zs.getD i 0)) := by
  rcases h with ⟨rfl, rfl, rfl, rfl⟩ | ⟨x, rfl, h1, h2, h3, h4, h5⟩
  · exact ⟨0, 0, fun h => by omega, fun h => by omega, fun i hi => by omega⟩
  · rcases Nat.eq_zero_or_pos len with h0 | hpos
    · exact ⟨0, 0, fun h => by omega, fun h => by omega, fun i hi => by omega⟩
    · obtain ⟨b, off, rfl, hc⟩ := ints_at h4 (by omega)
      refine ⟨b, off, fun _ => ?_, fun _ => rfl, fun i hi => hc i (by omega)⟩
      rcases Nat.lt_or_ge b w.heap.size with h | h
      · exact h
      · have := hc 0 (by omega)
        simp [World.cell?, Array.getElem?_eq_none h] at this

/-! ### STEP 1: THE WALK: the Go text returns true, AND WRITES NOTHING THAT WAS THERE: 'Below w.heap.size w w'' (Derived/Below.lean: '.refl', '.alloc', '.drew', '.setCell' at a new block, '.trans'). Open each 'IsRow' by 'rcases' AHEAD of 'go_enter'; part every test ahead of the walk. -/
theorem walk (a0 : Option Addr) (len0 cap0 : Nat) (z0 : List Int) (a1 : Option Addr) (len1 cap1 : Nat) (z1 : List Int) (a2 : Int) (a3 : Int) (w : World) (w0 : IsRow .i64 w a0 len0 cap0 z0) (w1 : IsRow .i64 w a1 len1 cap1 z1) (w2 : (Lit.int .u8 a2).wf = true) (w3 : (Lit.int .i64 a3).wf = true) :
    Calls Yba.prog 3 #[.slice a0 len0 cap0, .slice a1 len1 cap1, .int .u8 a2, .int .i64 a3] w fun e w' => e = .returned (.bool true) ∧ Below w.heap.size w w' := by
  have b2 := bounds_u8 w2
  by_cases hl : (1024 : Int) < len0 ∨ (1024 : Int) < len1
  · exact tried_long a0 a1 len0 cap0 len1 cap1 a2 a3 w hl
  by_cases hk : a3 < -2048 ∨ 2048 < a3
  · exact tried_far a0 a1 len0 cap0 len1 cap1 a2 a3 w (by omega) (by omega) hk
  obtain ⟨b0, off0, p1, p2, p3⟩ := row_parts w0
  have hn : len0 ≤ 1024 := by omega
  have hm : len1 ≤ 1024 := by omega
  have ho : (a2 % 3 == 1) = true ∨ (a2 % 3 == 1) = false := by cases (a2 % 3 == 1) <;> simp
  cases a1 with
  | none =>
    have h10 : len1 = 0 := by
      rcases w1 with ⟨_, h, _⟩ | ⟨x, h, _⟩
      · exact h
      · cases h
    subst h10
    rcases ho with ho | ho
    · by_cases hs : a3 < 0
      · exact law_z_nn a0 len0 cap0 b0 off0 _ cap1 a2 a3 w hn p1 p2 p3 b2.1 b2.2 ho hs (by omega)
      · exact law_z_pn a0 len0 cap0 b0 off0 _ cap1 a2 a3 w hn p1 p2 p3 b2.1 b2.2 ho (by omega) (by omega)
    · exact law_z_o a0 len0 cap0 b0 off0 _ cap1 a2 a3 w hn p1 p2 p3 b2.1 b2.2 ho (by omega) (by omega)
  | some x1 =>
    obtain ⟨b1, off1, q1, q2, q3⟩ := row_parts w1
    rcases ho with ho | ho
    · by_cases hs : a3 < 0
      · by_cases hkm : -a3 - 1 < len1
        · exact law_s_ny a0 len0 cap0 b0 off0 _ x1 len1 cap1 b1 off1 _ a2 a3 w hn p1 p2 p3 hm q1 q2 q3 b2.1 b2.2 ho hs (by omega) hkm
        · exact law_s_nn a0 len0 cap0 b0 off0 _ x1 len1 cap1 b1 off1 _ a2 a3 w hn p1 p2 p3 hm q1 q2 q3 b2.1 b2.2 ho hs (by omega) (by omega)
      · by_cases hkm : a3 < len1
        · exact law_s_py a0 len0 cap0 b0 off0 _ x1 len1 cap1 b1 off1 _ a2 a3 w hn p1 p2 p3 hm q1 q2 q3 b2.1 b2.2 ho (by omega) (by omega) hkm
        · exact law_s_pn a0 len0 cap0 b0 off0 _ x1 len1 cap1 b1 off1 _ a2 a3 w hn p1 p2 p3 hm q1 q2 q3 b2.1 b2.2 ho (by omega) (by omega) (by omega)
    · exact law_s_o a0 len0 cap0 b0 off0 _ x1 len1 cap1 b1 off1 _ a2 a3 w hn p1 p2 p3 hm q1 q2 q3 b2.1 b2.2 ho (by omega) (by omega)

/-! ### THE ROW's STEP: WRITTEN OUT: LEAVE IT -/
set_option maxRecDepth 100000 in
theorem lifted (os : Os) (started : os.Started) (H : Type) (enc : TypeId × Value → H) :
    ReturnsInHanded {} Yba.checked os 3 .any (Rows.lawS5146ATriedSpec.pre6 enc Yba.prog Yba.f3 Rows.lawS5146ATriedRow.domain false) (Rows.lawS5146ATriedSpec.post enc Yba.prog Yba.f3 false true false false) := by
  refine returnsInHanded_of_change (C := Yba.checked) own started (by kernel_rfl) Yba.func3
    (ChangeSpec.witness6 (enc := enc) (C := Yba.checked) false ⟨#[], #[.slice none 0 0, .slice none 0 0, .int .u8 0, .int .i64 0], []⟩ 8 (by kernel_rfl) (by kernel_rfl) (by kernel_rfl) (by kernel_rfl)) ?_
  intro W base args ds gs before hval0 hW hcnd _
  have hval : ∀ (j : Nat) t v, Yba.f3.params[j]? = some t → args[j]? = some v → Value.okWide Yba.prog W .any base t v := hval0
  have hW' := hW
  obtain ⟨p, q, hA0, hV, rfl, hfz, hnd⟩ := hW
  have hA : DataW.TrodAll enc Yba.prog W 0 (fun _ => true) true Yba.f3.params.toList args.toList ds p := hA0
  rw [Yba.params3] at hA hval
  obtain ⟨v0, vs0, d0, ds0, p0, q0, hargs, rfl, rfl, h0, r0⟩ := trodAll_cons hA
  obtain ⟨v1, vs1, d1, ds1, p1, q1, rfl, rfl, rfl, h1, r1⟩ := trodAll_cons r0
  obtain ⟨v2, vs2, d2, ds2, p2, q2, rfl, rfl, rfl, h2, r2⟩ := trodAll_cons r1
  obtain ⟨v3, vs3, d3, ds3, p3, q3, rfl, rfl, rfl, h3, r3⟩ := trodAll_cons r2
  obtain ⟨rfl, rfl, rfl⟩ := trodAll_nil r3
  obtain rfl : args = #[v0, v1, v2, v3] := by cases args; simp_all
  obtain ⟨rfl, rfl⟩ := trodVars_none hV
  obtain ⟨a0, len0, cap0, rfl⟩ := okWide_slice Yba.underlying22 (hval 0 22 v0 rfl rfl)
  have k0 := h0
  have lt0 : ∀ x ∈ p0, x.block < W.heap.size := by obtain ⟨m, hm⟩ := k0; exact DataW.trod_lt m _ _ _ hm
  obtain ⟨z0, w0⟩ : ∃ zs, IsRow .i64 W a0 len0 cap0 zs := by
    obtain ⟨fuel, hf⟩ := h0
    rcases open_ints Yba.underlying22 Yba.underlying2 (by kernel_rfl) hf with ⟨hcs, _⟩ | ⟨x, l, c, zs, hcs, _, hl, hm, hz, _, hcell, hwz⟩
    · simp [Value.cells] at hcs
      obtain ⟨rfl, rfl, rfl⟩ := hcs
      exact ⟨[], .inl ⟨rfl, rfl, rfl, rfl⟩⟩
    · simp [Value.cells] at hcs
      obtain ⟨rfl, rfl, rfl⟩ := hcs
      exact ⟨zs, .inr ⟨_, rfl, hl, hm, by simpa using hz, hcell, hwz⟩⟩
  obtain ⟨a1, len1, cap1, rfl⟩ := okWide_slice Yba.underlying23 (hval 1 23 v1 rfl rfl)
  have k1 := h1
  have lt1 : ∀ x ∈ p1, x.block < W.heap.size := by obtain ⟨m, hm⟩ := k1; exact DataW.trod_lt m _ _ _ hm
  obtain ⟨z1, w1⟩ : ∃ zs, IsRow .i64 W a1 len1 cap1 zs := by
    obtain ⟨fuel, hf⟩ := h1
    rcases open_ints Yba.underlying23 Yba.underlying3 (by kernel_rfl) hf with ⟨hcs, _⟩ | ⟨x, l, c, zs, hcs, _, hl, hm, hz, _, hcell, hwz⟩
    · simp [Value.cells] at hcs
      obtain ⟨rfl, rfl, rfl⟩ := hcs
      exact ⟨[], .inl ⟨rfl, rfl, rfl, rfl⟩⟩
    · simp [Value.cells] at hcs
      obtain ⟨rfl, rfl, rfl⟩ := hcs
      exact ⟨zs, .inr ⟨_, rfl, hl, hm, by simpa using hz, hcell, hwz⟩⟩
  obtain ⟨a2, rfl, rfl, rfl, w2⟩ := open_int Yba.underlying5 (hval 2 5 v2 rfl rfl) h2
  obtain ⟨a3, rfl, rfl, rfl, w3⟩ := open_int Yba.underlying3 (hval 3 3 v3 rfl rfl) h3
  clear hA0 hval0
  refine (walk a0 len0 cap0 z0 a1 len1 cap1 z1 a2 a3 W w0 w1 w2 w3).mono fun e W' ⟨he, bel⟩ => ?_
  subst he
  exact ⟨_, rfl, _, _, _, [], _, [], hW', trodAll_mk1 (shut_bool Yba.underlying4 _), (trodAll_cons_mk (Below.trod laidOut (by kernel_rfl) (of_decide_eq_true (by kernel_rfl)) k0 bel lt0) (trodAll_cons_mk (Below.trod laidOut (by kernel_rfl) (of_decide_eq_true (by kernel_rfl)) k1 bel lt1) (trodAll_cons_mk (shut_int Yba.underlying5 w2) (trodAll_cons_mk (shut_int Yba.underlying3 w3) trodAll_mk0)))), rfl, bel.frame _, fun h => by cases h⟩

theorem over : Rows.lawS5146ATriedRow.holds Yba.pinned (OpenSpec.ofChange Rows.lawS5146ATriedSpec) :=
  OpenClaim.holds_of_wide 3 Yba.f3 rfl rfl rfl rfl rfl rfl rfl ⟨rfl, rfl, rfl, rfl, rfl⟩ rfl rfl rfl rfl rfl (by kernel_rfl) Yba.func3 (by kernel_rfl)
    (of_decide_eq_true (by kernel_rfl)) (by unfold Func.isWrapper; first | (rw [if_pos (by decide +kernel)]; kernel_rfl) | (rw [if_neg (by decide +kernel)]; exact ⟨rfl, rfl⟩))
    (fun os started H enc _ => lifted os started H enc)

/-- ████ THE STATEMENT ████ -/
theorem proved : Rows.LawS5146ATriedSaid := over
end Go.Proofs.Ybulkdbny.lawS5146ATried
