/-
  'Rows.LawS5146AShortestWalkSaid' ('sched.LawS5146AShortestWalk'): the row of pairs opened, the walk out of YbulkdbnySe with tryShortest's contract out of YbulkdbnySd, the row lifted.
-/
import Derived.Test.YbulkdbnyRows
import Derived.Test.YbulkdbnySd
import Derived.Test.YbulkdbnySe
import Derived.WalkKit
import Derived.ProofKit
import Derived.OpenShut
import Derived.ChangeOld
import Derived.ChangeSame
import Derived.JoinedOf
import Derived.Below
import Derived.Deep.SlicePairs
namespace Go.Proofs.Ybulkdbny.lawS5146AShortestWalk
open Go.ChangeShapes Go.WideShapes Go.ChangeAt Go.RowKit
set_option linter.unusedVariables false

theorem own : ownKnob Yba.prog.godebug = none := by kernel_rfl
theorem laidOut : laidOutB Yba.prog = true := by kernel_rfl
theorem cells50 : Yba.prog.cellsOf 50 = 2 := by kernel_rfl
theorem cells2 : Yba.prog.cellsOf 2 = 1 := by kernel_rfl

/-- What the walk is told of the row of pairs that came in. -/
def IsPairs (w : World) (a : Option Addr) (n : Nat) : Prop :=
  ∃ (b off : Nat) (ps es : Nat → Int), (0 < n → b < w.heap.size) ∧ (0 < n → a = some ⟨b, off, none⟩) ∧ (∀ i, i < n → w.cell? ⟨b, off + i * 2, none⟩ = some (.int .i64 (ps i))) ∧ ∀ i, i < n → w.cell? ⟨b, off + i * 2 + 1, none⟩ = some (.int .i64 (es i))

theorem open_pairs {H : Type} {enc : TypeId × Value → H} {w : World} {fuel : Nat} {a : Option Addr} {len cap : Nat} {x : DataW H × List MemPlace}
    (h : DataW.trod enc Yba.prog w 0 (fun _ => true) true fuel 48 [.slice a len cap] = some x) : IsPairs w a len := by
  rcases Deep.open_slice_pairs Yba.underlying48 Yba.underlying50 cells50 rfl rfl cells2 cells2 h with ⟨hcs, _⟩ | ⟨x, l, c, m, n, V0, V1, D0, D1, P0, P1, hcs, _, hl, _, hm, _, hel⟩
  · simp at hcs
    obtain ⟨_, rfl, _⟩ := hcs
    exact ⟨0, 0, fun _ => 0, fun _ => 0, fun h => by omega, fun h => by omega, fun i hi => by omega, fun i hi => by omega⟩
  · simp at hcs
    obtain ⟨rfl, rfl, rfl⟩ := hcs
    simp only [if_true] at hm
    subst hm
    rcases Nat.eq_zero_or_pos len with h0 | hpos
    · exact ⟨0, 0, fun _ => 0, fun _ => 0, fun h => by omega, fun h => by omega, fun i hi => by omega, fun i hi => by omega⟩
    have each : ∀ i, i < len → ∃ p e : Int, w.cell? (x.add (i * 2)) = some (.int .i64 p) ∧ w.cell? (x.add (i * 2 + 1)) = some (.int .i64 e) := fun i hi => by
      obtain ⟨c0, c1, t0, t1⟩ := hel i (by omega)
      obtain ⟨s0, q0, _, _⟩ := DataW.trod_int Yba.underlying2 t0
      obtain ⟨s1, q1, _, _⟩ := DataW.trod_int Yba.underlying2 t1
      simp only [List.cons.injEq, and_true] at q0 q1
      exact ⟨s0, s1, by rw [c0, q0], by rw [c1, q1]⟩
    obtain ⟨b, off, spot⟩ := x
    obtain ⟨p0, e0, hc0, _⟩ := each 0 hpos
    have hspot : spot = none := by simpa [Addr.add] using World.cell?_spot hc0
    subst hspot
    refine ⟨b, off, fun i => if h : i < len then (each i h).choose else 0, fun i => if h : i < len then (each i h).choose_spec.choose else 0, fun _ => ?_, fun _ => rfl, fun i hi => ?_, fun i hi => ?_⟩
    · rcases Nat.lt_or_ge b w.heap.size with h | h
      · exact h
      · simp [World.cell?, Addr.add, Array.getElem?_eq_none h] at hc0
    · have := (each i hi).choose_spec.choose_spec.1
      simp only [dif_pos hi]
      simpa [add_plain, ← Nat.add_assoc] using this
    · have := (each i hi).choose_spec.choose_spec.2
      simp only [dif_pos hi]
      simpa [add_plain, ← Nat.add_assoc] using this

theorem walk (a0 : Option Addr) (len0 cap0 : Nat) (a1 : Int) (w : World) (w0 : IsPairs w a0 len0) :
    Calls Yba.prog 4 #[.slice a0 len0 cap0, .int .i64 a1] w fun e w' => e = .returned (.bool true) ∧ Below w.heap.size w w' := by
  obtain ⟨b, off, ps, es, h1, h2, h3, h4⟩ := w0
  rcases Nat.lt_or_ge 1024 len0 with h | h
  · exact law_big a0 len0 cap0 a1 w h
  · exact law_walk try_any a0 len0 cap0 b off ps es a1 w h h1 h2 h3 h4

set_option maxRecDepth 100000 in
theorem lifted (os : Os) (started : os.Started) (H : Type) (enc : TypeId × Value → H) :
    ReturnsInHanded {} Yba.checked os 4 .any (Rows.lawS5146AShortestWalkSpec.pre6 enc Yba.prog Yba.f4 Rows.lawS5146AShortestWalkRow.domain false) (Rows.lawS5146AShortestWalkSpec.post enc Yba.prog Yba.f4 false true false false) := by
  refine returnsInHanded_of_change (C := Yba.checked) own started (by kernel_rfl) Yba.func4
    (ChangeSpec.witness6 (enc := enc) (C := Yba.checked) false ⟨#[], #[.slice none 0 0, .int .i64 0], []⟩ 8 (by kernel_rfl) (by kernel_rfl) (by kernel_rfl) (by kernel_rfl)) ?_
  intro W base args ds gs before hval0 hW hcnd _
  have hval : ∀ (j : Nat) t v, Yba.f4.params[j]? = some t → args[j]? = some v → Value.okWide Yba.prog W .any base t v := hval0
  have hW' := hW
  obtain ⟨p, q, hA0, hV, rfl, hfz, hnd⟩ := hW
  have hA : DataW.TrodAll enc Yba.prog W 0 (fun _ => true) true Yba.f4.params.toList args.toList ds p := hA0
  rw [Yba.params4] at hA hval
  obtain ⟨v0, vs0, d0, ds0, p0, q0, hargs, rfl, rfl, h0, r0⟩ := trodAll_cons hA
  obtain ⟨v1, vs1, d1, ds1, p1, q1, rfl, rfl, rfl, h1, r1⟩ := trodAll_cons r0
  obtain ⟨rfl, rfl, rfl⟩ := trodAll_nil r1
  obtain rfl : args = #[v0, v1] := by cases args; simp_all
  obtain ⟨rfl, rfl⟩ := trodVars_none hV
  obtain ⟨a0, len0, cap0, rfl⟩ := okWide_slice Yba.underlying48 (hval 0 48 v0 rfl rfl)
  have k0 := h0
  have lt0 : ∀ x ∈ p0, x.block < W.heap.size := by obtain ⟨m, hm⟩ := k0; exact DataW.trod_lt m _ _ _ hm
  have w0 : IsPairs W a0 len0 := by
    obtain ⟨fuel, hf⟩ := h0
    exact open_pairs hf
  obtain ⟨a1, rfl, rfl, rfl, w1⟩ := open_int Yba.underlying2 (hval 1 2 v1 rfl rfl) h1
  clear hA0 hval0
  refine (walk a0 len0 cap0 a1 W w0).mono fun e W' ⟨he, bel⟩ => ?_
  subst he
  exact ⟨_, rfl, _, _, _, [], _, [], hW', trodAll_mk1 (shut_bool Yba.underlying4 _), (trodAll_cons_mk (Below.trod laidOut (by kernel_rfl) (of_decide_eq_true (by kernel_rfl)) k0 bel lt0) (trodAll_cons_mk (shut_int Yba.underlying2 w1) trodAll_mk0)), rfl, bel.frame _, fun h => by cases h⟩

theorem over : Rows.lawS5146AShortestWalkRow.holds Yba.pinned (OpenSpec.ofChange Rows.lawS5146AShortestWalkSpec) :=
  OpenClaim.holds_of_wide 4 Yba.f4 rfl rfl rfl rfl rfl rfl rfl ⟨rfl, rfl, rfl, rfl, rfl⟩ rfl rfl rfl rfl rfl (by kernel_rfl) Yba.func4 (by kernel_rfl)
    (of_decide_eq_true (by kernel_rfl)) (by unfold Func.isWrapper; first | (rw [if_pos (by decide +kernel)]; kernel_rfl) | (rw [if_neg (by decide +kernel)]; exact ⟨rfl, rfl⟩))
    (fun os started H enc _ => lifted os started H enc)

/-- ████ THE STATEMENT ████ -/
theorem proved : Rows.LawS5146AShortestWalkSaid := over
end Go.Proofs.Ybulkdbny.lawS5146AShortestWalk
