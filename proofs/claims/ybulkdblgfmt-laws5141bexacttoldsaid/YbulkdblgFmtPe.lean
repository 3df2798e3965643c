/-
  'Rows.LawS5141BExactToldSaid': the relations opened, the row lifted, the told card closed.
-/
import Derived.Test.YbulkdblgFmtTh
import Derived.Test.YbulkdblgFmtCards
import Derived.ProofKit
import Derived.OpenShut
import Derived.Deep.Slices
import Derived.Deep.Strs
import Derived.ChangeSlices
import Derived.ChangeSame
import Derived.ChangeMaps5
import Derived.JoinedOf
import Derived.Carry
import Derived.Stop.JoinedAt
import Derived.Stop.Texts
import Derived.Stop.JoinedTold
import Derived.SizedLaws
import Derived.SevenToldRow
namespace Go.Proofs.YbulkdblgFmt
open Go.ChangeShapes Go.WideShapes Go.ChangeAt Go.RowKit Go.Kit
open Go.ChangeMaps (open_string shut_string)
open Go.Extern.Stop Go.Stop Go.Extern

theorem own : ownKnob Ybaf.prog.godebug = none := by kernel_rfl
theorem laidOut : laidOutB Ybaf.pinned.checked.prog = true := by kernel_rfl
theorem cells5 : Ybaf.prog.cellsOf 5 = 1 := by kernel_rfl
theorem cells26 : Ybaf.prog.cellsOf 26 = 1 := by kernel_rfl
theorem cells42 : Ybaf.prog.cellsOf 42 = 3 := by kernel_rfl

theorem block_lt {w : World} {b o : Nat} {v : Value} (h : w.cell? ⟨b, o, none⟩ = some v) : b < w.heap.size := by
  rcases Nat.lt_or_ge b w.heap.size with h' | h'
  · exact h'
  · simp [World.cell?, Array.getElem?_eq_none h'] at h

/-- A slice of bytes, opened. -/
theorem open_codes {H : Type} {enc : TypeId × Value → H} {w : World} {fuel : Nat} {v : Value} {x : DataW H × List MemPlace} (h : DataW.trod enc Ybaf.prog w 0 (fun _ => true) true fuel 26 [v] = some x) : ∃ xs, SliceU w v xs := by
  rcases open_ints Ybaf.underlying26 Ybaf.underlying5 cells5 h with ⟨e, _⟩ | ⟨a, len, cap, zs, e, _, hl, _, hz, _, hc, hwf⟩
  · simp at e
    exact ⟨[], none, 0, e, fun j x hj => by simp at hj⟩
  · simp at e hz
    refine ⟨zs.take len, some a, cap, by rw [e, List.length_take, hz, Nat.min_eq_left hl], fun j x hj => ?_⟩
    have hjl : j < len := by
      have := (List.getElem?_eq_some_iff.1 hj).1
      simp at this
      omega
    rw [List.getElem?_take, if_pos hjl] at hj
    have hm := List.mem_of_getElem? hj
    have hb := bounds_u8 (hwf x hm)
    have hcj := hc j (by omega)
    have hg : zs.getD j 0 = x := by simp [hj]
    rw [hg] at hcj
    obtain ⟨b, off, spot⟩ := a
    have hspot : spot = none := by simpa [Addr.add] using World.cell?_spot (hc 0 (by omega))
    subst hspot
    rw [add_plain] at hcj
    exact ⟨hb.1, hb.2, b, off, rfl, block_lt hcj, hcj⟩

theorem list3 {cs : List Value} (h : cs.length = 3) : ∃ v0 v1 v2, cs = [v0, v1, v2] := by
  match cs, h with
  | [v0, v1, v2], _ => exact ⟨v0, v1, v2, rfl⟩

/-- One relation, opened. -/
theorem open_rel {H : Type} {enc : TypeId × Value → H} {w : World} {n : Nat} {a : Addr} {cs : List Value} {d : DataW H × List MemPlace}
    (h1 : w.cells? 0 a 3 = some cs) (h2 : DataW.trod enc Ybaf.prog w 0 (fun _ => true) true n 42 cs = some d) :
    ∃ (o : Int) (k e : Value) (ks es : List Int), w.cell? (a.add 0) = some (.int .u8 o) ∧ w.cell? (a.add 1) = some k ∧ w.cell? (a.add 2) = some e ∧ 0 ≤ o ∧ o ≤ 255 ∧ SliceU w k ks ∧ SliceU w e es := by
  obtain ⟨_, hlen, hcell⟩ := World.cells?_some h1
  obtain ⟨y0, y1, y2, n', _, _, g0, g1, g2⟩ := Deep.trod_struct3 Ybaf.underlying42 h2
  obtain ⟨v0, v1, v2, rfl⟩ := list3 hlen
  have e0 := hcell 0 (by omega)
  have e1 := hcell 1 (by omega)
  have e2 := hcell 2 (by omega)
  simp only [cells5, cells26, List.drop_zero, List.drop_succ_cons, List.take_succ_cons, List.take_zero] at g0 g1 g2
  obtain ⟨s0, q0, _, w0⟩ := DataW.trod_int Ybaf.underlying5 g0
  simp only [List.cons.injEq, and_true] at q0
  subst q0
  obtain ⟨ks, hks⟩ := open_codes g1
  obtain ⟨es, hes⟩ := open_codes g2
  have hb := bounds_u8 w0
  exact ⟨s0, v1, v2, ks, es, by simpa using e0, by simpa using e1, by simpa using e2, hb.1, hb.2, hks, hes⟩

theorem slice_none (w : World) : SliceU w (.slice none 0 0) [] := ⟨none, 0, rfl, fun j x hj => by simp at hj⟩

/-- What is known of row i. -/
def RowIs (w : World) (a0 : Option Addr) (i : Nat) (t : Int × Value × Value × List Int × List Int) : Prop :=
  (∃ b off, a0 = some ⟨b, off, none⟩ ∧ b < w.heap.size ∧ w.cell? ⟨b, off + i * 3, none⟩ = some (.int .u8 t.1) ∧ w.cell? ⟨b, off + i * 3 + 1, none⟩ = some t.2.1 ∧ w.cell? ⟨b, off + i * 3 + 2, none⟩ = some t.2.2.1) ∧ (0 ≤ t.1 ∧ t.1 ≤ 255) ∧ SliceU w t.2.1 t.2.2.2.1 ∧ SliceU w t.2.2.1 t.2.2.2.2

theorem open_rels {H : Type} {enc : TypeId × Value → H} {w : World} {fuel : Nat} {a0 : Option Addr} {len cap : Nat} {x : DataW H × List MemPlace}
    (h : DataW.trod enc Ybaf.prog w 0 (fun _ => true) true fuel 40 [.slice a0 len cap] = some x) : ∃ oB kV eV kS eS, Given w a0 len oB kV eV kS eS := by
  have each : ∀ i, i < len → ∃ t, RowIs w a0 i t := by
    intro i hi
    rcases Deep.open_slice Ybaf.underlying40 h with ⟨hcs, _⟩ | ⟨a, len', cap', m, n, D, Pl, hcs, _, hl, _, hm, _, hel⟩
    · simp at hcs
      omega
    · simp at hcs
      obtain ⟨rfl, rfl, rfl⟩ := hcs
      simp only [if_true] at hm
      subst hm
      obtain ⟨b, off, spot⟩ := a
      simp only [cells42] at hel
      obtain ⟨c0, k1, k2⟩ := hel 0 (by omega)
      obtain ⟨_, _, _, _, _, z0, _⟩ := open_rel k1 k2
      have hspot : spot = none := by simpa [Addr.add] using World.cell?_spot z0
      subst hspot
      obtain ⟨cs', h1, h2⟩ := hel i (by omega)
      obtain ⟨o, k, e, ks, es, e0, e1, e2, ho1, ho2, hk, he⟩ := open_rel h1 h2
      rw [Deep.add_add, add_plain] at e0 e1 e2
      exact ⟨(o, k, e, ks, es), ⟨b, off, rfl, block_lt e0, by simpa using e0, by rw [Nat.add_assoc]; exact e1, by rw [Nat.add_assoc]; exact e2⟩, ⟨ho1, ho2⟩, hk, he⟩
  have hlst : ∀ n, n ≤ len → ∃ ts : List (Int × Value × Value × List Int × List Int), ts.length = n ∧ ∀ i t, ts[i]? = some t → RowIs w a0 i t := by
    intro n
    induction n with
    | zero => intro _; exact ⟨[], rfl, fun i t h => by simp at h⟩
    | succ n ih =>
      intro hn
      obtain ⟨ts, l1, l2⟩ := ih (by omega)
      obtain ⟨t, ht⟩ := each n (by omega)
      refine ⟨ts ++ [t], by simp [l1], fun i t' h => ?_⟩
      rcases Nat.lt_trichotomy i n with hi | hi | hi
      · rw [List.getElem?_append_left (by omega)] at h
        exact l2 i t' h
      · subst hi
        rw [List.getElem?_append_right (by omega)] at h
        simp [l1] at h
        subst h
        exact ht
      · rw [List.getElem?_eq_none (by simp; omega)] at h
        cases h
  obtain ⟨ts, l1, l2⟩ := hlst len (Nat.le_refl _)
  have hin : ∀ i, i < len → RowIs w a0 i (ts.getD i (0, .slice none 0 0, .slice none 0 0, [], [])) := fun i hi => by
    obtain ⟨t, ht⟩ : ∃ t, ts[i]? = some t := ⟨ts[i]'(by omega), by simp⟩
    have e : ts.getD i (0, .slice none 0 0, .slice none 0 0, [], []) = t := by simp [ht]
    rw [e]
    exact l2 i t ht
  have hout : ∀ i, len ≤ i → ts.getD i (0, .slice none 0 0, .slice none 0 0, [], []) = (0, .slice none 0 0, .slice none 0 0, [], []) := fun i hi => by
    have : ts[i]? = none := List.getElem?_eq_none (by omega)
    simp [this]
  refine ⟨fun i => (ts.getD i (0, .slice none 0 0, .slice none 0 0, [], [])).1, fun i => (ts.getD i (0, .slice none 0 0, .slice none 0 0, [], [])).2.1, fun i => (ts.getD i (0, .slice none 0 0, .slice none 0 0, [], [])).2.2.1, fun i => (ts.getD i (0, .slice none 0 0, .slice none 0 0, [], [])).2.2.2.1, fun i => (ts.getD i (0, .slice none 0 0, .slice none 0 0, [], [])).2.2.2.2, fun i hi => (hin i hi).1, fun i hi => ?_, fun i => ?_, fun i => ?_, fun i => ?_⟩
  · rw [hout i hi]; exact ⟨rfl, rfl, rfl⟩
  · by_cases hi : i < len
    · exact (hin i hi).2.1
    · rw [hout i (by omega)]; exact ⟨by decide, by decide⟩
  · by_cases hi : i < len
    · exact (hin i hi).2.2.1
    · rw [hout i (by omega)]; exact slice_none w
  · by_cases hi : i < len
    · exact (hin i hi).2.2.2
    · rw [hout i (by omega)]; exact slice_none w

set_option maxRecDepth 100000 in
theorem exact_lifted (os : Os) (started : os.Started) (H : Type) (enc : TypeId × Value → H) :
    ReturnsInTold none {} Ybaf.checked os 5 .any Input.okWide ((OpenSpec.ofChange Rows.lawS5141BExactSpec).preRow enc Ybaf.prog Ybaf.f5 [] false []) (fun F => ((OpenSpec.ofChange Rows.lawS5141BExactSpec).at F).post enc Ybaf.prog Ybaf.f5 false true false false) (aloneAtReturn Ybaf.prog) nothingAlways := by
  refine returnsInTold_of_row (C := Ybaf.checked) (s := OpenSpec.ofChange Rows.lawS5141BExactSpec) (by kernel_rfl) own started (by kernel_rfl) Ybaf.func5
    (OpenSpec.witness_stopped (enc := enc) (C := Ybaf.checked) false ⟨#[], #[.int .u8 0, .int .u8 0, .slice none 0 0], []⟩ 8 (by kernel_rfl) (by kernel_rfl) (by kernel_rfl) (by kernel_rfl)) ?_
  intro F W base args ds gs before _ hF hval0 hW _ _ hsz _ _
  have hval : ∀ (j : Nat) t v, Ybaf.f5.params[j]? = some t → args[j]? = some v → Value.okWide Ybaf.prog W .any base t v := hval0
  have hW' := hW
  obtain ⟨p, q, hA0, hV, rfl, _, _⟩ := hW
  have hA : DataW.TrodAll enc Ybaf.prog W 0 (fun _ => true) true Ybaf.f5.params.toList args.toList ds p := hA0
  rw [Ybaf.params5] at hA hval
  obtain ⟨v0, v1, v2, d0, d1, d2, p0, p1, p2, rfl, rfl, rfl, h0, h1, h2⟩ := trodAll_three hA
  obtain ⟨rfl, rfl⟩ := trodVars_none hV
  obtain ⟨n0, rfl, rfl, rfl, w0⟩ := open_int Ybaf.underlying5 (hval 0 5 v0 rfl rfl) h0
  obtain ⟨which, rfl, rfl, rfl, w1⟩ := open_int Ybaf.underlying5 (hval 1 5 v1 rfl rfl) h1
  obtain ⟨a0, len, cap, rfl⟩ := okWide_slice Ybaf.underlying40 (hval 2 40 v2 rfl rfl)
  have h2k := h2
  obtain ⟨fuel, hf⟩ := h2
  clear hA0 hval0
  simp only [List.append_nil, List.nil_append] at hW'
  have hlt : ∀ x ∈ p2, x.block < W.heap.size := fun x hx => by simpa using hW'.lt x hx
  have hargs : ∀ (W' : World), Below W.heap.size W W' → DataW.Trod enc Ybaf.prog W' 0 (fun b => decide (b < W.heap.size)) true 40 (.slice a0 len cap) d2 p2 :=
    fun W' hn => Below.trod laidOut (by kernel_rfl) (of_decide_eq_true (by kernel_rfl)) h2k hn hlt
  have hb0 := bounds_u8 w0
  have hb1 := bounds_u8 w1
  obtain ⟨oB, kV, eV, kS, eS, hG⟩ := open_rels (x := (d2, p2)) hf
  have hwalk := exact_any F n0 which hb0.1 hb0.2 hb1.1 hb1.2 a0 len cap oB kV eV kS eS W hF hG
  refine hwalk.mono fun e W' ⟨he, hnx⟩ => ?_
  subst he
  refine ⟨_, rfl, _, _, _, [], [] ++ ([] ++ p2), [], hW', ?_, ?_, rfl, hnx.frame _, fun h => by cases h⟩
  · exact trodAll_mk1 (shut_bool Ybaf.underlying4 _)
  · exact trodAll_mk3 (shut_int Ybaf.underlying5 w0) (shut_int Ybaf.underlying5 w1) (hargs _ hnx)

theorem stops : Ybaf.pinned.checked.prog.stops = Rows.lawS5141BExactRow.stops := by kernel_rfl
theorem stopKnobs : Ybaf.pinned.checked.prog.stopKnobs = [] := by kernel_rfl
theorem quiet (os : Os) : Stop.quiet Ybaf.pinned.checked.prog os := by
  intro k hk
  rw [stopKnobs] at hk
  cases hk

theorem exact_told : Rows.LawS5141BExactToldSaid :=
  Claim7.holds_of_told_any 5 Ybaf.f5 _ _ [] _ _ _ (by kernel_rfl) rfl rfl rfl laidOut (by kernel_rfl) rfl ⟨rfl, rfl, rfl, rfl, rfl, rfl, rfl⟩ rfl rfl (by kernel_rfl) (by kernel_rfl) Ybaf.func5 (by kernel_rfl)
    (of_decide_eq_true (by kernel_rfl)) (by unfold Func.isWrapper; first | (rw [if_pos (by decide +kernel)]; kernel_rfl) | (rw [if_neg (by decide +kernel)]; exact ⟨rfl, rfl⟩)) stops.symm rfl stopKnobs.symm (by kernel_rfl)
    (by kernel_rfl) (by kernel_rfl) (by kernel_rfl) (by kernel_rfl) (by kernel_rfl) (by kernel_rfl) (by kernel_rfl) (by kernel_rfl) (by kernel_rfl) rfl (by kernel_rfl) rfl rfl
    rfl rfl
    rfl (by kernel_rfl) (by kernel_rfl) (by kernel_rfl) (by decide) (by kernel_rfl)
    (OpenClaim.moreEntering_of (by kernel_rfl) (by kernel_rfl) (by kernel_rfl) (by kernel_rfl) (by kernel_rfl) (by kernel_rfl) (by kernel_rfl) (by kernel_rfl) (by kernel_rfl) (by kernel_rfl))
    ⟨_, WideRow.started_initial, quiet _⟩
    (fun os started _ H enc _ => exact_lifted os started H enc)

end Go.Proofs.YbulkdblgFmt
