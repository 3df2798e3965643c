/-
  'Rows.LawS5141ARefusesToldSaid': the members opened, the row lifted, the told card closed.
-/
import Derived.Test.YbulkdblgFmtWb
import Derived.Test.YbulkdblgFmtCards
import Derived.ProofKit
import Derived.OpenShut
import Derived.Deep.Slices
import Derived.Deep.Strs
import Derived.ChangeSlices
import Derived.ChangeSame
import Derived.ChangeMaps5
import Derived.JoinedOf
import Derived.Carry
import Derived.Stop.JoinedAt
import Derived.Stop.Texts
import Derived.Stop.JoinedTold
import Derived.SizedLaws
import Derived.SevenToldRow
namespace Go.Proofs.YbulkdblgFmt
open Go.ChangeShapes Go.WideShapes Go.ChangeAt Go.RowKit Go.Kit
open Go.ChangeMaps (open_string shut_string)
open Go.Extern.Stop Go.Stop Go.Extern

theorem own : ownKnob Ybaf.prog.godebug = none := by kernel_rfl
theorem laidOut : laidOutB Ybaf.pinned.checked.prog = true := by kernel_rfl
theorem cells30 : Ybaf.prog.cellsOf 30 = 3 := by kernel_rfl
theorem cells9 : Ybaf.prog.cellsOf 9 = 1 := by kernel_rfl
theorem cells5 : Ybaf.prog.cellsOf 5 = 1 := by kernel_rfl

theorem weightsAll_mem {H : Type} {P : Program} {e : TypeId} {d : DataW H} {n : Nat} (hn : n ∈ d.weights P e) : ∀ {l : List (DataW H)}, d ∈ l → n ∈ DataW.weightsAll P e l
  | x :: l, h => by
    simp only [DataW.weightsAll, List.mem_append]
    rcases List.mem_cons.1 h with rfl | h
    · exact Or.inl hn
    · exact Or.inr (weightsAll_mem hn h)

theorem list3 {cs : List Value} (h : cs.length = 3) : ∃ v0 v1 v2, cs = [v0, v1, v2] := by
  match cs, h with
  | [v0, v1, v2], _ => exact ⟨v0, v1, v2, rfl⟩

/-- One member, opened. -/
theorem open_member {H : Type} {enc : TypeId × Value → H} {w : World} {n : Nat} {a : Addr} {cs : List Value} {d : DataW H} {pl : List MemPlace}
    (h1 : w.cells? 0 a 3 = some cs) (h2 : DataW.trod enc Ybaf.prog w 0 (fun _ => true) true n 30 cs = some (d, pl)) :
    ∃ q : Mem, w.cell? (a.add 0) = some (.string q.nm) ∧ w.cell? (a.add 1) = some (.int .u8 q.kd) ∧ w.cell? (a.add 2) = some (.string q.tx) ∧ 0 ≤ q.kd ∧ q.kd ≤ 255 ∧
      d = .agg [.lit (.string q.nm.data.toList), .lit (.int .u8 q.kd), .lit (.string q.tx.data.toList)] := by
  obtain ⟨_, hlen, hcell⟩ := World.cells?_some h1
  obtain ⟨y0, y1, y2, n', hxy, _, g0, g1, g2⟩ := Deep.trod_struct3 Ybaf.underlying30 h2
  obtain ⟨v0, v1, v2, rfl⟩ := list3 hlen
  have e0 := hcell 0 (by omega)
  have e1 := hcell 1 (by omega)
  have e2 := hcell 2 (by omega)
  simp only [cells9, cells5, List.drop_zero, List.drop_succ_cons, List.take_succ_cons, List.take_zero] at g0 g1 g2
  obtain ⟨s0, q0, r0, _⟩ := DataW.trod_string Ybaf.underlying9 g0
  obtain ⟨s1, q1, r1, w1⟩ := DataW.trod_int Ybaf.underlying5 g1
  obtain ⟨s2, q2, r2, _⟩ := DataW.trod_string Ybaf.underlying9 g2
  simp only [List.cons.injEq, and_true] at q0 q1 q2
  subst q0 q1 q2 r0 r1 r2
  have hb1 := bounds_u8 w1
  exact ⟨⟨s0, s1, s2⟩, by simpa using e0, by simpa using e1, by simpa using e2, hb1.1, hb1.2, (Prod.mk.inj hxy).1⟩

/-- The members, opened: nothing at all, or a list of them, each with its cells. -/
theorem open_members {H : Type} {enc : TypeId × Value → H} {w : World} {fuel : Nat} {a0 : Option Addr} {len cap : Nat} {x : DataW H × List MemPlace}
    (h : DataW.trod enc Ybaf.prog w 0 (fun _ => true) true fuel 22 [.slice a0 len cap] = some x)
    (hz : ∀ n ∈ x.1.weights Ybaf.prog 22, n ≤ reachBytes) :
    len = 0 ∨ ∃ b off ms, a0 = some ⟨b, off, none⟩ ∧ len = List.length ms ∧ b < w.heap.size ∧ CellsAt w b off ms ∧ ∀ (k : Nat) (m : Mem), ms[k]? = some m → 0 ≤ m.kd ∧ m.kd ≤ 255 ∧ m.nm.size < 4611686018427387903 ∧ m.tx.size < 4611686018427387903 := by
  rcases Deep.open_slice Ybaf.underlying22 h with ⟨hcs, _⟩ | ⟨a, len', cap', m, n, D, Pl, hcs, _, hl, _, hm, hx, hel⟩
  · simp at hcs
    exact Or.inl hcs.2.1
  · simp at hcs
    obtain ⟨rfl, rfl, rfl⟩ := hcs
    rcases Nat.eq_zero_or_pos len with h0 | hpos
    · exact Or.inl h0
    right
    simp only [if_true] at hm
    subst hm
    have hr47 := reachBytes_lt
    have each : ∀ i, i < len → ∃ q : Mem, w.cell? (a.add (i * 3)) = some (.string q.nm) ∧ w.cell? (a.add (i * 3 + 1)) = some (.int .u8 q.kd) ∧ w.cell? (a.add (i * 3 + 2)) = some (.string q.tx) ∧
        0 ≤ q.kd ∧ q.kd ≤ 255 ∧ q.nm.size < 4611686018427387903 ∧ q.tx.size < 4611686018427387903 := by
      intro i hi
      obtain ⟨cs', h1, h2⟩ := hel i (by omega)
      rw [cells30] at h1
      obtain ⟨q, e0, e1, e2, k0, k1, hD⟩ := open_member h1 h2
      rw [Deep.add_add] at e0 e1 e2
      have hin : D i ∈ (List.range len).map D := List.mem_map.2 ⟨i, List.mem_range.2 hi, rfl⟩
      have hwt : ∀ z ∈ (D i).weights Ybaf.prog 30, z ≤ reachBytes := by
        intro z hzz
        apply hz
        rw [hx]
        simp only [DataW.weights, Ybaf.underlying22, List.mem_cons, List.mem_append]
        exact Or.inr (Or.inl (weightsAll_mem hzz hin))
      rw [hD] at hwt
      simp [DataW.weights, DataW.weightsEach, Ybaf.underlying30] at hwt
      refine ⟨q, e0, e1, e2, k0, k1, ?_, ?_⟩ <;> omega
    have hlst : ∀ n, n ≤ len → ∃ ms : List Mem, ms.length = n ∧ ∀ i q, ms[i]? = some q → w.cell? (a.add (i * 3)) = some (.string q.nm) ∧ w.cell? (a.add (i * 3 + 1)) = some (.int .u8 q.kd) ∧ w.cell? (a.add (i * 3 + 2)) = some (.string q.tx) ∧
        0 ≤ q.kd ∧ q.kd ≤ 255 ∧ q.nm.size < 4611686018427387903 ∧ q.tx.size < 4611686018427387903 := by
      intro n
      induction n with
      | zero => intro _; exact ⟨[], rfl, fun i q h => by simp at h⟩
      | succ n ih =>
        intro hn
        obtain ⟨ms, l1, l2⟩ := ih (by omega)
        obtain ⟨q, hq⟩ := each n (by omega)
        refine ⟨ms ++ [q], by simp [l1], fun i q' h => ?_⟩
        rcases Nat.lt_trichotomy i n with hi | hi | hi
        · rw [List.getElem?_append_left (by omega)] at h
          exact l2 i q' h
        · subst hi
          rw [List.getElem?_append_right (by omega)] at h
          simp [l1] at h
          subst h
          exact hq
        · rw [List.getElem?_eq_none (by simp; omega)] at h
          cases h
    obtain ⟨ms, l1, l2⟩ := hlst len (Nat.le_refl _)
    obtain ⟨b, off, spot⟩ := a
    obtain ⟨q0, hq0⟩ : ∃ q, ms[0]? = some q := ⟨ms[0]'(by omega), by simp⟩
    have hc0 := (l2 0 q0 hq0).1
    have hspot : spot = none := by simpa [Addr.add] using World.cell?_spot hc0
    subst hspot
    refine ⟨b, off, ms, rfl, l1.symm, ?_, fun k m hk => ?_, fun k m hk => (l2 k m hk).2.2.2⟩
    · rcases Nat.lt_or_ge b w.heap.size with h | h
      · exact h
      · simp [World.cell?, Addr.add, Array.getElem?_eq_none h] at hc0
    · have := l2 k m hk
      simp only [add_plain, ← Nat.add_assoc] at this
      exact ⟨this.1, this.2.1, this.2.2.1⟩

set_option maxRecDepth 100000 in
theorem refuses_lifted (os : Os) (started : os.Started) (H : Type) (enc : TypeId × Value → H) :
    ReturnsInTold none {} Ybaf.checked os 3 .any Input.okWide ((OpenSpec.ofChange Rows.lawS5141ARefusesSpec).preRow enc Ybaf.prog Ybaf.f3 [] false []) (fun F => ((OpenSpec.ofChange Rows.lawS5141ARefusesSpec).at F).post enc Ybaf.prog Ybaf.f3 false true false false) (aloneAtReturn Ybaf.prog) nothingAlways := by
  refine returnsInTold_of_row (C := Ybaf.checked) (s := OpenSpec.ofChange Rows.lawS5141ARefusesSpec) (by kernel_rfl) own started (by kernel_rfl) Ybaf.func3
    (OpenSpec.witness_stopped (enc := enc) (C := Ybaf.checked) false ⟨#[], #[.string ⟨#[]⟩, .slice none 0 0, .int .u8 0, .string ⟨#[]⟩], []⟩ 8 (by kernel_rfl) (by kernel_rfl) (by kernel_rfl) (by kernel_rfl)) ?_
  intro F W base args ds gs before _ hF hval0 hW _ _ hsz _ _
  have hval : ∀ (j : Nat) t v, Ybaf.f3.params[j]? = some t → args[j]? = some v → Value.okWide Ybaf.prog W .any base t v := hval0
  have hW' := hW
  obtain ⟨p, q, hA0, hV, rfl, _, _⟩ := hW
  have hA : DataW.TrodAll enc Ybaf.prog W 0 (fun _ => true) true Ybaf.f3.params.toList args.toList ds p := hA0
  have hsz0 : (DataW.weightsEach Ybaf.prog (Ybaf.f3.params.toList ++ (OpenSpec.ofChange Rows.lawS5141ARefusesSpec).bare.plain.varTypes Ybaf.prog) (ds ++ gs)).all (· ≤ reachBytes) = true := hsz
  rw [Ybaf.params3] at hA hval hsz0
  obtain ⟨v0, v1, v2, v3, d0, d1, d2, d3, p0, p1, p2, p3, rfl, rfl, rfl, h0, h1, h2, h3⟩ := trodAll_four hA
  obtain ⟨rfl, rfl⟩ := trodVars_none hV
  obtain ⟨path, rfl, rfl, rfl, hs0⟩ := open_string Ybaf.underlying9 (hval 0 9 v0 rfl rfl) h0
  obtain ⟨a0, len, cap, rfl⟩ := okWide_slice Ybaf.underlying22 (hval 1 22 v1 rfl rfl)
  obtain ⟨pick, rfl, rfl, rfl, w2⟩ := open_int Ybaf.underlying5 (hval 2 5 v2 rfl rfl) h2
  obtain ⟨name, rfl, rfl, rfl, hs3⟩ := open_string Ybaf.underlying9 (hval 3 9 v3 rfl rfl) h3
  have h1k := h1
  obtain ⟨fuel, hf⟩ := h1
  clear hA0 hval0
  simp only [List.append_nil, List.nil_append] at hW'
  have hlt : ∀ x ∈ p1, x.block < W.heap.size := fun x hx => by simpa using hW'.lt x hx
  have hargs : ∀ (W' : World), Below W.heap.size W W' → DataW.Trod enc Ybaf.prog W' 0 (fun b => decide (b < W.heap.size)) true 22 (.slice a0 len cap) d1 p1 :=
    fun W' hn => Below.trod laidOut (by kernel_rfl) (of_decide_eq_true (by kernel_rfl)) h1k hn hlt
  have hr47 := reachBytes_lt
  have l0 := sized_string hsz0 (j := 0) (t := 9) rfl rfl
  have l3 := sized_string hsz0 (j := 3) (t := 9) rfl rfl
  have l1 : ∀ n ∈ d1.weights Ybaf.prog 22, n ≤ reachBytes := fun n hn => by
    have := List.all_eq_true.1 hsz0 _ (DataW.weights_mem_each (j := 1) (t := 22) rfl rfl n hn)
    simpa using this
  have hb2 := bounds_u8 w2
  simp only [ByteArray.size_data, Array.length_toList] at l0 l3
  have hwalk : Calls Ybaf.prog 3 #[.string path, .slice a0 len cap, .int .u8 pick, .string name] W fun e w' => e = .returned (.bool true) ∧ Below W.heap.size W w' := by
    by_cases hl : (1024 : Int) < len
    · exact law_long path name pick a0 len cap W hl
    · rcases open_members (x := (d1, p1)) hf l1 with rfl | ⟨b, off, ms, rfl, rfl, hb, hc, hwf⟩
      · exact law_empty path name pick a0 cap W (by omega) hb2.1 hb2.2
      · exact law_some F.told path name pick b off cap ms W hF hb hc (by omega) hb2.1 hb2.2 (by omega) (by omega) hwf
  refine hwalk.mono fun e W' ⟨he, hnx⟩ => ?_
  subst he
  refine ⟨_, rfl, _, _, _, [], [] ++ (p1 ++ ([] ++ [])), [], hW', ?_, ?_, rfl, hnx.frame _, fun h => by cases h⟩
  · exact trodAll_mk1 (shut_bool Ybaf.underlying4 _)
  · exact trodAll_mk4 (shut_string Ybaf.underlying9 hs0) (hargs _ hnx) (shut_int Ybaf.underlying5 w2) (shut_string Ybaf.underlying9 hs3)

theorem stops : Ybaf.pinned.checked.prog.stops = Rows.lawS5141ARefusesRow.stops := by kernel_rfl
theorem stopKnobs : Ybaf.pinned.checked.prog.stopKnobs = [] := by kernel_rfl
theorem quiet (os : Os) : Stop.quiet Ybaf.pinned.checked.prog os := by
  intro k hk
  rw [stopKnobs] at hk
  cases hk

theorem refuses_told : Rows.LawS5141ARefusesToldSaid :=
  Claim7.holds_of_told_any 3 Ybaf.f3 _ _ [] _ _ _ (by kernel_rfl) rfl rfl rfl laidOut (by kernel_rfl) rfl ⟨rfl, rfl, rfl, rfl, rfl, rfl, rfl⟩ rfl rfl (by kernel_rfl) (by kernel_rfl) Ybaf.func3 (by kernel_rfl)
    (of_decide_eq_true (by kernel_rfl)) (by unfold Func.isWrapper; first | (rw [if_pos (by decide +kernel)]; kernel_rfl) | (rw [if_neg (by decide +kernel)]; exact ⟨rfl, rfl⟩)) stops.symm rfl stopKnobs.symm (by kernel_rfl)
    (by kernel_rfl) (by kernel_rfl) (by kernel_rfl) (by kernel_rfl) (by kernel_rfl) (by kernel_rfl) (by kernel_rfl) (by kernel_rfl) (by kernel_rfl) rfl (by kernel_rfl) rfl rfl
    rfl rfl
    rfl (by kernel_rfl) (by kernel_rfl) (by kernel_rfl) (by decide) (by kernel_rfl)
    (OpenClaim.moreEntering_of (by kernel_rfl) (by kernel_rfl) (by kernel_rfl) (by kernel_rfl) (by kernel_rfl) (by kernel_rfl) (by kernel_rfl) (by kernel_rfl) (by kernel_rfl) (by kernel_rfl))
    ⟨_, WideRow.started_initial, quiet _⟩
    (fun os started _ H enc _ => refuses_lifted os started H enc)

end Go.Proofs.YbulkdblgFmt
