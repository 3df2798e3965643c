/-
  The plain search: reaching, one leaf's step, what holds between two rounds.
-/
import Derived.Test.YbulkdblgFmtTm
namespace Go.Proofs.YbulkdblgFmt

/-- Relation a names b. -/
def Edge (L : Fin 26 → List Leaf) (a b : Fin 26) : Prop := ∃ st, (some b, st) ∈ L a
/-- From a to b in so many steps. -/
def ReachN (L : Fin 26 → List Leaf) : Nat → Fin 26 → Fin 26 → Prop
  | 0, a, b => a = b
  | n + 1, a, b => ∃ c, ReachN L n a c ∧ Edge L c b
def Reach (L : Fin 26 → List Leaf) (a b : Fin 26) : Prop := ∃ n, ReachN L n a b

theorem Reach.refl (L : Fin 26 → List Leaf) (a : Fin 26) : Reach L a a := ⟨0, rfl⟩
theorem Reach.step {L : Fin 26 → List Leaf} {a b c : Fin 26} (h : Reach L a b) (e : Edge L b c) : Reach L a c := by
  obtain ⟨n, h⟩ := h
  exact ⟨n + 1, b, h, e⟩

/-- One leaf seen. -/
def visit (V : List (Fin 26)) (x : Leaf) : List (Fin 26) := match x.1 with
  | some k => if k ∈ V then V else V ++ [k]
  | none => V

/-- A set that holds a, and with each the names that it names, holds all that a reaches. -/
theorem reach_closed {L : Fin 26 → List Leaf} {V : List (Fin 26)} {a : Fin 26} (ha : a ∈ V) (hc : ∀ v ∈ V, ∀ k, Edge L v k → k ∈ V) : ∀ n b, ReachN L n a b → b ∈ V
  | 0, b, h => by have : a = b := h; rw [← this]; exact ha
  | n + 1, b, ⟨c, h, e⟩ => hc c (reach_closed ha hc n c h) b e

/-- Between two rounds of the search: V has been met, in order; the first h of them are done. -/
structure Search (L : Fin 26 → List Leaf) (fr on : Fin 26) (V : List (Fin 26)) (h : Nat) : Prop where
  nodup : V.Nodup
  first : V[0]? = some fr
  le : h ≤ V.length
  done : ∀ i v, i < h → V[i]? = some v → v ≠ on ∧ ∀ k, Edge L v k → k ∈ V
  reach : ∀ v ∈ V, Reach L fr v

/-- The queue is empty: on is not reached. -/
theorem Search.empty {L : Fin 26 → List Leaf} {fr on : Fin 26} {V : List (Fin 26)} {h : Nat} (s : Search L fr on V h) (hh : h = V.length) : ¬ Reach L fr on := by
  rintro ⟨n, hn⟩
  have hfr : fr ∈ V := List.mem_of_getElem? s.first
  have hon := reach_closed hfr (fun v hv k hk => by
    obtain ⟨i, hi, e⟩ := List.mem_iff_getElem.1 hv
    exact (s.done i v (by omega) (by rw [List.getElem?_eq_getElem hi, e])).2 k hk) n on hn
  obtain ⟨i, hi, e⟩ := List.mem_iff_getElem.1 hon
  exact (s.done i on (by omega) (by rw [List.getElem?_eq_getElem hi, e])).1 rfl

/-- The queue's head is on: reached. -/
theorem Search.found {L : Fin 26 → List Leaf} {fr on : Fin 26} {V : List (Fin 26)} {h : Nat} (s : Search L fr on V h) (hh : V[h]? = some on) : Reach L fr on := s.reach on (List.mem_of_getElem? hh)

theorem nodup_lt : ∀ (n : Nat) (l : List Nat), l.Nodup → (∀ x ∈ l, x < n) → l.length ≤ n
  | 0, l, _, h => by
    cases l with
    | nil => simp
    | cons a l => exact absurd (h a List.mem_cons_self) (by omega)
  | n + 1, l, hd, h => by
    have h1 := nodup_lt n (l.erase n) (hd.erase n) (fun x hx => by
      have h2 := h x (List.mem_of_mem_erase hx)
      have h3 : x ≠ n := fun e => by subst e; exact (List.Nodup.not_mem_erase hd) hx
      omega)
    have h4 : l.length ≤ (l.erase n).length + 1 := by
      rw [List.length_erase]; split <;> omega
    omega

theorem Search.len {L : Fin 26 → List Leaf} {fr on : Fin 26} {V : List (Fin 26)} {h : Nat} (s : Search L fr on V h) : V.length ≤ 26 := by
  have h1 := nodup_lt 26 (V.map Fin.val) (by
    rw [List.nodup_iff_pairwise_ne, List.pairwise_map, List.pairwise_iff_getElem]
    intro i j hi hj hij e
    exact List.pairwise_iff_getElem.1 s.nodup i j hi hj hij (Fin.ext e)) (fun x hx => by
    obtain ⟨k, _, rfl⟩ := List.mem_map.1 hx
    exact k.isLt)
  simpa using h1

theorem Search.start (L : Fin 26 → List Leaf) (fr on : Fin 26) : Search L fr on [fr] 0 :=
  ⟨by simp, rfl, Nat.zero_le _, fun i v hi _ => by omega, fun v hv => by simp at hv; subst hv; exact Reach.refl _ _⟩

/-- Some leaves of r seen: what was met stays, in its place; what is new is named by r; what those leaves name has been met. -/
theorem visit_all (r : Fin 26) (L : Fin 26 → List Leaf) (fr : Fin 26) : ∀ (G : List Leaf) (V : List (Fin 26)), (∀ x ∈ G, x ∈ L r) → V.Nodup → r ∈ V → (∀ v ∈ V, Reach L fr v) →
    (G.foldl visit V).Nodup ∧ V <+: G.foldl visit V ∧ (∀ v ∈ G.foldl visit V, Reach L fr v) ∧ ∀ k st, (some k, st) ∈ G → k ∈ G.foldl visit V
  | [], V, _, hn, _, hr => ⟨hn, List.prefix_refl _, hr, fun k st h => by cases h⟩
  | x :: G, V, hG, hn, hrV, hr => by
    obtain ⟨o, st0⟩ := x
    have key : (visit V (o, st0)).Nodup ∧ V <+: visit V (o, st0) ∧ (∀ v ∈ visit V (o, st0), Reach L fr v) ∧ ∀ k, o = some k → k ∈ visit V (o, st0) := by
      cases o with
      | none => exact ⟨hn, List.prefix_refl _, hr, fun k e => by cases e⟩
      | some k =>
        by_cases hk : k ∈ V
        · have e : visit V (some k, st0) = V := by simp [visit, hk]
          rw [e]
          exact ⟨hn, List.prefix_refl _, hr, fun k' e' => by cases e'; exact hk⟩
        · have e : visit V (some k, st0) = V ++ [k] := by simp [visit, hk]
          rw [e]
          refine ⟨?_, List.prefix_append _ _, fun v hv => ?_, fun k' e' => by cases e'; simp⟩
          · rw [List.nodup_append]
            exact ⟨hn, by simp, fun a ha b hb => by simp at hb; subst hb; exact fun e => hk (e ▸ ha)⟩
          · rcases List.mem_append.1 hv with hv | hv
            · exact hr v hv
            · simp at hv; subst hv
              exact (hr r hrV).step ⟨st0, hG _ List.mem_cons_self⟩
    obtain ⟨k1, k2, k3, k4⟩ := key
    obtain ⟨a1, a2, a3, a4⟩ := visit_all r L fr G (visit V (o, st0)) (fun y hy => hG y (List.mem_cons_of_mem _ hy)) k1 (k2.subset hrV) k3
    refine ⟨a1, k2.trans a2, a3, fun k st hm => ?_⟩
    rcases List.mem_cons.1 hm with e | hm
    · cases e; exact a2.subset (k4 k rfl)
    · exact a4 k st hm

/-- A whole round. -/
theorem Search.round {L : Fin 26 → List Leaf} {fr on r : Fin 26} {V : List (Fin 26)} {h : Nat} (s : Search L fr on V h) (hr : V[h]? = some r) (hne : r ≠ on) : Search L fr on ((L r).foldl visit V) (h + 1) := by
  obtain ⟨a1, a2, a3, a4⟩ := visit_all r L fr (L r) V (fun _ h => h) s.nodup (List.mem_of_getElem? hr) s.reach
  have hlt : h < V.length := (List.getElem?_eq_some_iff.1 hr).1
  obtain ⟨T, hT⟩ := a2
  have hget : ∀ i, i < V.length → ((L r).foldl visit V)[i]? = V[i]? := fun i hi => by rw [← hT, List.getElem?_append_left hi]
  refine ⟨a1, by rw [hget 0 (by omega)]; exact s.first, by rw [← hT]; simp; omega, fun i v hi hv => ?_, a3⟩
  rw [hget i (by omega)] at hv
  by_cases e : i = h
  · subst e
    rw [hr] at hv
    cases hv
    exact ⟨hne, fun k ⟨st, hk⟩ => a4 k st hk⟩
  · obtain ⟨b1, b2⟩ := s.done i v (by omega) hv
    exact ⟨b1, fun k hk => by rw [← hT]; exact List.mem_append_left _ (b2 k hk)⟩
end Go.Proofs.YbulkdblgFmt
