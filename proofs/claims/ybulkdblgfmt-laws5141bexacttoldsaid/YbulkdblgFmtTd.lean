/-
  The plain law of LawS5141BExact: the closure, step by step, is reaching.
-/
import Derived.Test.YbulkdblgFmtTw
set_option linter.unusedVariables false
namespace Go.Proofs.YbulkdblgFmt

/-- The leaf that the code c stands for, in a type of n relations. -/
def lf (n : Nat) (c : Int) : Option (Fin 26) := if c % ((n : Int) + 1) = n then none else some (fn (c % ((n : Int) + 1)).toNat)
def joinL (n op : Nat) (ks : List Int) : List Leaf := match ks with
  | [] => []
  | [c] => [(lf n c, 0)]
  | c :: d :: r => (c :: d :: r).map fun c => (lf n c, op)
def exprL (n op : Nat) (ks es : List Int) : List Leaf := match es with
  | [] => joinL n op ks
  | e :: r => weak 1 (joinL n op ks) ++ weak 2 (joinL n op (e :: r))
def exactL (n : Nat) (op : Nat → Nat) (ks es : Nat → List Int) (k : Fin 26) : List Leaf := exprL n (op k.val) (ks k.val) (es k.val)
/-- Some code of the list stands for relation k. -/
def names (n : Nat) (l : List Int) (k : Nat) : Bool := l.any fun c => decide (c % ((n : Int) + 1) = k)

theorem join_mem {n op : Nat} {ks : List Int} {o : Option (Fin 26)} {st : Nat} (hop : op ≤ 1) (h : (o, st) ∈ joinL n op ks) : st ≤ 1 ∧ ∃ c ∈ ks, o = lf n c := by
  match ks, h with
  | [c], h => simp [joinL] at h; exact ⟨by omega, c, by simp, h.1⟩
  | c :: d :: r, h =>
    simp only [joinL] at h
    obtain ⟨x, hx, e⟩ := List.mem_map.1 h
    cases e
    exact ⟨hop, x, hx, rfl⟩
theorem mem_join {n op : Nat} {ks : List Int} {c : Int} (h : c ∈ ks) : ∃ st, (lf n c, st) ∈ joinL n op ks := by
  match ks, h with
  | [d], h => simp at h; subst h; exact ⟨0, by simp [joinL]⟩
  | d :: e :: r, h => exact ⟨op, by simp only [joinL]; exact List.mem_map.2 ⟨c, h, rfl⟩⟩
theorem mem_weak {r : Nat} {G : List Leaf} {o : Option (Fin 26)} {st : Nat} (h : (o, st) ∈ weak r G) : ∃ s, (o, s) ∈ G ∧ st = max r s := by
  obtain ⟨x, hx, e⟩ := List.mem_map.1 h
  cases e
  exact ⟨x.2, hx, rfl⟩

theorem expr_mem {n op : Nat} {ks es : List Int} {o : Option (Fin 26)} {st : Nat} (hop : op ≤ 1) (h : (o, st) ∈ exprL n op ks es) : ∃ c ∈ ks ++ es, o = lf n c := by
  cases es with
  | nil =>
    obtain ⟨_, c, hc, e⟩ := join_mem hop h
    exact ⟨c, by simpa using hc, e⟩
  | cons x r =>
    rcases List.mem_append.1 h with h | h
    · obtain ⟨s, hs, _⟩ := mem_weak h
      obtain ⟨_, c, hc, e⟩ := join_mem hop hs
      exact ⟨c, List.mem_append_left _ hc, e⟩
    · obtain ⟨s, hs, _⟩ := mem_weak h
      obtain ⟨_, c, hc, e⟩ := join_mem hop hs
      exact ⟨c, List.mem_append_right _ hc, e⟩
theorem mem_expr {n op : Nat} {ks es : List Int} {c : Int} (h : c ∈ ks ++ es) : ∃ st, (lf n c, st) ∈ exprL n op ks es := by
  cases es with
  | nil => exact mem_join (by simpa using h)
  | cons x r =>
    rcases List.mem_append.1 h with h | h
    · obtain ⟨st, hs⟩ := mem_join (n := n) (op := op) h
      exact ⟨max 1 st, List.mem_append_left _ (List.mem_map.2 ⟨_, hs, rfl⟩)⟩
    · obtain ⟨st, hs⟩ := mem_join (n := n) (op := op) h
      exact ⟨max 2 st, List.mem_append_right _ (List.mem_map.2 ⟨_, hs, rfl⟩)⟩
theorem expr_excl {n op : Nat} {ks es : List Int} {o : Option (Fin 26)} (hop : op ≤ 1) : (o, 2) ∈ exprL n op ks es ↔ ∃ c ∈ es, o = lf n c := by
  constructor
  · intro h
    cases es with
    | nil => have := (join_mem hop h).1; omega
    | cons x r =>
      rcases List.mem_append.1 h with h | h
      · obtain ⟨s, hs, e⟩ := mem_weak h
        have := (join_mem hop hs).1
        omega
      · obtain ⟨s, hs, _⟩ := mem_weak h
        obtain ⟨_, c, hc, e⟩ := join_mem hop hs
        exact ⟨c, hc, e⟩
  · rintro ⟨c, hc, rfl⟩
    cases es with
    | nil => cases hc
    | cons x r =>
      obtain ⟨st, hs⟩ := mem_join (n := n) (op := op) hc
      have hst := (join_mem hop hs).1
      have e : max 2 st = 2 := by omega
      have := List.mem_append_right (weak 1 (joinL n op ks)) (List.mem_map.2 ⟨_, hs, rfl⟩ : ((lf n c, max 2 st) : Leaf) ∈ weak 2 (joinL n op (x :: r)))
      rwa [e] at this

theorem lf_some {n : Nat} (hn : n ≤ 6) {c : Int} {b : Fin 26} (h : lf n c = some b) : b.val < n ∧ c % ((n : Int) + 1) = b.val := by
  unfold lf at h
  split at h
  · cases h
  · rename_i hne
    have h1 : 0 ≤ c % ((n : Int) + 1) := Int.emod_nonneg _ (by omega)
    have h2 : c % ((n : Int) + 1) < (n : Int) + 1 := Int.emod_lt_of_pos _ (by omega)
    have := Option.some.inj h
    rw [← this, fn_val (by omega)]
    omega
theorem lf_of {n : Nat} (hn : n ≤ 6) {c : Int} {k : Nat} (hk : k < n) (h : c % ((n : Int) + 1) = k) : lf n c = some (fn k) := by
  unfold lf
  rw [if_neg (by omega), h]
  rfl
theorem names_iff {n : Nat} (hn : n ≤ 6) {l : List Int} {k : Nat} (hk : k < n) : names n l k = true ↔ ∃ c ∈ l, lf n c = some (fn k) := by
  unfold names
  rw [List.any_eq_true]
  constructor
  · rintro ⟨c, hc, h⟩
    exact ⟨c, hc, lf_of hn hk (of_decide_eq_true h)⟩
  · rintro ⟨c, hc, h⟩
    refine ⟨c, hc, decide_eq_true ?_⟩
    have := (lf_some hn h).2
    rw [fn_val (by omega)] at this
    exact this

/-- The matrix before the k-th round of the closure. -/
def clo (M : Nat → Nat → Bool) : Nat → Nat → Nat → Bool
  | 0 => M
  | k + 1 => fun i j => clo M k i j || (clo M k i k && clo M k k j)

theorem clo_refl {M : Nat → Nat → Bool} (hM : ∀ i, M i i = true) : ∀ k i, clo M k i i = true
  | 0, i => hM i
  | k + 1, i => by simp [clo, clo_refl hM k i]
theorem clo_mono {M : Nat → Nat → Bool} {i j : Nat} (h : M i j = true) : ∀ k, clo M k i j = true
  | 0 => h
  | k + 1 => by simp [clo, clo_mono h k]
theorem clo_through {M : Nat → Nat → Bool} (hM : ∀ i, M i i = true) : ∀ k m i j, m < k → clo M k i m = true → clo M k m j = true → clo M k i j = true
  | 0, _, _, _, h, _, _ => absurd h (Nat.not_lt_zero _)
  | k + 1, m, i, j, h, h1, h2 => by
    have ih := clo_through hM k
    have hr := clo_refl hM k k
    simp only [clo, Bool.or_eq_true, Bool.and_eq_true] at h1 h2 ⊢
    by_cases hm : m = k
    · subst hm
      rcases h1 with h1 | ⟨h1, _⟩ <;> rcases h2 with h2 | ⟨_, h2⟩ <;> exact .inr ⟨h1, h2⟩
    · have hlt : m < k := by omega
      rcases h1 with h1 | ⟨h1, h1'⟩ <;> rcases h2 with h2 | ⟨h2, h2'⟩
      · exact .inl (ih m i j hlt h1 h2)
      · exact .inr ⟨ih m i k hlt h1 h2, h2'⟩
      · exact .inr ⟨h1, ih m k j hlt h1' h2⟩
      · exact .inr ⟨h1, h2'⟩
theorem clo_sound {M : Nat → Nat → Bool} {P : Nat → Nat → Prop} (n : Nat) (hP : ∀ i j, i < n → j < n → M i j = true → P i j) (ht : ∀ i j k, P i j → P j k → P i k) : ∀ k, k ≤ n → ∀ i j, i < n → j < n → clo M k i j = true → P i j
  | 0, _, i, j, hi, hj, h => hP i j hi hj h
  | k + 1, hk, i, j, hi, hj, h => by
    have ih := clo_sound n hP ht k (by omega)
    simp only [clo, Bool.or_eq_true, Bool.and_eq_true] at h
    rcases h with h | ⟨h1, h2⟩
    · exact ih i j hi hj h
    · exact ht i k j (ih i k hi (by omega) h1) (ih k j (by omega) hj h2)

theorem reach_trans {L : Fin 26 → List Leaf} {a b c : Fin 26} (h : Reach L a b) (k : Reach L b c) : Reach L a c := by
  obtain ⟨n, hn⟩ := k
  induction n generalizing c with
  | zero => have : b = c := hn; rw [← this]; exact h
  | succ n ih =>
    obtain ⟨d, hd, e⟩ := hn
    exact (ih hd).step e

variable {n : Nat} {op : Nat → Nat} {ks es : Nat → List Int}

def adj0 (n : Nat) (ks es : Nat → List Int) (i j : Nat) : Bool := names n (ks i ++ es i) j || decide (i = j)

theorem exact_edge (hn : n ≤ 6) (hop : ∀ i, op i ≤ 1) {a b : Fin 26} : Edge (exactL n op ks es) a b ↔ ∃ c ∈ ks a.val ++ es a.val, lf n c = some b := by
  constructor
  · rintro ⟨st, h⟩
    obtain ⟨c, hc, e⟩ := expr_mem (hop a.val) h
    exact ⟨c, hc, e.symm⟩
  · rintro ⟨c, hc, e⟩
    obtain ⟨st, h⟩ := mem_expr (n := n) (op := op a.val) hc
    rw [e] at h
    exact ⟨st, h⟩

theorem exact_reach (hn : n ≤ 6) (hop : ∀ i, op i ≤ 1) {s r : Nat} (hs : s < n) (hr : r < n) : clo (adj0 n ks es) n s r = true ↔ Reach (exactL n op ks es) (fn s) (fn r) := by
  have hrefl : ∀ i, adj0 n ks es i i = true := fun i => by simp [adj0]
  constructor
  · intro h
    refine clo_sound (P := fun i j => Reach (exactL n op ks es) (fn i) (fn j)) n ?_ (fun i j k => reach_trans) n (Nat.le_refl _) s r hs hr h
    intro i j hi hj h
    simp only [adj0, Bool.or_eq_true, decide_eq_true_eq] at h
    rcases h with h | rfl
    · obtain ⟨c, hc, e⟩ := (names_iff hn hj).1 h
      exact (Reach.refl _ _).step ((exact_edge hn hop).2 ⟨c, by rw [fn_val (by omega)]; exact hc, e⟩)
    · exact Reach.refl _ _
  · rintro ⟨m, hm⟩
    have hall : ∀ m b, ReachN (exactL n op ks es) m (fn s) b → b.val < n ∧ clo (adj0 n ks es) n s b.val = true := by
      intro m
      induction m with
      | zero => intro b hb; have : fn s = b := hb; subst this; rw [fn_val (by omega)]; exact ⟨hs, clo_refl hrefl n s⟩
      | succ m ih =>
        rintro b ⟨c, hc, he⟩
        obtain ⟨c1, c2⟩ := ih c hc
        obtain ⟨x, hx, e⟩ := (exact_edge hn hop).1 he
        have hb := lf_some hn e
        refine ⟨hb.1, clo_through hrefl n c.val s b.val c1 c2 (clo_mono ?_ n)⟩
        have : names n (ks c.val ++ es c.val) b.val = true := (names_iff hn hb.1).2 ⟨x, hx, by rw [fn_of]; exact e⟩
        simp [adj0, this]
    have := (hall m _ hm).2
    rwa [fn_val (by omega)] at this

theorem exact_bad (hn : n ≤ 6) (hop : ∀ i, op i ≤ 1) {r : Nat} (hr : r < n) : Bad (exactL n op ks es) (fn r) (exactL n op ks es (fn r)) ↔ ∃ s, s < n ∧ names n (es r) s = true ∧ clo (adj0 n ks es) n s r = true := by
  have hv : (fn r).val = r := fn_val (by omega)
  constructor
  · rintro ⟨k, hk, hre⟩
    unfold exactL at hk
    rw [hv] at hk
    obtain ⟨c, hc, e⟩ := (expr_excl (hop r)).1 hk
    have hb := lf_some hn e.symm
    refine ⟨k.val, hb.1, (names_iff hn hb.1).2 ⟨c, hc, by rw [fn_of]; exact e.symm⟩, (exact_reach hn hop hb.1 hr).2 (by rw [fn_of]; exact hre)⟩
  · rintro ⟨s, hs, h1, h2⟩
    obtain ⟨c, hc, e⟩ := (names_iff hn hs).1 h1
    refine ⟨fn s, ?_, (exact_reach hn hop hs hr).1 h2⟩
    unfold exactL
    rw [hv]
    exact (expr_excl (hop r)).2 ⟨c, hc, e.symm⟩

theorem exact_names (hn : n ≤ 6) (hop : ∀ i, op i ≤ 1) (k : Fin 26) : ∀ o st, (some o, st) ∈ exactL n op ks es k → o.val < n := fun o st h => by
  obtain ⟨c, _, e⟩ := expr_mem (hop k.val) h
  exact (lf_some hn e.symm).1
end Go.Proofs.YbulkdblgFmt
