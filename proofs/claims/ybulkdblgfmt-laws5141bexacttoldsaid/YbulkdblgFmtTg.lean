/-
  LawS5141BExact: one round of the building, its states.
-/
import Derived.Test.YbulkdblgFmtTf
namespace Go.Proofs.YbulkdblgFmt
open Go.RowKit Go.Shelf

theorem info57 : (Ybaf.prog.info? 57).map (fun i => (i.zero, i.size, i.bytes)) = some (some .nilIface, 1, 16) := by kernel_rfl

def opN (oB : Nat → Int) (i : Nat) : Nat := if oB i % 2 = 1 then 1 else 0
theorem opN_le (oB : Nat → Int) (i : Nat) : opN oB i ≤ 1 := by unfold opN; split <;> omega

/-- Within one of the two loops over codes: l has been laid. -/
structure Kin (w S : World) (mb A E n : Nat) (MA ME : Nat → Nat → Bool) (l : List Int) (sv : Value) (X : World) : Prop where
  row : X.ownsRow S.heap.size 57 1 sv l.length (l.map fun c => tv (lf n c))
  nn : sv ≠ .slice none 0 0
  gr : Gr w S mb X
  mA : Mat X A n MA
  mE : Mat X E n ME

variable {w S X X' : World} {mb A E n : Nat} {MA ME : Nat → Nat → Bool} {l : List Int} {sv : Value}

theorem Kin.start (hb : Below w.heap.size w S) (hm : mb < S.heap.size) (hA : Mat S A n MA) (hE : Mat S E n ME) : Kin w S mb A E n MA ME [] (.slice (some ⟨S.heap.size, 0, none⟩) 0 0) (S.alloc (.cells #[] 57)) :=
  ⟨⟨rfl, .inr ⟨S.heap.size, 0, #[], rfl, Nat.le_refl _, World.alloc_heap_new S _, Nat.le_refl _, Nat.zero_le _, rfl, rfl⟩⟩, by simp, (Gr.refl hb).alloc hm _, hA.alloc _, hE.alloc _⟩

theorem Kin.push {c : Int} {o : Obj} {v' u : Value} (h : Kin w S mb A E n MA ME l sv X) (hm : mb < S.heap.size) (hw : w.heap.size ≤ S.heap.size) (hA : A < S.heap.size) (hE : E < S.heap.size) (hu : u = tv (lf n c))
    (hr : X'.ownsRow S.heap.size 57 1 v' (l.length + 1) (l.map (fun c => tv (lf n c)) ++ [u])) (hg : (X.alloc o).grownBy X' sv.ownBlock) (hnil : ¬ v' = .slice none 0 0) : Kin w S mb A E n MA ME (l ++ [c]) v' X' := by
  have hb : ∀ b, b < S.heap.size → X'.heap[b]? = X.heap[b]? := fun b hb => by
    rw [hg.block b (by have := h.gr.size; simp; omega) (fun e => by have := own_ge h.row e.symm; omega), Below.heap_alloc X o b (Nat.lt_of_lt_of_le hb h.gr.size)]
  refine ⟨?_, hnil, h.gr.append hm hw h.row hg, h.mA.block (hb A hA), h.mE.block (hb E hE)⟩
  rw [List.length_append, List.map_append]
  subst hu
  exact hr

theorem rowSet {B e sz k b o : Nat} {v u : Value} {xs : List Value} (h : X.ownsRow B e sz v k xs) (hb : b < B) : (X.setCell ⟨b, o, none⟩ u).ownsRow B e sz v k xs := by
  obtain ⟨h1, h2⟩ := h
  refine ⟨h1, ?_⟩
  rcases h2 with h2 | ⟨g, cap, cur, e1, e2, e3, e4⟩
  · exact .inl h2
  · exact .inr ⟨g, cap, cur, e1, e2, (Below.heap_setCell X ⟨b, o, none⟩ u g (by show g ≠ b; omega)).trans e3, e4⟩

theorem Kin.setA {i j : Nat} {M' : Nat → Nat → Bool} (h : Kin w S mb A E n MA ME l sv X) (hn : n ≤ 6) (hi : i < n) (hj : j < n) (hmA : mb ≠ A) (hEA : E ≠ A) (hwA : w.heap.size ≤ A) (hA : A < S.heap.size) (he : ∀ a c, a < n → c < n → M' a c = if a = i ∧ c = j then true else MA a c) :
    Kin w S mb A E n M' ME l sv (X.setCell ⟨A, i * 6 + j, none⟩ (.bool true)) :=
  ⟨rowSet h.row hA, h.nn, h.gr.set (h.mA.cel i j hi hj) hmA hwA, h.mA.set hn hi hj he, h.mE.other hEA⟩
theorem Kin.setE {i j : Nat} {M' : Nat → Nat → Bool} (h : Kin w S mb A E n MA ME l sv X) (hn : n ≤ 6) (hi : i < n) (hj : j < n) (hmE : mb ≠ E) (hAE : A ≠ E) (hwE : w.heap.size ≤ E) (hE : E < S.heap.size) (he : ∀ a c, a < n → c < n → M' a c = if a = i ∧ c = j then true else ME a c) :
    Kin w S mb A E n MA M' l sv (X.setCell ⟨E, i * 6 + j, none⟩ (.bool true)) :=
  ⟨rowSet h.row hE, h.nn, h.gr.set (h.mE.cel i j hi hj) hmE hwE, h.mA.other hAE, h.mE.set hn hi hj he⟩
theorem Kin.ext {MA' ME' : Nat → Nat → Bool} (h : Kin w S mb A E n MA ME l sv X) (hA : ∀ i j, i < n → j < n → MA i j = MA' i j) (hE : ∀ i j, i < n → j < n → ME i j = ME' i j) : Kin w S mb A E n MA' ME' l sv X :=
  ⟨h.row, h.nn, h.gr, h.mA.ext hA, h.mE.ext hE⟩

theorem Kin.opened (h : Kin w S mb A E n MA ME l sv X) : ∃ g cap, sv = .slice (some ⟨g, 0, none⟩) l.length cap ∧ S.heap.size ≤ g ∧ g < X.heap.size ∧ ∀ j c, l[j]? = some c → X.cell? ⟨g, j, none⟩ = some (tv (lf n c)) := by
  rcases h.row.2 with ⟨e, _⟩ | ⟨g, cap, cur, e, h1, h2, h3, h4, h5, h6⟩
  · exact absurd e h.nn
  · refine ⟨g, cap, e, h1, (Array.getElem?_eq_some_iff.1 h2).1, fun j c hj => ?_⟩
    have hlt := (List.getElem?_eq_some_iff.1 hj).1
    have e1 : (cur.toList.take (l.length * 1))[j]? = some (tv (lf n c)) := by rw [h6, List.getElem?_map, hj]; rfl
    rw [List.getElem?_take, if_pos (by omega)] at e1
    simpa [World.cell?, h2] using e1

theorem names_snoc (n : Nat) (l : List Int) (c : Int) (b : Nat) : names n (l ++ [c]) b = (names n l b || decide (c % ((n : Int) + 1) = b)) := by simp [names]
theorem names_app (n : Nat) (l m : List Int) (b : Nat) : names n (l ++ m) b = (names n l b || names n m b) := by simp [names]

/-- The rows laid before row i. -/
def lowA (n : Nat) (kS eS : Nat → List Int) (i a b : Nat) : Bool := decide (a < i) && names n (kS a ++ eS a) b
def lowE (n : Nat) (eS : Nat → List Int) (i a b : Nat) : Bool := decide (a < i) && names n (eS a) b
/-- And a part of row i. -/
def withRow (M : Nat → Nat → Bool) (n i : Nat) (l : List Int) (a b : Nat) : Bool := M a b || (decide (a = i) && names n l b)
theorem withRow_nil (M : Nat → Nat → Bool) (n i a b : Nat) : M a b = withRow M n i [] a b := by simp [withRow, names]
theorem withRow_miss {M : Nat → Nat → Bool} {n i : Nat} {l : List Int} {c : Int} (h : c % ((n : Int) + 1) = n) {a b : Nat} (hb : b < n) : withRow M n i l a b = withRow M n i (l ++ [c]) a b := by
  have : ¬ (c % ((n : Int) + 1) = b) := by omega
  simp [withRow, names_snoc, this]
theorem withRow_hit {M : Nat → Nat → Bool} {n i k : Nat} {l : List Int} {c : Int} (h : c % ((n : Int) + 1) = k) (a b : Nat) : withRow M n i (l ++ [c]) a b = if a = i ∧ b = k then true else withRow M n i l a b := by
  by_cases ha : a = i
  · by_cases hb : b = k
    · subst ha hb
      simp [withRow, names_snoc, h]
    · have : ¬ (c % ((n : Int) + 1) = b) := by omega
      simp [withRow, names_snoc, this, ha, hb]
  · simp [withRow, ha]
theorem withRow_lowA (n i : Nat) (kS eS : Nat → List Int) (a b : Nat) : withRow (lowA n kS eS i) n i (kS i ++ eS i) a b = lowA n kS eS (i + 1) a b := by
  unfold withRow lowA
  by_cases h : a = i
  · subst h; simp
  · have : (decide (a < i + 1)) = decide (a < i) := by congr 1; simp; omega
    simp [h, this]
theorem withRow_lowE (n i : Nat) (eS : Nat → List Int) (a b : Nat) : withRow (lowE n eS i) n i (eS i) a b = lowE n eS (i + 1) a b := by
  unfold withRow lowE
  by_cases h : a = i
  · subst h; simp
  · have : (decide (a < i + 1)) = decide (a < i) := by congr 1; simp; omega
    simp [h, this]
theorem withRow_app (M : Nat → Nat → Bool) (n i : Nat) (l m : List Int) (a b : Nat) : withRow M n i (l ++ m) a b = withRow (withRow M n i l) n i m a b := by
  simp [withRow, names_app, Bool.and_or_distrib_left, Bool.or_assoc]

/-- Between two rounds of the building. -/
structure Bld (w : World) (mb n : Nat) (oB : Nat → Int) (kV eV : Nat → Value) (kS eS : Nat → List Int) (i : Nat) (W : World) : Prop where
  pre : Pre w (mb + 1) mb (exactL n (opN oB) kS eS) i W
  rws : ∀ j, j < n → Rw W w.heap.size j (oB j) (kV j) (eV j)
  new : w.heap.size < mb
  mA : Mat W (mb + 1 + 1) n (lowA n kS eS i)
  mE : Mat W (mb + 1 + 1 + 1) n (lowE n eS i)

theorem Gr.trans {W Y : World} (h : Gr w W mb X) (k : Gr w X mb Y) : Gr w W mb Y := ⟨h.kept.trans (k.kept.mono h.size), Nat.le_trans h.size k.size, k.map.trans h.map, k.bel⟩

theorem Rw.keptB {W Y : World} {n0 sb i : Nat} {o : Int} {k e : Value} (h : Rw W sb i o k e) (hk : KeptB n0 W Y) (hsb : sb < n0) (nk : notBool k) (ne : notBool e) : Rw Y sb i o k e :=
  ⟨hk ⟨sb, i * 3, none⟩ _ hsb (fun b e => by cases e) h.1, hk ⟨sb, i * 3 + 1, none⟩ _ hsb nk h.2.1, hk ⟨sb, i * 3 + 2, none⟩ _ hsb ne h.2.2⟩
theorem SliceU.notBool {v : Value} {xs : List Int} (h : SliceU w v xs) : notBool v := by
  obtain ⟨a, cap, rfl, _⟩ := h
  exact fun b e => by cases e

theorem Bld.step {W W' : World} {oB : Nat → Int} {kV eV : Nat → Value} {kS eS : Nat → List Int} {i r h : Nat} {v : Value} {f : List UInt8 → Option Value} {rb : Fin 26 → Nat} (hB : Bld w mb n oB kV eV kS eS i W) (hi : i < 26) (hnk : ∀ j, notBool (kV j)) (hne : ∀ j, notBool (eV j))
    (hrels : ∀ k : Fin 26, k.val < i → f (nb k) = some (.pointer (some ⟨rb k, 0, none⟩)) ∧ rb k < W.heap.size ∧ W.cell? ⟨rb k, 0, none⟩ = some (.string (nm k)) ∧ ∃ v h, W.cell? ⟨rb k, 2, none⟩ = some v ∧ IsTm W.heap.size W h v (exactL n (opN oB) kS eS k))
    (hX : Gr w W mb X) (mA : Mat X (mb + 1 + 1) n (lowA n kS eS (i + 1))) (mE : Mat X (mb + 1 + 1 + 1) n (lowE n eS (i + 1)))
    (hm : MapIs W' mb (i + 1) (upd f (nb (fn i)) (.pointer (some ⟨r, 0, none⟩)))) (ht : X.mapTurned W' mb) (hr : r < X.heap.size) (h0 : X.cell? ⟨r, 0, none⟩ = some (.string (nm (fn i)))) (h2 : X.cell? ⟨r, 2, none⟩ = some v)
    (hT : IsTm X.heap.size X h v (exprL n (opN oB i) (kS i) (eS i))) : Bld w mb n oB kV eV kS eS (i + 1) W' := by
  have hv := fn_val hi
  have hg := World.mapTurned.grown ht
  have hkt := CellsKept.turned ht
  have hsz := hX.size
  refine ⟨?_, fun j hj => ?_, hB.new, mA.block (hg.block _ mA.lt (fun e => by have := Option.some.inj e; omega)), mE.block (hg.block _ mE.lt (fun e => by have := Option.some.inj e; omega))⟩
  · have hT' : IsTm X.heap.size X h v (exactL n (opN oB) kS eS (fn i)) := by unfold exactL; rw [hv]; exact hT
    have hm' : MapIs W' mb ((fn i).val + 1) (upd f (nb (fn i)) (.pointer (some ⟨r, 0, none⟩))) := by rw [hv]; exact hm
    have := Pre.add (k := fn i) (f := f) (rb := rb) (hX.kept _ _ hB.pre.htb (fun b e => by cases e) hB.pre.cell) (Nat.lt_of_lt_of_le hB.pre.htb hsz) (Nat.lt_of_lt_of_le hB.pre.hmb hsz) hB.pre.new hX.bel (fun j hj => by
      obtain ⟨a1, a2, a3, v', h', a4, a5⟩ := hrels j (by rw [hv] at hj; exact hj)
      exact ⟨a1, Nat.lt_of_lt_of_le a2 hsz, hX.kept _ _ a2 (fun b e => by cases e) a3, v', h', hX.kept _ _ a2 a5.notBool a4, (a5.keptB hX.kept).mono hsz⟩) hm' ht hr h0 h2 hT'
    rwa [hv] at this
  · have h1 := (hB.rws j hj).keptB hX.kept (Nat.lt_trans hB.new hB.pre.hmb) (hnk j) (hne j)
    exact ⟨hkt _ _ h1.1, hkt _ _ h1.2.1, hkt _ _ h1.2.2⟩

/-- The two sides of a 'but not'. -/
theorem isTm_butnot {n0 : Nat} {Y : World} {b c : Nat} {v1 v2 : Value} {G1 G2 : List Leaf} (hb : b < n0) (h0 : Y.cell? ⟨b, 0, none⟩ = some v1) (h1 : Y.cell? ⟨b, 1, none⟩ = some v2) (t1 : IsTm n0 Y 1 v1 G1) (t2 : IsTm n0 Y 1 v2 G2) :
    IsTm n0 Y 2 (.iface 60 (.agg #[.int .i64 2, .slice (some ⟨b, 0, none⟩) 2 c])) (weak 1 G1 ++ weak 2 G2) := by
  refine Or.inr ⟨2, b, 0, c, [(v1, G1), (v2, G2)], rfl, hb, by simp, by simp, fun i s hi => ?_, by simp [sides, inOf]⟩
  match i, hi with
  | 0, hi => simp at hi; subst hi; exact ⟨by simpa using h0, t1⟩
  | 1, hi => simp at hi; subst hi; exact ⟨by simpa using h1, t2⟩
  | i + 2, hi => simp at hi
theorem false36 (i j n : Nat) (hn : n ≤ 6) (hi : i < n) (hj : j < n) : (#[.bool false, .bool false, .bool false, .bool false, .bool false, .bool false, .bool false, .bool false, .bool false, .bool false, .bool false, .bool false, .bool false, .bool false, .bool false, .bool false, .bool false, .bool false, .bool false, .bool false, .bool false, .bool false, .bool false, .bool false, .bool false, .bool false, .bool false, .bool false, .bool false, .bool false, .bool false, .bool false, .bool false, .bool false, .bool false, .bool false] : Array Value)[i * 6 + j]? = some (.bool false) := by
  have e : (#[.bool false, .bool false, .bool false, .bool false, .bool false, .bool false, .bool false, .bool false, .bool false, .bool false, .bool false, .bool false, .bool false, .bool false, .bool false, .bool false, .bool false, .bool false, .bool false, .bool false, .bool false, .bool false, .bool false, .bool false, .bool false, .bool false, .bool false, .bool false, .bool false, .bool false, .bool false, .bool false, .bool false, .bool false, .bool false, .bool false] : Array Value) = (List.replicate 36 (.bool false)).toArray := rfl
  rw [e, List.getElem?_toArray, List.getElem?_replicate, if_pos (by omega)]
theorem Mat.new (W : World) (n : Nat) (hn : n ≤ 6) (M : Nat → Nat → Bool) (hM : ∀ i j, M i j = false) : Mat (W.alloc (.cells #[.bool false, .bool false, .bool false, .bool false, .bool false, .bool false, .bool false, .bool false, .bool false, .bool false, .bool false, .bool false, .bool false, .bool false, .bool false, .bool false, .bool false, .bool false, .bool false, .bool false, .bool false, .bool false, .bool false, .bool false, .bool false, .bool false, .bool false, .bool false, .bool false, .bool false, .bool false, .bool false, .bool false, .bool false, .bool false, .bool false] 49)) W.heap.size n M :=
  ⟨⟨_, _, World.alloc_heap_new W _⟩, fun i j hi hj => by rw [World.cell?_alloc_at (w := W) _ _ W.heap.size _ rfl, hM]; exact false36 i j n hn hi hj⟩
theorem Bld.start {w W1 : World} {n : Nat} {oB : Nat → Int} {kV eV : Nat → Value} (kS eS : Nat → List Int) (hn : n ≤ 6) (hS : Spc w n oB kV eV n W1) :
    Bld w W1.heap.size n oB kV eV kS eS 0 ((((W1.alloc (.map #[] 0)).alloc (.cells #[.string ⟨#[100, 111, 99]⟩, .int .i64 0, .map (some W1.heap.size), .map none, .bool false] 47)).alloc (.cells #[.bool false, .bool false, .bool false, .bool false, .bool false, .bool false, .bool false, .bool false, .bool false, .bool false, .bool false, .bool false, .bool false, .bool false, .bool false, .bool false, .bool false, .bool false, .bool false, .bool false, .bool false, .bool false, .bool false, .bool false, .bool false, .bool false, .bool false, .bool false, .bool false, .bool false, .bool false, .bool false, .bool false, .bool false, .bool false, .bool false] 49)).alloc (.cells #[.bool false, .bool false, .bool false, .bool false, .bool false, .bool false, .bool false, .bool false, .bool false, .bool false, .bool false, .bool false, .bool false, .bool false, .bool false, .bool false, .bool false, .bool false, .bool false, .bool false, .bool false, .bool false, .bool false, .bool false, .bool false, .bool false, .bool false, .bool false, .bool false, .bool false, .bool false, .bool false, .bool false, .bool false, .bool false, .bool false] 49)) := by
  obtain ⟨B47, hB47⟩ : ∃ o, (.cells #[.string ⟨#[100, 111, 99]⟩, .int .i64 0, .map (some W1.heap.size), .map none, .bool false] 47 : Obj) = o := ⟨_, rfl⟩
  have hc2 : ((W1.alloc (.map #[] 0)).alloc B47).cell? ⟨W1.heap.size + 1, 2, none⟩ = some (.map (some W1.heap.size)) := by
    rw [← hB47, World.cell?_alloc_at (w := W1.alloc (.map #[] 0)) _ _ (W1.heap.size + 1) 2 (by simp)]
    rfl
  rw [hB47]
  have mA := Mat.new ((W1.alloc (.map #[] 0)).alloc B47) n hn (lowA n kS eS 0) (fun i j => by simp [lowA])
  have mE := Mat.new (((W1.alloc (.map #[] 0)).alloc B47).alloc (.cells #[.bool false, .bool false, .bool false, .bool false, .bool false, .bool false, .bool false, .bool false, .bool false, .bool false, .bool false, .bool false, .bool false, .bool false, .bool false, .bool false, .bool false, .bool false, .bool false, .bool false, .bool false, .bool false, .bool false, .bool false, .bool false, .bool false, .bool false, .bool false, .bool false, .bool false, .bool false, .bool false, .bool false, .bool false, .bool false, .bool false] 49)) n hn (lowE n eS 0) (fun i j => by simp [lowE])
  simp only [World.size_alloc] at mA mE
  obtain ⟨M49, h49⟩ : ∃ o, (.cells #[.bool false, .bool false, .bool false, .bool false, .bool false, .bool false, .bool false, .bool false, .bool false, .bool false, .bool false, .bool false, .bool false, .bool false, .bool false, .bool false, .bool false, .bool false, .bool false, .bool false, .bool false, .bool false, .bool false, .bool false, .bool false, .bool false, .bool false, .bool false, .bool false, .bool false, .bool false, .bool false, .bool false, .bool false, .bool false, .bool false] 49 : Obj) = o := ⟨_, rfl⟩
  rw [h49] at mA mE ⊢
  have hb := (((hS.bel.alloc hS.bel.size (.map #[] 0)).alloc (by have := hS.bel.size; simp; omega) B47).alloc (by have := hS.bel.size; simp; omega) M49).alloc (by have := hS.bel.size; simp; omega) M49
  have hk := (((CellsKept.alloc W1 (.map #[] 0)).trans (CellsKept.alloc _ B47)).trans (CellsKept.alloc _ M49)).trans (CellsKept.alloc _ M49)
  have hk2 := (CellsKept.alloc ((W1.alloc (.map #[] 0)).alloc B47) M49).trans (CellsKept.alloc _ M49)
  refine ⟨⟨hk2 _ _ hc2, by simp <;> omega, by simp <;> omega, hS.bel.size, hb, fun _ => none, fun _ => 0, (((MapIs.made W1).alloc _).alloc _).alloc _, fun k hk => absurd hk (Nat.not_lt_zero _)⟩, fun j hj => ?_, hS.lt, mA.alloc _, mE⟩
  obtain ⟨a, b, c⟩ := hS.old j hj hj
  exact ⟨hk _ _ a, hk _ _ b, hk _ _ c⟩
theorem cells57_new (W : World) (a : Value) : ∀ (j : Nat) (u : Value), ([a] : List Value)[j]? = some u → (W.alloc (.cells #[a] 57)).cell? (Addr.add ⟨W.heap.size, 0, none⟩ j) = some u := fun j u hu => by
  rw [WideShapes.add_plain, Nat.zero_add, World.cell?_alloc_at (w := W) _ _ W.heap.size j rfl]
  simpa using hu
theorem tv_none {n : Nat} {c : Int} (h : c % ((n : Int) + 1) = n) : Value.iface 52 (.agg #[.string ⟨#[112]⟩, .string ⟨#[113]⟩]) = tv (lf n c) := by
  unfold lf
  rw [if_pos h]
  rfl
theorem tv_some {n k : Nat} {c : Int} (hn : n ≤ 6) (hk : k < n) (h : c % ((n : Int) + 1) = k) : Value.iface 53 (.string (nm (fn k))) = tv (lf n c) := by
  rw [lf_of hn hk h]
  rfl
end Go.Proofs.YbulkdblgFmt
