/-
  checkExclusions.
-/
import Derived.Test.YbulkdblgFmtTr
import Derived.Test.YbulkdblgFmtTx
import Derived.Test.YbulkdblgFmtShelf
namespace Go.Proofs.YbulkdblgFmt
open Go.RowKit Go.Shelf Go.Extern.Stop Go.Stop Go.Extern
attribute [local go_sem] Oper.semAt_some call17 guardF pA op9_113 act9_113 op53_113 act53_113

/-- Relation a excludes one that comes back to a. -/
def Bad (L : Fin 26 → List Leaf) (a : Fin 26) (G : List Leaf) : Prop := ∃ k, (some k, 2) ∈ G ∧ Reach L k a

theorem IsTm.mono {n0 n1 : Nat} {W : World} (hn : n0 ≤ n1) : ∀ {h : Nat} {v : Value} {G : List Leaf}, IsTm n0 W h v G → IsTm n1 W h v G
  | 0, _, _, ht => ht
  | h + 1, _, _, Or.inl ht => Or.inl (IsTm.mono hn (h := h) ht)
  | h + 1, _, _, Or.inr ⟨op, b, off, cap, subs, e, hlt, hl, ho, hs, hG⟩ => Or.inr ⟨op, b, off, cap, subs, e, Nat.lt_of_lt_of_le hlt hn, hl, ho, fun i s hi => ⟨(hs i s hi).1, IsTm.mono hn (h := h) (hs i s hi).2⟩, hG⟩
theorem Graph.mono {n0 n1 : Nat} {w : World} {tb : Nat} {R : Fin 26 → Prop} {L : Fin 26 → List Leaf} (h : Graph n0 w tb R L) (hn : n0 ≤ n1) : Graph n1 w tb R L := by
  obtain ⟨mb, n, f, rb, h1, h2, h3, h4, h5⟩ := h
  refine ⟨mb, n, f, rb, Nat.lt_of_lt_of_le h1 hn, Nat.lt_of_lt_of_le h2 hn, h3, h4, fun k hk => ?_⟩
  obtain ⟨a1, a2, a3, ⟨v, h, a4, a5⟩, a6⟩ := h5 k hk
  exact ⟨a1, Nat.lt_of_lt_of_le a2 hn, a3, ⟨v, h, a4, a5.mono hn⟩, a6⟩

theorem rowBelow {w w' : World} {B e sz n : Nat} {v : Value} {xs : List Value} (h : w.ownsRow B e sz v n xs) (hb : Below w.heap.size w w') : w'.ownsRow B e sz v n xs := by
  obtain ⟨h1, h2⟩ := h
  refine ⟨h1, ?_⟩
  rcases h2 with h2 | ⟨g, cap, cur, e1, e2, e3, e4⟩
  · exact .inl h2
  · exact .inr ⟨g, cap, cur, e1, e2, (hb.block g (Array.getElem?_eq_some_iff.1 e3).1).trans e3, e4⟩

theorem own_ge {w : World} {B e sz n b : Nat} {v : Value} {xs : List Value} (h : w.ownsRow B e sz v n xs) (hb : v.ownBlock = some b) : B ≤ b := by
  rcases h.2 with ⟨rfl, _⟩ | ⟨g, cap, cur, rfl, h1, _⟩
  · cases hb
  · have : g = b := Option.some.inj hb
    omega
theorem cells1_new (W : World) (a : Value) : ∀ (j : Nat) (u : Value), ([a] : List Value)[j]? = some u → (W.alloc (.cells #[a] 9)).cell? (Addr.add ⟨W.heap.size, 0, none⟩ j) = some u := fun j u hu => by
  rw [WideShapes.add_plain, Nat.zero_add, World.cell?_alloc_at (w := W) _ _ W.heap.size j rfl]
  simpa using hu

theorem join_length (sep : List UInt8) (hsep : sep.length ≤ 2) : ∀ (xs : List (List UInt8)), (∀ x ∈ xs, x.length ≤ 200) → (Lib.join xs sep).length ≤ xs.length * 202
  | [], _ => by simp [Lib.join_nil]
  | x :: r, h => by
    rw [Lib.join_length]
    have h1 : ∀ (l : List (List UInt8)), (∀ x ∈ l, x.length ≤ 200) → Lib.lens l ≤ l.length * 200 := by
      intro l
      induction l with
      | nil => intro _; simp [Lib.lens]
      | cons a l ih =>
        intro hl
        have := ih (fun x hx => hl x (List.mem_cons_of_mem _ hx))
        have h2 := hl a List.mem_cons_self
        simp only [Lib.lens, List.map_cons, List.sum_cons, List.length_cons] at *
        omega
    have h3 := h1 (x :: r) h
    have h4 : sep.length * r.length ≤ 2 * r.length := Nat.mul_le_mul_right _ hsep
    simp only [List.length_cons] at *
    omega

theorem join_in (m gs cs : Nat) (strs : List ByteArray) (cur : Array Value) (W : World) (hb : W.heap[gs]? = some (.cells cur 9 (0, 0))) (hcur : cur.toList.take strs.length = strs.map .string) (hss : ∀ s ∈ strs, s.size ≤ 200) (hl : strs.length ≤ 100) (hcs : strs.length ≤ cs) :
    CallsIn Fence.wide m Ybaf.prog 20 #[.slice (some ⟨gs, 0, none⟩) strs.length cs, .string ⟨#[44, 32]⟩] W fun e W' => ∃ js, e = .returned (.string js) ∧ Below W.heap.size W W' := by
  refine callsIn_wide.2 ((Ybaf.strings_Join gs 0 cs strs ⟨#[44, 32]⟩ W (fun j x hx => ?_) (Array.getElem?_eq_some_iff.1 hb).1 (by omega) hcs ?_).mono ?_)
  · have e1 : (cur.toList.take strs.length)[j]? = some (.string x) := by rw [hcur, List.getElem?_map, hx]; rfl
    have hj := (List.getElem?_eq_some_iff.1 hx).1
    rw [List.getElem?_take, if_pos hj] at e1
    simpa [World.cell?, hb] using e1
  · have := join_length [44, 32] (by decide) (strs.map (·.data.toList)) (fun x hx => by
      obtain ⟨s, hs, rfl⟩ := List.mem_map.1 hx
      have := hss s hs
      simpa using this)
    simp only [List.length_map] at this
    have e2 : (⟨#[44, 32]⟩ : ByteArray).data.toList = [44, 32] := rfl
    rw [e2]
    omega
  · rintro e W' ⟨rfl, hb'⟩
    exact ⟨_, rfl, hb'⟩
theorem errorf_in (m : Nat) (F : Interp) (W : World) (x y : ByteArray) (hF : F.answers W.tape) :
    CallsIn Fence.wide m Ybaf.prog 19 #[.string ⟨#[114, 101, 108, 97, 116, 105, 111, 110, 32, 37, 113, 32, 100, 101, 112, 101, 110, 100, 115, 32, 111, 110, 32, 105, 116, 115, 101, 108, 102, 32, 116, 104, 114, 111, 117, 103, 104, 32, 34, 98, 117, 116, 32, 110, 111, 116, 34, 58, 32, 37, 115]⟩, .slice (some ⟨W.heap.size, 0, none⟩) 2 2]
      (W.alloc (.cells #[.iface 9 (.string x), .iface 9 (.string y)] 20)) fun e W' => (∃ t v, e = .returned (.iface t v)) ∧ Below (W.alloc (.cells #[.iface 9 (.string x), .iface 9 (.string y)] 20)).heap.size (W.alloc (.cells #[.iface 9 (.string x), .iface 9 (.string y)] 20)) W' :=
  callsIn_wide.2 (errorf_any F W.heap.size x y (W.alloc (.cells #[.iface 9 (.string x), .iface 9 (.string y)] 20)) hF (by rw [World.cell?_alloc_at (w := W) _ _ W.heap.size 0 rfl]; rfl) (by rw [World.cell?_alloc_at (w := W) _ _ W.heap.size 1 rfl]; rfl))

/-- The function's own variables. -/
structure Ce (w : World) (tb ra : Nat) (rv : Value) (W : World) : Prop where
  b2 : Boxed W w.heap.size 43 (.pointer (some ⟨tb, 0, none⟩))
  b3 : Boxed W (w.heap.size + 1) 61 (.pointer (some ⟨ra, 0, none⟩))
  b4 : Boxed W (w.heap.size + 1 + 1) 32 rv
  bel : Below w.heap.size w W

theorem Ce.own {w A B : World} {tb ra : Nat} {rv : Value} {row : Option Nat} (h : Ce w tb ra rv A) (hg : A.grownBy B row) (hr : ∀ r, row = some r → w.heap.size ≤ r ∧ ∃ o : Obj, A.heap[r]? = some o ∧ o.isCells = false) : Ce w tb ra rv B :=
  ⟨boxedOwn h.b2 hg (fun r e => (hr r e).2), boxedOwn h.b3 hg (fun r e => (hr r e).2), boxedOwn h.b4 hg (fun r e => (hr r e).2), h.bel.grown hg h.bel.size (fun k e => (hr k e).1)⟩
theorem Ce.below {w A B : World} {tb ra : Nat} {rv : Value} (h : Ce w tb ra rv A) (hb : Below A.heap.size A B) : Ce w tb ra rv B :=
  ⟨(hb.block _ h.b2.lt).trans h.b2, (hb.block _ h.b3.lt).trans h.b3, (hb.block _ h.b4.lt).trans h.b4, h.bel.trans (hb.mono h.bel.size)⟩
theorem Ce.set {w W : World} {tb ra : Nat} {rv rv' : Value} (h : Ce w tb ra rv W) : Ce w tb ra rv' (W.setCell ⟨w.heap.size + 1 + 1, 0, none⟩ rv') :=
  ⟨(Below.heap_setCell W ⟨w.heap.size + 1 + 1, 0, none⟩ _ _ (by show w.heap.size ≠ w.heap.size + 1 + 1; omega)).trans h.b2, (Below.heap_setCell W ⟨w.heap.size + 1 + 1, 0, none⟩ _ _ (by show w.heap.size + 1 ≠ w.heap.size + 1 + 1; omega)).trans h.b3, by
    have := heap_set9 h.b4 0 rv'
    simpa [Boxed] using this, h.bel.setCell (p := ⟨w.heap.size + 1 + 1, 0, none⟩) (by show w.heap.size ≤ w.heap.size + 1 + 1; omega) _⟩
theorem keepsAll {A B : World} (hb : Below A.heap.size A B) : KeepsOthers A B := ⟨hb.size, fun k _ hk _ => (hb.block k (Array.getElem?_eq_some_iff.1 hk).1).trans hk⟩
theorem kpAll {n0 : Nat} {A B : World} (hb : Below A.heap.size A B) (hn : n0 ≤ A.heap.size) : Kp n0 A B := ⟨hb.mono hn, fun b _ hC => (hb.block b (Array.getElem?_eq_some_iff.1 hC).1).trans hC⟩

def Ci (w : World) (tb ra : Nat) (Rb : Fin 26 → Bool) (L : Fin 26 → List Leaf) (a : Fin 26) (pre : List Leaf) (W : World) : Prop := Ce w tb ra .nilIface W ∧ ¬ Bad L a (pre.map (fixL Rb))
def Cx (w : World) (tb ra : Nat) (Rb : Fin 26 → Bool) (L : Fin 26 → List Leaf) (a : Fin 26) (c : Code) (pre : List Leaf) (W : World) : Prop := c = .ret ∧ Bad L a (pre.map (fixL Rb)) ∧ ∃ t v, Ce w tb ra (.iface t v) W

theorem fix_map {Rb : Fin 26 → Bool} : ∀ {G : List Leaf}, (∀ x ∈ G, ∀ k, x.1 = some k → Rb k = true) → G.map (fixL Rb) = G
  | [], _ => rfl
  | x :: G, h => by rw [List.map_cons, fixL_ok (h x List.mem_cons_self), fix_map (fun y hy => h y (List.mem_cons_of_mem _ hy))]
theorem results11 (tmps : Array Value) (W : World) (b : Nat) (v : Value) (ht : tmps.getD 4 undef = .pointer (some ⟨b, 0, none⟩)) (hb : W.heap[b]? = some (.cells #[v] 32 (0, 0))) : (results Ybaf.f11 tmps).run Ybaf.prog W = .ok v W := by
  have hc : W.cell? ⟨b, 0, none⟩ = some v := by simp [World.cell?, hb]
  have hp' : tmps[4]?.getD undef = .pointer (some ⟨b, 0, none⟩) := by simpa using ht
  have hl : (loadVar 32 ⟨b, 0, none⟩).run Ybaf.prog W = .ok v W := by simp [go_sem, hc]
  simp [results, hp', asAddr, hl]
theorem bad_snoc {L : Fin 26 → List Leaf} {a : Fin 26} {G : List Leaf} {y : Leaf} (h : ¬ Bad L a G) (hy : ∀ k, y = (some k, 2) → ¬ Reach L k a) : ¬ Bad L a (G ++ [y]) := by
  rintro ⟨k, hk, hr⟩
  rcases List.mem_append.1 hk with hk | hk
  · exact h ⟨k, hk, hr⟩
  · simp at hk
    exact hy k hk.symm hr

set_option maxRecDepth 100000 in
set_option maxHeartbeats 1000000 in
theorem check_in (FI : Interp) (n : Nat) (hn : 6 ≤ n) (tb ra : Nat) (Rb : Fin 26 → Bool) (L : Fin 26 → List Leaf) (a : Fin 26) (w : World) (hF : FI.told.answers w.tape)
    (hG : Graph w.heap.size w tb (fun k => Rb k = true) L) (hra : ra < w.heap.size) (h0 : w.cell? ⟨ra, 0, none⟩ = some (.string (nm a))) (tv0 : Value) (th : Nat) (h2 : w.cell? ⟨ra, 2, none⟩ = some tv0) (hT : IsTm w.heap.size w th tv0 (L a)) (hR : ∀ x ∈ L a, ∀ k, x.1 = some k → Rb k = true) :
    CallsIn Fence.wide n Ybaf.prog 11 #[.pointer (some ⟨tb, 0, none⟩), .pointer (some ⟨ra, 0, none⟩)] w fun e w' => Below w.heap.size w w' ∧ ((¬ Bad L a (L a) ∧ e = .returned .nilIface) ∨ (Bad L a (L a) ∧ ∃ t v, e = .returned (.iface t v))) := by
  have hdd : ∀ k : Nat, (Fence.wide.depth.isSome = true → 1 ≤ k) := fun k h => by cases h
  have hlv := hideT (leaves_in Fence.wide (n - 1) trivial rfl tv0 hT.iface)
  have hra1 : ra < w.heap.size + 1 := by omega
  have hra2 : ra < w.heap.size + 1 + 1 := by omega
  have HG := hideT hG
  have HT := hideT hT
  clear hG hT
  refine callsIn_of_wp_marks Ybaf.func11 rfl trivial ?_ rfl
  simp only [Ybaf.ntmps11, List.size_toArray, List.length_cons, List.length_nil, Nat.reduceAdd, Nat.reduceSub, Array.replicate_succ, Array.replicate_zero, List.push_toArray, List.append_toArray, List.nil_append, List.cons_append]
  gi_wp2_with (first | ((try refine ⟨trivial, hdd _, ?_⟩); gi_at_call 15; refine (unhideT hlv _).mono ?_; clear hlv; rintro e W2 ⟨rfl, rfl⟩))
  obtain ⟨W3, hW3⟩ : ∃ W3, (((w.alloc (.cells #[.pointer (some ⟨tb, 0, none⟩)] 43)).alloc (.cells #[.pointer (some ⟨ra, 0, none⟩)] 61)).alloc (.cells #[.nilIface] 32)).alloc (.cells #[tv0] 57) = W3 := ⟨_, rfl⟩
  rw [hW3]
  have hC3 : Ce w tb ra .nilIface W3 := by
    rw [← hW3]
    refine ⟨(((Boxed.new w 43 _).alloc _).alloc _).alloc _, ?_, ?_, ((((Below.refl _ w).alloc (Nat.le_refl _) _).alloc (by simp) _).alloc (by simp; omega) _).alloc (by simp; omega) _⟩
    · have := ((Boxed.new (w.alloc (.cells #[.pointer (some ⟨tb, 0, none⟩)] 43)) 61 (.pointer (some ⟨ra, 0, none⟩))).alloc (.cells #[.nilIface] 32)).alloc (.cells #[tv0] 57)
      rwa [World.size_alloc] at this
    · have := (Boxed.new ((w.alloc (.cells #[.pointer (some ⟨tb, 0, none⟩)] 43)).alloc (.cells #[.pointer (some ⟨ra, 0, none⟩)] 61)) 32 .nilIface).alloc (.cells #[tv0] 57)
      rwa [World.size_alloc, World.size_alloc] at this
  have hbt : W3.cell? ⟨w.heap.size + 1 + 1 + 1, 0, none⟩ = some tv0 := by
    rw [← hW3]
    have := (Boxed.new (((w.alloc (.cells #[.pointer (some ⟨tb, 0, none⟩)] 43)).alloc (.cells #[.pointer (some ⟨ra, 0, none⟩)] 61)).alloc (.cells #[.nilIface] 32)) 57 tv0).cell
    rwa [World.size_alloc, World.size_alloc, World.size_alloc] at this
  have hs3 : w.heap.size + 1 + 1 + 1 < W3.heap.size := by rw [← hW3]; simp
  have htp : W3.tape = w.tape := by rw [← hW3]; rfl
  clear hW3
  refine wpIn_rangeFunc_ownG (α := Leaf) rfl (by omega) (gf := 21) (lb := #[.pointer (some ⟨w.heap.size + 1 + 1 + 1, 0, none⟩)]) rfl trivial (enters_of Ybaf.func21 (by kernel_rfl) rfl)
    (leaves_stops_in Fence.wide rfl (n - 1) trivial trivial rfl (w.heap.size + 1 + 1 + 1) w.heap.size th tv0 (L a) Rb hR W3 (by omega) (by omega) hbt ((unhideT HT).below hC3.bel)) Kp.trans (fun W l o o' hl ho hc _ => Kp.putObj (by omega) ho hc) (Below.refl _ _) (fun _ => rfl)
    (Ci w tb ra Rb L a) (Cx w tb ra Rb L a) ?hI ?hIx ⟨hC3, by rintro ⟨k, hk, _⟩; cases hk⟩
    (fun x => { tmps := #[.pointer (some ⟨tb, 0, none⟩), .pointer (some ⟨ra, 0, none⟩), .pointer (some ⟨w.heap.size, 0, none⟩), .pointer (some ⟨w.heap.size + 1, 0, none⟩), .pointer (some ⟨w.heap.size + 1 + 1, 0, none⟩), tv (fixL Rb x).1, .int .u8 ((fixL Rb x).2 : Int), undef, undef, undef, undef, undef, undef, .pointer (some ⟨ra, 0, none⟩), .pointer (some ⟨ra, 0, none⟩), .pointer (some ⟨ra, 2, none⟩), tv0, .func (.func 21) #[] #[.pointer (some ⟨w.heap.size + 1 + 1 + 1, 0, none⟩)], tv (fixL Rb x).1, .int .u8 ((fixL Rb x).2 : Int), undef, undef, undef, undef, undef, undef, undef, undef, undef, undef, undef, undef, undef, undef, undef, undef, undef, undef, undef, undef, undef, undef, undef, undef, undef, undef, undef, undef, undef, undef, undef, undef, undef, undef, undef, undef, undef, undef, undef, undef, undef, undef, undef, undef, undef, undef, undef, undef, undef, undef, undef], defers := [] }) ?assign ?body ?done ?stop
  case hI => exact fun s A B row hs hg hr => ⟨hs.1.own hg (fun r e => ⟨by have := (hr r e).1; omega, (hr r e).2⟩), hs.2⟩
  case hIx => exact fun c s A B row ⟨e1, e2, t, v, hs⟩ hg hr => ⟨e1, e2, t, v, hs.own hg (fun r e => ⟨by have := (hr r e).1; omega, (hr r e).2⟩)⟩
  case assign =>
    intro l x W K hK
    gi_wp2
    exact hK
  case body =>
    rintro l pre x W' ⟨hCe, hnb⟩ hlen
    have hin := fixL_in Rb x
    have hsnoc : (pre ++ [x]).map (fixL Rb) = pre.map (fixL Rb) ++ [fixL Rb x] := by simp
    have skip : ∀ W2, Below W'.heap.size W' W2 → (∀ k, fixL Rb x = (some k, 2) → ¬ Reach L k a) → KeepsFrom W3.heap.size W' W2 ∧ Kp w.heap.size W' W2 ∧ Ci w tb ra Rb L a (pre ++ [x]) W2 := fun W2 hb hy =>
      ⟨(keepsAll hb).from _, kpAll hb hCe.bel.size, hCe.below hb, by rw [hsnoc]; exact bad_snoc hnb hy⟩
    generalize fixL Rb x = y at hin hsnoc skip ⊢
    obtain ⟨o, st⟩ := y
    have d2 := hCe.b2.cell
    have d3 := hCe.b3.cell
    have y2 := hCe.b2.lt
    have y3 := hCe.b3.lt
    have y4 := hCe.b4.lt
    have Skip := hideT skip
    clear skip
    cases o with
    | none =>
      have has := assert53_none
      gi_wp2
      exact unhideT Skip _ (Below.refl _ _) (fun k e => by cases e)
    | some k =>
      have has := assert53_some k
      by_cases hst : st = 2
      · subst hst
        have hk : Rb k = true := hin k rfl
        have hbel := hCe.bel
        have dr : W'.cell? ⟨ra, 0, none⟩ = some (.string (nm a)) := (hbel.cell (p := ⟨ra, 0, none⟩) hra).trans h0
        have yr : ra < W'.heap.size := Nat.lt_of_lt_of_le hra hbel.size
        have hGd : Graph W'.drew.heap.size W'.drew tb (fun k => Rb k = true) L := ((unhideT HG).below hbel.drew).mono hbel.size
        have hdep := hideT (depends_in (n - 1 - 1 - 1) (by omega) tb _ L k a W'.drew hGd hk)
        have HCe := hideT hCe
        clear hGd hbel hCe
        gi_wp2
        refine region_round (F := Fence.wide) (by kernel_rfl) (by kernel_rfl) ?_
        apply cutP
        · intro X
          refine wpAnyIn_take (i := 1) (v := .string (nm k)) rfl rfl (by kernel_rfl) (by kernel_rfl) (by kernel_rfl) (fun _ _ _ h => h) ⟨Or.inl ⟨by rfl, fun w => by go_simp⟩, fun _ => rfl⟩ ?_
          refine wpAnyIn_ready (rs := [0, 2]) (by kernel_rfl) (by simp) ?_
          refine AllReadyIn.cons rfl (fun K hK => ?_) ?_
          · go_simp
            refine hK _ _ ?_
            clear hK K
            refine wpAnyIn_ready (rs := [2]) (by kernel_rfl) (by simp) ?_
            refine AllReadyIn.cons rfl (fun K hK => ?_) ?_
            · go_simp
              refine hK _ _ ?_
              clear hK K
              refine wpAnyIn_ready (rs := [3]) (by kernel_rfl) (by simp) ?_
              refine AllReadyIn.cons rfl (fun K hK => ?_) ?_
              · go_simp
                refine hK _ _ ?_
                clear hK K
                refine wpAnyIn_take (i := 4) (v := .pointer (some ⟨ra, 0, none⟩)) rfl rfl (by kernel_rfl) (by kernel_rfl) (by kernel_rfl) (fun _ _ _ h => h) ⟨Or.inl ⟨by rfl, fun w => by go_simp⟩, fun _ => rfl⟩ ?_
                refine wpAnyIn_ready (rs := [5]) (by kernel_rfl) (by simp) ?_
                refine AllReadyIn.cons rfl (fun K hK => ?_) ?_
                · go_simp
                  refine hK _ _ ?_
                  clear hK K
                  exact X
                exact AllReadyIn.nil
              exact AllReadyIn.nil
            exact AllReadyIn.nil
          refine AllReadyIn.cons rfl (fun K hK => ?_) ?_
          · go_simp
            refine hK _ _ ?_
            clear hK K
            refine wpAnyIn_ready (rs := [0, 3]) (by kernel_rfl) (by simp) ?_
            refine AllReadyIn.cons rfl (fun K hK => ?_) ?_
            · go_simp
              refine hK _ _ ?_
              clear hK K
              refine wpAnyIn_ready (rs := [3]) (by kernel_rfl) (by simp) ?_
              refine AllReadyIn.cons rfl (fun K hK => ?_) ?_
              · go_simp
                refine hK _ _ ?_
                clear hK K
                refine wpAnyIn_take (i := 4) (v := .pointer (some ⟨ra, 0, none⟩)) rfl rfl (by kernel_rfl) (by kernel_rfl) (by kernel_rfl) (fun _ _ _ h => h) ⟨Or.inl ⟨by rfl, fun w => by go_simp⟩, fun _ => rfl⟩ ?_
                refine wpAnyIn_ready (rs := [5]) (by kernel_rfl) (by simp) ?_
                refine AllReadyIn.cons rfl (fun K hK => ?_) ?_
                · go_simp
                  refine hK _ _ ?_
                  clear hK K
                  exact X
                exact AllReadyIn.nil
              exact AllReadyIn.nil
            refine AllReadyIn.cons rfl (fun K hK => ?_) ?_
            · go_simp
              refine hK _ _ ?_
              clear hK K
              refine wpAnyIn_take (i := 4) (v := .pointer (some ⟨ra, 0, none⟩)) rfl rfl (by kernel_rfl) (by kernel_rfl) (by kernel_rfl) (fun _ _ _ h => h) ⟨Or.inl ⟨by rfl, fun w => by go_simp⟩, fun _ => rfl⟩ ?_
              refine wpAnyIn_ready (rs := [0, 5]) (by kernel_rfl) (by simp) ?_
              refine AllReadyIn.cons rfl (fun K hK => ?_) ?_
              · go_simp
                refine hK _ _ ?_
                clear hK K
                refine wpAnyIn_ready (rs := [5]) (by kernel_rfl) (by simp) ?_
                refine AllReadyIn.cons rfl (fun K hK => ?_) ?_
                · go_simp
                  refine hK _ _ ?_
                  clear hK K
                  exact X
                exact AllReadyIn.nil
              refine AllReadyIn.cons rfl (fun K hK => ?_) ?_
              · go_simp
                refine hK _ _ ?_
                clear hK K
                refine wpAnyIn_ready (rs := [0]) (by kernel_rfl) (by simp) ?_
                refine AllReadyIn.cons rfl (fun K hK => ?_) ?_
                · go_simp
                  refine hK _ _ ?_
                  clear hK K
                  exact X
                exact AllReadyIn.nil
              exact AllReadyIn.nil
            exact AllReadyIn.nil
          exact AllReadyIn.nil
        · refine wpAnyIn_ready (rs := [6]) (by kernel_rfl) (by simp) ?_
          refine AllReadyIn.cons rfl (fun K hK => ?_) AllReadyIn.nil
          go_simp
          refine ⟨trivial, hdd _, ?_⟩
          refine (unhideT hdep).mono ?_
          clear hdep
          rintro e W2 ⟨hb2, ⟨hnr, rfl⟩ | ⟨hr, g, cap, PD, rfl, hg, hT2, hl2⟩⟩
          · refine hK _ _ ?_
            clear hK K
            refine wpAnyIn_take (i := 7) (v := .slice none 0 0) rfl rfl (by kernel_rfl) (by kernel_rfl) (by kernel_rfl) (fun _ _ _ h => h) ⟨Or.inl ⟨by rfl, fun w => by go_simp⟩, fun _ => rfl⟩ ?_
            refine wpAnyIn_done (by kernel_rfl) ?_ _
            have hbW : Below W'.heap.size W' W2 := (Below.refl _ W').drew.trans hb2
            gi_wp2
            exact unhideT Skip _ hbW (fun k' e => by cases e; exact hnr)
          · refine hK _ _ ?_
            clear hK K
            refine wpAnyIn_take (i := 7) (v := .slice (some ⟨g, 0, none⟩) PD.length cap) rfl rfl (by kernel_rfl) (by kernel_rfl) (by kernel_rfl) (fun _ _ _ h => h) ⟨Or.inl ⟨by rfl, fun w => by go_simp⟩, fun _ => rfl⟩ ?_
            refine wpAnyIn_done (by kernel_rfl) ?_ _
            have hbW : Below W'.heap.size W' W2 := (Below.refl _ W').drew.trans hb2
            have hC2 := (unhideT HCe).below hbW
            have c3 := hC2.b3.cell
            have cr : W2.cell? ⟨ra, 0, none⟩ = some (.string (nm a)) := (hbW.cell (p := ⟨ra, 0, none⟩) yr).trans dr
            have k3 := hC2.b3.lt
            have kr : ra < W2.heap.size := Nat.lt_of_lt_of_le yr hbW.size
            have hF2 : FI.told.answers W2.tape := by rw [hC2.bel.tape]; exact hF
            have hF' := answers_open hF2
            have HC2 := hideT hC2
            have HT2 := hideT hT2
            have HbW := hideT hbW
            clear hC2 hT2 hbW HCe d2 d3 y2 y3 dr yr hb2
            have hsA := lenA FI a k
            gi_wp2
            refine ⟨trivial, hdd _, ?_⟩
            apply rowsIn_value nextTurns
            case hr => go_simp; exact ⟨rfl, rfl⟩
            case h =>
              generalize FmtStop.textOf (FI.told "fmt.Sprintf" [[37, 113, 32, 101, 120, 99, 108, 117, 100, 101, 115, 32, 37, 113], shape9, FmtStop.pack (nm a).data.toList, shape53, FmtStop.pack (nm k).data.toList] 0) = s0 at hsA ⊢
              obtain ⟨i0, hi, hz0, hz1, hz2⟩ := info_parts info9
              gi_wp2
              gi_loopw [10, 51] (fun s10 s51 wr => ∃ (j : Nat) (strs : List ByteArray), j ≤ PD.length ∧ s51 = .int .i64 j ∧ strs.length = j + 1 ∧ (∀ s ∈ strs, s.size ≤ 200) ∧ wr.ownsRow (W2.heap.size + 1) 9 1 s10 (j + 1) (strs.map .string) ∧ Below W2.heap.size W2 wr) (fun _ s51 _ => 100 - (intOf s51).toNat)
              case atStart =>
                refine ⟨0, [s0], Nat.zero_le _, rfl, rfl, by simpa using hsA, ?_, ?_⟩
                · have hb := Boxed.new (W2.alloc (.cells #[.iface 9 (.string (nm a)), .iface 53 (.string (nm k))] 20)) 9 (.string s0)
                  rw [World.size_alloc] at hb
                  exact ⟨rfl, .inr ⟨W2.heap.size + 1, 1, #[.string s0], rfl, Nat.le_refl _, hb, Nat.le_refl _, by decide, rfl, rfl⟩⟩
                · exact (((Below.refl _ W2).alloc (Nat.le_refl _) _).alloc (by simp) _).drew
              case round =>
                obtain ⟨j, strs, hj, rfl, hsl, hss, hrow, hbr⟩ := hrel
                have hFr : FI.told.answers wr.tape := by rw [hbr.tape]; exact hF2
                have hsr := hbr.size
                by_cases hlt : j < PD.length
                · obtain ⟨d, hd⟩ : ∃ d, PD[j]? = some d := ⟨PD[j], by simp [hlt]⟩
                  obtain ⟨t0, t1, t2⟩ := unhideT HT2 j d hd
                  have u0 := (hbr.cell (p := ⟨g, j * 3, none⟩) hg).trans t0
                  have u1 := (hbr.cell (p := ⟨g, j * 3 + 1, none⟩) hg).trans t1
                  have u2 := (hbr.cell (p := ⟨g, j * 3 + 2, none⟩) hg).trans t2
                  have hjn : ¬ (j : Int) < 0 := by omega
                  have hstr := hideT (fun W hW => string_any FI d.1 d.2.1 d.2.2 W hW)
                  have Hrow := hideT hrow
                  have Hbr := hideT hbr
                  have Hss := hideT hss
                  clear hrow hbr t0 t1 t2 hss
                  gi_wp2_with (first
                    | (refine ⟨trivial, hdd _, ?_⟩; gi_at_call 18; refine (CallsIn.inRound l (callsIn_wide.2 (unhideT hstr (wr.alloc (.cells #[.string (nm d.1), .string (nm d.2.1), .bool d.2.2] 84)) hFr))).mono ?_; clear hstr; rintro e W7 ⟨s, rfl, hs200, hb7⟩)
                    | (gi_at_builtin; refine wpListIn_append_own _ rfl _ _ 82 rfl (W2.heap.size + 1) 9 i0 (.string ⟨#[]⟩) 1 16 Ybaf.underlying82 hi hz0 hz1 hz2 rfl (by decide) _ _ _ rfl ((rowBelow ((unhideT Hrow).alloc _) hb7).alloc _) ⟨W7.heap.size, 0, none⟩ 1 1 [.string s] rfl rfl ?hc ?h1 ?b1 ?b2 ?b3 ?nxt))
                  case hc => exact cells1_new W7 _
                  case h1 => simp [Value.oneCell']
                  case b1 => unfold maxLen; omega
                  case b2 => omega
                  case b3 => have := hb7.size; simp at this ⊢; omega
                  case nxt =>
                    intro v' w1 hown hgrow hnil
                    have hb1 : Below W2.heap.size W2 w1 := by
                      have e1 : Below W2.heap.size W2 W7 := ((unhideT Hbr).alloc (by omega) _).trans (hb7.mono (by simp; omega))
                      exact (e1.alloc e1.size _).grown hgrow (by have := e1.size; simp; omega) (fun b e => by have := own_ge (unhideT Hrow) e; omega)
                    have hss' : ∀ x ∈ strs ++ [s], x.size ≤ 200 := fun x hx => by
                      rcases List.mem_append.1 hx with hx | hx
                      · exact unhideT Hss x hx
                      · simp at hx; rw [hx]; exact hs200
                    have hrow' : w1.ownsRow (W2.heap.size + 1) 9 1 v' (j + 1 + 1) ((strs ++ [s]).map .string) := by rw [List.map_append]; exact hown
                    have H1 := hideT hb1
                    have H2 := hideT hss'
                    have H3 := hideT hrow'
                    clear hb1 hss' hrow' hown hgrow hnil
                    gi_wp2
                    exact ⟨⟨j + 1, strs ++ [s], by omega, by simp, by simp [hsl], unhideT H2, unhideT H3, unhideT H1⟩, by simp [intOf]; omega⟩
                · obtain rfl : j = PD.length := by omega
                  have hCr := (unhideT HC2).below hbr
                  rcases hrow.2 with ⟨_, e⟩ | ⟨gs, cs, cur, rfl, hgs1, hgs2, hgs3, hgs4, hgs5, hgs6⟩
                  · omega
                  have e3 := hCr.b3.cell
                  have er : wr.cell? ⟨ra, 0, none⟩ = some (.string (nm a)) := (hbr.cell (p := ⟨ra, 0, none⟩) kr).trans cr
                  have q3 := hCr.b3.lt
                  have qr : ra < wr.heap.size := by omega
                  have hjoin := hideT (join_in (n - 1 - 1 - 1) gs cs strs cur wr.drew hgs2 (by rw [hsl]; simpa using hgs6) hss (by omega) (by omega))
                  rw [hsl] at hjoin
                  have Keep : Hid (∀ W8, Below wr.drew.heap.size wr.drew W8 → W8.cell? ⟨w.heap.size + 1, 0, none⟩ = some (.pointer (some ⟨ra, 0, none⟩)) ∧ W8.cell? ⟨ra, 0, none⟩ = some (.string (nm a)) ∧ w.heap.size + 1 < W8.heap.size ∧ ra < W8.heap.size ∧ FI.told.answers W8.tape) := fun W8 hb =>
                    ⟨(hb.cell (p := ⟨w.heap.size + 1, 0, none⟩) q3).trans e3, (hb.cell (p := ⟨ra, 0, none⟩) qr).trans er, Nat.lt_of_lt_of_le q3 hb.size, Nat.lt_of_lt_of_le qr hb.size, by rw [hb.tape]; exact hFr⟩
                  have hW9 : ∀ (W8 W9 : World) (js : ByteArray), Below wr.drew.heap.size wr.drew W8 → Below (W8.alloc (.cells #[.iface 9 (.string (nm a)), .iface 9 (.string js)] 20)).heap.size (W8.alloc (.cells #[.iface 9 (.string (nm a)), .iface 9 (.string js)] 20)) W9 → Below wr.heap.size wr W9 := fun W8 W9 js h8 h9 => by
                    have e8 : Below wr.heap.size wr W8 := (Below.refl _ wr).drew.trans h8
                    exact (e8.alloc e8.size _).trans (h9.mono (by have := e8.size; simp; omega))
                  have herr := hideT (fun (W8 : World) (js : ByteArray) (hW : FI.told.answers W8.tape) => errorf_in (n - 1 - 1 - 1) FI.told W8 (nm a) js hW)
                  have Keep9 : Hid (∀ (W8 W9 : World) (js : ByteArray), Below wr.drew.heap.size wr.drew W8 → Below (W8.alloc (.cells #[.iface 9 (.string (nm a)), .iface 9 (.string js)] 20)).heap.size (W8.alloc (.cells #[.iface 9 (.string (nm a)), .iface 9 (.string js)] 20)) W9 → W9.cell? ⟨w.heap.size + 1 + 1, 0, none⟩ = some .nilIface ∧ W9.frozen? ⟨w.heap.size + 1 + 1, 0, none⟩ = false) := fun W8 W9 js h8 h9 => by
                    have := (hCr.below (hW9 W8 W9 js h8 h9)).b4
                    exact ⟨this.cell, this.frozen⟩
                  have Finish : Hid (∀ (W8 W9 : World) (js : ByteArray) (t : TypeId) (v : Value), Below wr.drew.heap.size wr.drew W8 → Below (W8.alloc (.cells #[.iface 9 (.string (nm a)), .iface 9 (.string js)] 20)).heap.size (W8.alloc (.cells #[.iface 9 (.string (nm a)), .iface 9 (.string js)] 20)) W9 → KeepsFrom W3.heap.size W' (W9.setCell ⟨w.heap.size + 1 + 1, 0, none⟩ (.iface t v)) ∧ Cx w tb ra Rb L a .ret (pre ++ [x]) (W9.setCell ⟨w.heap.size + 1 + 1, 0, none⟩ (.iface t v))) := fun W8 W9 js t v h8 h9 => by
                    have hb := hW9 W8 W9 js h8 h9
                    have hb2 : Below W'.heap.size W' W9 := (unhideT HbW).trans ((hbr.trans (hb.mono hbr.size)).mono (unhideT HbW).size)
                    exact ⟨((keepsAll hb2).trans (KeepsOthers.setCell _ _ _)).from _, rfl, ⟨k, by rw [hsnoc]; simp, hr⟩, t, v, (hCr.below hb).set⟩
                  clear hrow hgs2 hgs6 hbr hCr hss cr c3 hW9
                  gi_wp2
                  refine region_round (F := Fence.wide) (by kernel_rfl) (by kernel_rfl) ?_
                  refine wpAnyIn_take (i := 5) (v := .slice (some ⟨gs, 0, none⟩) (PD.length + 1) cs) rfl rfl (by kernel_rfl) (by kernel_rfl) (by kernel_rfl) (fun _ _ _ h => h) ⟨Or.inl ⟨by rfl, fun w => by go_simp⟩, fun _ => rfl⟩ ?_
                  refine wpAnyIn_ready (rs := [0, 6]) (by kernel_rfl) (by simp) ?_
                  refine AllReadyIn.cons rfl (fun K hK => ?_) ?_
                  · go_simp
                    refine hK _ _ ?_
                    clear hK K
                    refine wpAnyIn_ready (rs := [1, 6]) (by kernel_rfl) (by simp) ?_
                    refine AllReadyIn.cons rfl (fun K hK => ?_) ?_
                    · go_simp
                      refine hK _ _ ?_
                      clear hK K
                      refine wpAnyIn_take (i := 2) (v := .pointer (some ⟨ra, 0, none⟩)) rfl rfl (by kernel_rfl) (by kernel_rfl) (by kernel_rfl) (fun _ _ _ h => h) ⟨Or.inl ⟨by rfl, fun w => by go_simp⟩, fun _ => rfl⟩ ?_
                      refine wpAnyIn_ready (rs := [3, 6]) (by kernel_rfl) (by simp) ?_
                      refine AllReadyIn.cons rfl (fun K hK => ?_) ?_
                      · go_simp
                        refine hK _ _ ?_
                        clear hK K
                        refine wpAnyIn_take (i := 4) (v := .iface 9 (.string (nm a))) rfl rfl (by kernel_rfl) (by kernel_rfl) (by kernel_rfl) (fun _ _ _ h => h) ⟨Or.inl ⟨by rfl, fun w => by go_simp⟩, fun _ => rfl⟩ ?_
                        refine wpAnyIn_ready (rs := [6]) (by kernel_rfl) (by simp) ?_
                        refine AllReadyIn.cons rfl (fun K hK => ?_) ?_
                        · go_simp
                          refine ⟨trivial, hdd _, ?_⟩
                          refine (unhideT hjoin).mono ?_
                          rintro e W8 ⟨js, rfl, hb8⟩
                          obtain ⟨v3, vr, v4, v8, vF⟩ := unhideT Keep W8 hb8
                          refine hK _ _ ?_
                          clear hK K
                          refine wpAnyIn_take (i := 7) (v := .iface 9 (.string js)) rfl rfl (by kernel_rfl) (by kernel_rfl) (by kernel_rfl) (fun _ _ _ h => h) ⟨Or.inl ⟨by rfl, fun w => by go_simp⟩, fun _ => rfl⟩ ?_
                          refine wpAnyIn_ready (rs := [8]) (by kernel_rfl) (by simp) ?_
                          refine AllReadyIn.cons rfl (fun K hK => ?_) ?_
                          · go_simp
                            refine hK _ _ ?_
                            clear hK K
                            refine wpAnyIn_ready (rs := [9]) (by kernel_rfl) (by simp) ?_
                            refine AllReadyIn.cons rfl (fun K hK => ?_) ?_
                            · go_simp
                              refine ⟨trivial, hdd _, ?_⟩
                              refine (unhideT herr W8 js vF).mono ?_
                              rintro e W9 ⟨⟨t, v, rfl⟩, hb9⟩
                              obtain ⟨x4, f4⟩ := unhideT Keep9 W8 W9 js hb8 hb9
                              refine hK _ _ ?_
                              clear hK K
                              refine wpAnyIn_ready (rs := [10]) (by kernel_rfl) (by simp) ?_
                              refine AllReadyIn.cons rfl (fun K hK => ?_) ?_
                              · go_simp
                                refine hK _ _ ?_
                                clear hK K
                                refine wpAnyIn_done (by kernel_rfl) ?_ _
                                gi_wp2
                                exact unhideT Finish W8 W9 js t v hb8 hb9
                              exact AllReadyIn.nil
                            exact AllReadyIn.nil
                          exact AllReadyIn.nil
                        exact AllReadyIn.nil
                      refine AllReadyIn.cons rfl (fun K hK => ?_) ?_
                      · go_simp
                        refine ⟨trivial, hdd _, ?_⟩
                        refine (unhideT hjoin).mono ?_
                        rintro e W8 ⟨js, rfl, hb8⟩
                        obtain ⟨v3, vr, v4, v8, vF⟩ := unhideT Keep W8 hb8
                        refine hK _ _ ?_
                        clear hK K
                        refine wpAnyIn_take (i := 7) (v := .iface 9 (.string js)) rfl rfl (by kernel_rfl) (by kernel_rfl) (by kernel_rfl) (fun _ _ _ h => h) ⟨Or.inl ⟨by rfl, fun w => by go_simp⟩, fun _ => rfl⟩ ?_
                        refine wpAnyIn_ready (rs := [3]) (by kernel_rfl) (by simp) ?_
                        refine AllReadyIn.cons rfl (fun K hK => ?_) ?_
                        · go_simp
                          refine hK _ _ ?_
                          clear hK K
                          refine wpAnyIn_take (i := 4) (v := .iface 9 (.string (nm a))) rfl rfl (by kernel_rfl) (by kernel_rfl) (by kernel_rfl) (fun _ _ _ h => h) ⟨Or.inl ⟨by rfl, fun w => by go_simp⟩, fun _ => rfl⟩ ?_
                          refine wpAnyIn_ready (rs := [8]) (by kernel_rfl) (by simp) ?_
                          refine AllReadyIn.cons rfl (fun K hK => ?_) ?_
                          · go_simp
                            refine hK _ _ ?_
                            clear hK K
                            refine wpAnyIn_ready (rs := [9]) (by kernel_rfl) (by simp) ?_
                            refine AllReadyIn.cons rfl (fun K hK => ?_) ?_
                            · go_simp
                              refine ⟨trivial, hdd _, ?_⟩
                              refine (unhideT herr W8 js vF).mono ?_
                              rintro e W9 ⟨⟨t, v, rfl⟩, hb9⟩
                              obtain ⟨x4, f4⟩ := unhideT Keep9 W8 W9 js hb8 hb9
                              refine hK _ _ ?_
                              clear hK K
                              refine wpAnyIn_ready (rs := [10]) (by kernel_rfl) (by simp) ?_
                              refine AllReadyIn.cons rfl (fun K hK => ?_) ?_
                              · go_simp
                                refine hK _ _ ?_
                                clear hK K
                                refine wpAnyIn_done (by kernel_rfl) ?_ _
                                gi_wp2
                                exact unhideT Finish W8 W9 js t v hb8 hb9
                              exact AllReadyIn.nil
                            exact AllReadyIn.nil
                          exact AllReadyIn.nil
                        exact AllReadyIn.nil
                      exact AllReadyIn.nil
                    refine AllReadyIn.cons rfl (fun K hK => ?_) ?_
                    · go_simp
                      refine ⟨trivial, hdd _, ?_⟩
                      refine (unhideT hjoin).mono ?_
                      rintro e W8 ⟨js, rfl, hb8⟩
                      obtain ⟨v3, vr, v4, v8, vF⟩ := unhideT Keep W8 hb8
                      refine hK _ _ ?_
                      clear hK K
                      refine wpAnyIn_take (i := 7) (v := .iface 9 (.string js)) rfl rfl (by kernel_rfl) (by kernel_rfl) (by kernel_rfl) (fun _ _ _ h => h) ⟨Or.inl ⟨by rfl, fun w => by go_simp⟩, fun _ => rfl⟩ ?_
                      refine wpAnyIn_ready (rs := [1]) (by kernel_rfl) (by simp) ?_
                      refine AllReadyIn.cons rfl (fun K hK => ?_) ?_
                      · go_simp
                        refine hK _ _ ?_
                        clear hK K
                        refine wpAnyIn_take (i := 2) (v := .pointer (some ⟨ra, 0, none⟩)) rfl rfl (by kernel_rfl) (by kernel_rfl) (by kernel_rfl) (fun _ _ _ h => h) ⟨Or.inl ⟨by rfl, fun w => by go_simp⟩, fun _ => rfl⟩ ?_
                        refine wpAnyIn_ready (rs := [3]) (by kernel_rfl) (by simp) ?_
                        refine AllReadyIn.cons rfl (fun K hK => ?_) ?_
                        · go_simp
                          refine hK _ _ ?_
                          clear hK K
                          refine wpAnyIn_take (i := 4) (v := .iface 9 (.string (nm a))) rfl rfl (by kernel_rfl) (by kernel_rfl) (by kernel_rfl) (fun _ _ _ h => h) ⟨Or.inl ⟨by rfl, fun w => by go_simp⟩, fun _ => rfl⟩ ?_
                          refine wpAnyIn_ready (rs := [8]) (by kernel_rfl) (by simp) ?_
                          refine AllReadyIn.cons rfl (fun K hK => ?_) ?_
                          · go_simp
                            refine hK _ _ ?_
                            clear hK K
                            refine wpAnyIn_ready (rs := [9]) (by kernel_rfl) (by simp) ?_
                            refine AllReadyIn.cons rfl (fun K hK => ?_) ?_
                            · go_simp
                              refine ⟨trivial, hdd _, ?_⟩
                              refine (unhideT herr W8 js vF).mono ?_
                              rintro e W9 ⟨⟨t, v, rfl⟩, hb9⟩
                              obtain ⟨x4, f4⟩ := unhideT Keep9 W8 W9 js hb8 hb9
                              refine hK _ _ ?_
                              clear hK K
                              refine wpAnyIn_ready (rs := [10]) (by kernel_rfl) (by simp) ?_
                              refine AllReadyIn.cons rfl (fun K hK => ?_) ?_
                              · go_simp
                                refine hK _ _ ?_
                                clear hK K
                                refine wpAnyIn_done (by kernel_rfl) ?_ _
                                gi_wp2
                                exact unhideT Finish W8 W9 js t v hb8 hb9
                              exact AllReadyIn.nil
                            exact AllReadyIn.nil
                          exact AllReadyIn.nil
                        exact AllReadyIn.nil
                      exact AllReadyIn.nil
                    exact AllReadyIn.nil
                  refine AllReadyIn.cons rfl (fun K hK => ?_) ?_
                  · go_simp
                    refine ⟨trivial, hdd _, ?_⟩
                    refine (unhideT hjoin).mono ?_
                    rintro e W8 ⟨js, rfl, hb8⟩
                    obtain ⟨v3, vr, v4, v8, vF⟩ := unhideT Keep W8 hb8
                    refine hK _ _ ?_
                    clear hK K
                    refine wpAnyIn_take (i := 7) (v := .iface 9 (.string js)) rfl rfl (by kernel_rfl) (by kernel_rfl) (by kernel_rfl) (fun _ _ _ h => h) ⟨Or.inl ⟨by rfl, fun w => by go_simp⟩, fun _ => rfl⟩ ?_
                    refine wpAnyIn_ready (rs := [0]) (by kernel_rfl) (by simp) ?_
                    refine AllReadyIn.cons rfl (fun K hK => ?_) ?_
                    · go_simp
                      refine hK _ _ ?_
                      clear hK K
                      refine wpAnyIn_ready (rs := [1]) (by kernel_rfl) (by simp) ?_
                      refine AllReadyIn.cons rfl (fun K hK => ?_) ?_
                      · go_simp
                        refine hK _ _ ?_
                        clear hK K
                        refine wpAnyIn_take (i := 2) (v := .pointer (some ⟨ra, 0, none⟩)) rfl rfl (by kernel_rfl) (by kernel_rfl) (by kernel_rfl) (fun _ _ _ h => h) ⟨Or.inl ⟨by rfl, fun w => by go_simp⟩, fun _ => rfl⟩ ?_
                        refine wpAnyIn_ready (rs := [3]) (by kernel_rfl) (by simp) ?_
                        refine AllReadyIn.cons rfl (fun K hK => ?_) ?_
                        · go_simp
                          refine hK _ _ ?_
                          clear hK K
                          refine wpAnyIn_take (i := 4) (v := .iface 9 (.string (nm a))) rfl rfl (by kernel_rfl) (by kernel_rfl) (by kernel_rfl) (fun _ _ _ h => h) ⟨Or.inl ⟨by rfl, fun w => by go_simp⟩, fun _ => rfl⟩ ?_
                          refine wpAnyIn_ready (rs := [8]) (by kernel_rfl) (by simp) ?_
                          refine AllReadyIn.cons rfl (fun K hK => ?_) ?_
                          · go_simp
                            refine hK _ _ ?_
                            clear hK K
                            refine wpAnyIn_ready (rs := [9]) (by kernel_rfl) (by simp) ?_
                            refine AllReadyIn.cons rfl (fun K hK => ?_) ?_
                            · go_simp
                              refine ⟨trivial, hdd _, ?_⟩
                              refine (unhideT herr W8 js vF).mono ?_
                              rintro e W9 ⟨⟨t, v, rfl⟩, hb9⟩
                              obtain ⟨x4, f4⟩ := unhideT Keep9 W8 W9 js hb8 hb9
                              refine hK _ _ ?_
                              clear hK K
                              refine wpAnyIn_ready (rs := [10]) (by kernel_rfl) (by simp) ?_
                              refine AllReadyIn.cons rfl (fun K hK => ?_) ?_
                              · go_simp
                                refine hK _ _ ?_
                                clear hK K
                                refine wpAnyIn_done (by kernel_rfl) ?_ _
                                gi_wp2
                                exact unhideT Finish W8 W9 js t v hb8 hb9
                              exact AllReadyIn.nil
                            exact AllReadyIn.nil
                          exact AllReadyIn.nil
                        exact AllReadyIn.nil
                      exact AllReadyIn.nil
                    exact AllReadyIn.nil
                  exact AllReadyIn.nil
      · have hst2 : ((st : Int) == 2) = false := by simp; omega
        gi_wp2
        exact unhideT Skip _ (Below.refl _ _) (fun k e => by cases e; exact absurd rfl hst)
  case done =>
    rintro D ys W hD rfl ⟨hCe, hnb⟩ hK
    have hfx : (L a).map (fixL Rb) = L a := fix_map hR
    rw [hfx] at hnb
    have c4 := hCe.b4.cell
    have f4 := hCe.b4.frozen
    have hm : Marks w.heap.size (W.setCell ⟨w.heap.size + 1 + 1, 0, none⟩ .nilIface) [{ target := .collected D, args := #[] }] := ⟨⟨D, rfl, by omega, (KeepsOthers.setCell W _ _).same D _ hK rfl, by simp⟩, trivial⟩
    have hC5 : Ce w tb ra .nilIface (W.setCell ⟨w.heap.size + 1 + 1, 0, none⟩ .nilIface) := hCe.set
    have Hm := hideT hm
    have HC5 := hideT hC5
    clear hm hC5 hCe hK
    gi_wp2
    refine leaves_marks (v := .nilIface) (B := w.heap.size) _ _ (unhideT HC5).bel.size (unhideT Hm) (fun W' hW' hsc => ⟨?_, (unhideT HC5).bel.trans hW', .inl ⟨hnb, rfl⟩⟩)
    exact results11 _ W' (w.heap.size + 1 + 1) .nilIface rfl (hsc _ _ _ _ (unhideT HC5).b4)
  case stop =>
    rintro D c pre W hD hpre ⟨rfl, hbad, t, v, hCe⟩ hK
    have hbad' : Bad L a (L a) := by
      obtain ⟨k, hk, hr⟩ := hbad
      rw [fix_map (fun y hy => hR y (hpre.subset hy))] at hk
      exact ⟨k, hpre.subset hk, hr⟩
    have hm : Marks w.heap.size W [{ target := .collected D, args := #[] }] := ⟨⟨D, rfl, by omega, hK, by simp⟩, trivial⟩
    gi_wp2
    refine leaves_marks (v := .iface t v) (B := w.heap.size) _ _ hCe.bel.size hm (fun W' hW' hsc => ⟨?_, hCe.bel.trans hW', .inr ⟨hbad', t, v, rfl⟩⟩)
    exact results11 _ W' (w.heap.size + 1 + 1) (.iface t v) rfl (hsc _ _ _ _ hCe.b4)
end Go.Proofs.YbulkdblgFmt
