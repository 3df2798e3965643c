/-
  yieldLeaves by induction on the term's height; leaves as an iterator.
-/
import Derived.Test.YbulkdblgFmtTm
namespace Go.Proofs.YbulkdblgFmt
open Go.RowKit Go.Shelf
attribute [local go_sem] Oper.semAt_some

abbrev encL (x : Leaf) : Array Value := #[tv x.1, .int .u8 (x.2 : Int)]

def YieldsL (F : Fence) (l n0 N : Nat) (Ok : Option (Fin 26) → Prop) (J Jx : List Leaf → World → Prop) : Prop := ∀ m pre (x : Leaf) W, J pre W → pre.length < N → Ok x.1 → YieldAt F m Ybaf.prog l (encL x) W fun e W' =>
      (e = .returned (.bool true) ∧ J (pre ++ [x]) W' ∧ Kp n0 W W') ∨ (e = .returned (.bool false) ∧ Jx (pre ++ [x]) W')

set_option maxRecDepth 100000 in
set_option maxHeartbeats 1000000 in
theorem yl_nil (F : Fence) (h22 : F.fn 22) (hro : F.round = none) (l n : Nat) (st : Int) (W : World) :
    CallsIn F n Ybaf.prog 22 #[.nilIface, .int .u8 st, .func (.yield l) #[] #[]] W fun e W' => e = .returned (.bool true) ∧ ∃ o, W' = W.alloc o := by
  have ha := assert60_nil
  refine callsIn_of_wp Ybaf.func22 rfl h22 ?_ hro
  simp only [Ybaf.ntmps22, List.size_toArray, List.length_cons, List.length_nil, Nat.reduceAdd, Nat.reduceSub, Array.replicate_succ, Array.replicate_zero, List.push_toArray, List.append_toArray, List.nil_append, List.cons_append]
  gi_wp2
  refine ⟨fun _ h => (by cases h), ?_⟩
  gi_wp2
  go_ret
  exact ⟨rfl, _, rfl⟩

set_option maxRecDepth 100000 in
set_option maxHeartbeats 1000000 in
theorem yl_leaf (F : Fence) (hd : F.depth = none) (h22 : F.fn 22) (hro : F.round = none) (l n0 N n : Nat) (J Jx : List Leaf → World → Prop) (hJA : ∀ s W o, J s W → J s (W.alloc o)) (Ok : Option (Fin 26) → Prop) (hY : YieldsL F l n0 N Ok J Jx)
    (o : Option (Fin 26)) (hok : Ok o) (st : Nat) (pre : List Leaf) (W : World) (hn0 : n0 ≤ W.heap.size) (hJ : J pre W) (hN : pre.length < N) :
    CallsIn F n Ybaf.prog 22 #[tv o, .int .u8 (st : Int), .func (.yield l) #[] #[]] W fun e W' => (e = .returned (.bool true) ∧ J (pre ++ [(o, st)]) W' ∧ Kp n0 W W') ∨ (e = .returned (.bool false) ∧ Jx (pre ++ [(o, st)]) W') := by
  have ha := assert60_leaf o
  have hdd : ∀ k : Nat, (F.depth.isSome = true → 1 ≤ k) := fun k h => by rw [hd] at h; cases h
  have hJ1 := hJA pre W (.cells #[.int .i64 0, .slice none 0 0] 60) hJ
  obtain ⟨fn, tmps, assign, body, hy, hR⟩ := hY (n - 1) pre (o, st) _ hJ1 hN hok
  have hneq : ∀ W, (binOp .eql 57 (tv o) .nilIface).run Ybaf.prog W = .ok (.bool false) W := fun W => by cases o <;> kernel_rfl
  have hgd : ∀ W x y, (eqGuard .eql 57 x y (tv o) .nilIface).run Ybaf.prog W = .ok () W := fun W x y => by cases o <;> rfl
  dsimp only [encL] at hy
  generalize htv : tv o = v at *
  refine callsIn_of_wp Ybaf.func22 rfl h22 ?_ hro
  simp only [Ybaf.ntmps22, List.size_toArray, List.length_cons, List.length_nil, Nat.reduceAdd, Nat.reduceSub, Array.replicate_succ, Array.replicate_zero, List.push_toArray, List.append_toArray, List.nil_append, List.cons_append]
  gi_wp2_with (first | ((try refine ⟨hdd _, ?_⟩); refine hR.mono ?_; clear hR; rintro e W2 (⟨rfl, hJ2, hb2⟩ | ⟨rfl, hx2⟩)))
  · go_ret
    exact .inl ⟨rfl, hJ2, (Kp.alloc hn0 _).trans hb2⟩
  · go_ret
    exact .inr ⟨rfl, hx2⟩

theorem hideT {p : Prop} (h : p) : Hid p := h
theorem unhideT {p : Prop} (h : Hid p) : p := h
theorem idxS {P : Program} {t e : TypeId} (ht : P.underlying t = some (.slice e)) (hc : ∀ W, (sizeOf e).run P W = .ok 1 W) {n cap b off : Nat} {k : Nat} (hk : k < n) (W : World) :
    (Instr.indexAt t (.slice (some ⟨b, off, none⟩) n cap) (.int .i64 k)).run P W = .ok (.pointer (some ⟨b, off + k, none⟩)) W := by
  have ht' : P.underlying t = some (.slice (P.elem t)) := by simp [Program.elem, ht]
  have he : P.elem t = e := by simp [Program.elem, ht]
  rw [run_indexAt_slice _ _ _ _ _ _ _ ht', he, if_pos ⟨by omega, by omega⟩, hc]
  simp [WideShapes.add_plain]
theorem sides_append (op : Int) : ∀ (A : List (List Leaf)) (i : Nat) (B : List (List Leaf)), sides op i (A ++ B) = sides op i A ++ sides op (i + A.length) B
  | [], i, B => by simp [sides]
  | H :: A, i, B => by
    simp only [List.cons_append, sides, sides_append op A (i + 1) B, List.length_cons, List.append_assoc]
    rw [show i + 1 + A.length = i + (A.length + 1) by omega]
theorem sides_mem (op : Int) : ∀ (Gs : List (List Leaf)) (i : Nat) (G : List Leaf), G ∈ Gs → ∀ x ∈ G, ∃ y ∈ sides op i Gs, y.1 = x.1
  | H :: Gs, i, G, hG, x, hx => by
    rcases List.mem_cons.1 hG with rfl | hG
    · exact ⟨(x.1, max (inOf op i) x.2), List.mem_append_left _ (List.mem_map.2 ⟨x, hx, rfl⟩), rfl⟩
    · obtain ⟨y, hy, e⟩ := sides_mem op Gs (i + 1) G hG x hx
      exact ⟨y, List.mem_append_right _ hy, e⟩
theorem sides_ok {Ok : Option (Fin 26) → Prop} {op : Int} {subs : List (Value × List Leaf)} {k : Nat} {s : Value × List Leaf} (h : ∀ x ∈ sides op 0 (subs.map Prod.snd), Ok x.1) (hk : subs[k]? = some s) : ∀ x ∈ s.2, Ok x.1 := fun x hx => by
  obtain ⟨y, hy, e⟩ := sides_mem op (subs.map Prod.snd) 0 s.2 (List.mem_map.2 ⟨s, List.mem_of_getElem? hk, rfl⟩) x hx
  rw [← e]; exact h y hy
theorem weak_length (r : Nat) (G : List Leaf) : (weak r G).length = G.length := by simp [weak]
theorem size57 (W : World) : (sizeOf 57).run Ybaf.prog W = .ok 1 W := by kernel_rfl

set_option maxRecDepth 100000 in
set_option maxHeartbeats 1000000 in
theorem yl_in (F : Fence) (hd : F.depth = none) (h22 : F.fn 22) (hro : F.round = none) (l n0 N : Nat) (J Jx : List Leaf → World → Prop) (hJA : ∀ s W o, J s W → J s (W.alloc o)) (Ok : Option (Fin 26) → Prop) (hY : YieldsL F l n0 N Ok J Jx) :
    ∀ (h n : Nat) (v : Value) (G : List Leaf) (st : Nat) (pre : List Leaf) (W : World), IsTm n0 W h v G → (∀ x ∈ G, Ok x.1) → st ≤ 2 → n0 ≤ W.heap.size → J pre W → pre.length + G.length ≤ N →
      CallsIn F n Ybaf.prog 22 #[v, .int .u8 (st : Int), .func (.yield l) #[] #[]] W fun e W' => (e = .returned (.bool true) ∧ J (pre ++ weak st G) W' ∧ Kp n0 W W') ∨ (e = .returned (.bool false) ∧ ∃ q, q <+: weak st G ∧ Jx (pre ++ q) W') := by
  intro h
  induction h with
  | zero =>
    intro n v G st pre W ht hok hst hn0 hJ hN
    rcases ht with ⟨rfl, rfl⟩ | ⟨o, rfl, rfl⟩
    · refine (yl_nil F h22 hro l n st W).mono ?_
      rintro e W' ⟨rfl, o, rfl⟩
      exact .inl ⟨rfl, by simpa [weak] using hJA _ _ o hJ, Kp.alloc hn0 _⟩
    · refine (yl_leaf F hd h22 hro l n0 N n J Jx hJA Ok hY o (hok (o, 0) (by simp)) st pre W hn0 hJ (by simp at hN; omega)).mono ?_
      have e1 : weak st [(o, 0)] = [(o, st)] := by simp [weak]
      rintro e W' (⟨rfl, a1, a2⟩ | ⟨rfl, a1⟩)
      · exact .inl ⟨rfl, by rw [e1]; exact a1, a2⟩
      · exact .inr ⟨rfl, [(o, st)], by rw [e1]; exact List.prefix_refl _, a1⟩
  | succ h ih =>
    intro n v G st pre W ht hok hst hn0 hJ hN
    rcases ht with ht | ⟨op, b, off, cap, subs, rfl, hb, hsl, ho, hs, rfl⟩
    · exact ih n v G st pre W ht hok hst hn0 hJ hN
    have ha := assert60_comp (.agg #[.int .i64 op, .slice (some ⟨b, off, none⟩) subs.length cap])
    have hdd : ∀ k : Nat, (F.depth.isSome = true → 1 ≤ k) := fun k h => by rw [hd] at h; cases h
    have hJ1 := hJA pre W (.cells #[.int .i64 op, .slice (some ⟨b, off, none⟩) subs.length cap] 60) hJ
    have hs' : ∀ i (s : Value × List Leaf), subs[i]? = some s → (W.alloc (.cells #[.int .i64 op, .slice (some ⟨b, off, none⟩) subs.length cap] 60)).cell? ⟨b, off + i, none⟩ = some s.1 ∧ IsTm n0 (W.alloc (.cells #[.int .i64 op, .slice (some ⟨b, off, none⟩) subs.length cap] 60)) h s.1 s.2 := fun i s hi =>
      ⟨by rw [World.cell?_alloc_past _ _ _ (show b < W.heap.size by omega)]; exact (hs i s hi).1, IsTm.below ((Below.refl _ W).alloc hn0 _) (hs i s hi).2⟩
    refine callsIn_of_wp Ybaf.func22 rfl h22 ?_ hro
    simp only [Ybaf.ntmps22, List.size_toArray, List.length_cons, List.length_nil, Nat.reduceAdd, Nat.reduceSub, Array.replicate_succ, Array.replicate_zero, List.push_toArray, List.append_toArray, List.nil_append, List.cons_append]
    gi_wp2
    obtain ⟨W1, hW1⟩ : ∃ W1, W.alloc (.cells #[.int .i64 op, .slice (some ⟨b, off, none⟩) subs.length cap] 60) = W1 := ⟨_, rfl⟩
    have hbox : W1.heap[W.heap.size]? = some (.cells #[.int .i64 op, .slice (some ⟨b, off, none⟩) subs.length cap] 60 (0, 0)) := by rw [← hW1]; exact World.alloc_heap_new W _
    have hk1 : Kp n0 W W1 := by rw [← hW1]; exact Kp.alloc hn0 _
    have hn1 : n0 ≤ W1.heap.size := by rw [← hW1]; simp; omega
    rw [hW1] at hJ1 hs' ⊢
    have Hs := hideT hs'
    have Hok := hideT hok
    clear hok
    have Hih := hideT ih
    clear hs hs' ih hW1
    gi_loopw [30] (fun i wr => ∃ k : Nat, k ≤ subs.length ∧ i = .int .i64 k ∧ J (pre ++ weak st (sides op 0 ((subs.take k).map Prod.snd))) wr ∧ Kp n0 W1 wr ∧ n0 ≤ wr.heap.size) (fun i _ => subs.length - (intOf i).toNat)
    case atStart => exact ⟨0, Nat.zero_le _, rfl, by simpa [sides, weak] using hJ1, Kp.refl _ _, hn1⟩
    case round =>
      obtain ⟨k, hk, rfl, hJk, hKk, hnk⟩ := hrel
      have hbx := hKk.2 _ _ hbox
      have hop : wr.cell? ⟨W.heap.size, 0, none⟩ = some (.int .i64 op) := by simp [World.cell?, hbx]
      by_cases hlt : k < subs.length
      · obtain ⟨s, hsk⟩ : ∃ s, subs[k]? = some s := ⟨subs[k], by simp [hlt]⟩
        obtain ⟨c1, t1⟩ := unhideT Hs k s hsk
        have c2 : wr.cell? ⟨b, off + k, none⟩ = some s.1 := (hKk.1.cell (p := ⟨b, off + k, none⟩) hb).trans c1
        have hix := fun W => idxS (P := Ybaf.prog) Ybaf.underlying50 size57 (cap := cap) (b := b) (off := off) hlt W
        have hstep : pre ++ weak st (sides op 0 ((subs.take k).map Prod.snd)) ++ weak (max st (inOf op k)) s.2 = pre ++ weak st (sides op 0 ((subs.take (k + 1)).map Prod.snd)) := by
          have e1 : subs.take (k + 1) = subs.take k ++ [s] := by rw [List.take_add_one, hsk]; rfl
          rw [e1, List.map_append, List.map_cons, List.map_nil, sides_snoc, weak_append, weak_weak, List.append_assoc]
          congr 3
          simp [show k ≤ subs.length by omega]
        have hlen : (pre ++ weak st (sides op 0 ((subs.take k).map Prod.snd))).length + s.2.length ≤ N := by
          have e2 := congrArg List.length hstep
          have e3 : (sides op 0 ((subs.take (k + 1)).map Prod.snd)).length ≤ (sides op 0 (subs.map Prod.snd)).length := by
            have e4 : sides op 0 (subs.map Prod.snd) = sides op 0 ((subs.take (k + 1)).map Prod.snd) ++ sides op (0 + ((subs.take (k + 1)).map Prod.snd).length) ((subs.drop (k + 1)).map Prod.snd) := by
              rw [← sides_append, ← List.map_append, List.take_append_drop]
            rw [e4]; simp
          simp only [List.length_append, weak_length] at e2 ⊢
          omega
        have hpre : weak st (sides op 0 ((subs.take (k + 1)).map Prod.snd)) <+: weak st (sides op 0 (subs.map Prod.snd)) := by
          have e4 : sides op 0 (subs.map Prod.snd) = sides op 0 ((subs.take (k + 1)).map Prod.snd) ++ sides op (0 + ((subs.take (k + 1)).map Prod.snd).length) ((subs.drop (k + 1)).map Prod.snd) := by
            rw [← sides_append, ← List.map_append, List.take_append_drop]
          rw [e4, weak_append]
          exact List.prefix_append _ _
        have hcall := hideT (unhideT Hih (n - 1) s.1 s.2 (max st (inOf op k)) _ wr (IsTm.below hKk.1 t1) (sides_ok (unhideT Hok) hsk) (by unfold inOf; split <;> (try split) <;> omega) hnk hJk hlen)
        have hkint : ¬ (k : Int) < 0 := by omega
        have fin : ∀ W', J (pre ++ weak st (sides op 0 ((subs.take k).map Prod.snd)) ++ weak (max st (inOf op k)) s.2) W' ∧ Kp n0 wr W' → (∃ k_1 : Nat, k_1 ≤ subs.length ∧ Value.int .i64 ((k : Int) + 1) = .int .i64 k_1 ∧ J (pre ++ weak st (sides op 0 ((subs.take k_1).map Prod.snd))) W' ∧ Kp n0 W1 W' ∧ n0 ≤ W'.heap.size) := fun W' ⟨a1, a2⟩ =>
          ⟨k + 1, by omega, by simp, by rw [← hstep]; exact a1, hKk.trans a2, Nat.le_trans hnk a2.1.size⟩
        have bad : ∀ W' q, q <+: weak (max st (inOf op k)) s.2 → Jx (pre ++ weak st (sides op 0 ((subs.take k).map Prod.snd)) ++ q) W' → ∃ q', q' <+: weak st (sides op 0 (subs.map Prod.snd)) ∧ Jx (pre ++ q') W' := fun W' q hq hx => by
          refine ⟨weak st (sides op 0 ((subs.take k).map Prod.snd)) ++ q, ?_, by rw [← List.append_assoc]; exact hx⟩
          have e5 : weak st (sides op 0 ((subs.take (k + 1)).map Prod.snd)) = weak st (sides op 0 ((subs.take k).map Prod.snd)) ++ weak (max st (inOf op k)) s.2 := by
            rw [List.append_assoc] at hstep
            exact (List.append_cancel_left hstep).symm
          rw [e5] at hpre
          obtain ⟨r, hr⟩ := hq
          obtain ⟨r', hr'⟩ := hpre
          exact ⟨r ++ r', by rw [← hr', ← hr]; simp [List.append_assoc]⟩
        have Fin' := hideT fin
        have Bad := hideT bad
        clear fin bad hpre hlen hstep t1 c1
        obtain ⟨t, ht⟩ : ∃ t, max st (inOf op k) = t := ⟨_, rfl⟩
        rw [ht] at hcall Fin' Bad
        rcases ho with rfl | rfl | rfl
        · have e0 : t = st := by rw [← ht]; simp [inOf]
          subst e0
          clear ht
          gi_wp2_with (first | ((try refine ⟨hdd _, ?_⟩); gi_at_call 22; refine (unhideT hcall).mono ?_; clear hcall; rintro e W2 (⟨rfl, a1, a2⟩ | ⟨rfl, q, a1, a2⟩)))
          · exact ⟨unhideT Fin' W2 ⟨a1, a2⟩, by simp [intOf]; omega⟩
          · go_ret
            exact .inr ⟨rfl, unhideT Bad W2 q a1 a2⟩
        · have e1 : (if (st : Int) < 1 then (1 : Int) else st) = t := by
            have : inOf 1 k = 1 := by simp [inOf]
            rw [this] at ht; omega
          clear ht
          gi_wp2_with (first | ((try refine ⟨hdd _, ?_⟩); gi_at_call 22; refine (unhideT hcall).mono ?_; clear hcall; rintro e W2 (⟨rfl, a1, a2⟩ | ⟨rfl, q, a1, a2⟩)))
          · exact ⟨unhideT Fin' W2 ⟨a1, a2⟩, by simp [intOf]; omega⟩
          · go_ret
            exact .inr ⟨rfl, unhideT Bad W2 q a1 a2⟩
        · by_cases hk1 : k = 1
          · have e1 : (if (st : Int) < 2 then (2 : Int) else st) = t := by
              have : inOf 2 k = 2 := by simp [inOf, hk1]
              rw [this] at ht; omega
            have hkb : ((k : Int) == 1) = true := by simp; omega
            clear ht hk1
            gi_wp2_with (first | ((try refine ⟨hdd _, ?_⟩); gi_at_call 22; refine (unhideT hcall).mono ?_; clear hcall; rintro e W2 (⟨rfl, a1, a2⟩ | ⟨rfl, q, a1, a2⟩)))
            · exact ⟨unhideT Fin' W2 ⟨a1, a2⟩, by simp [intOf]; omega⟩
            · go_ret
              exact .inr ⟨rfl, unhideT Bad W2 q a1 a2⟩
          · have e1 : (if (st : Int) < 1 then (1 : Int) else st) = t := by
              have : inOf 2 k = 1 := by simp [inOf, hk1]
              rw [this] at ht; omega
            clear ht
            gi_wp2_with (first | ((try refine ⟨hdd _, ?_⟩); gi_at_call 22; refine (unhideT hcall).mono ?_; clear hcall; rintro e W2 (⟨rfl, a1, a2⟩ | ⟨rfl, q, a1, a2⟩)))
            · exact ⟨unhideT Fin' W2 ⟨a1, a2⟩, by simp [intOf]; omega⟩
            · go_ret
              exact .inr ⟨rfl, unhideT Bad W2 q a1 a2⟩
      · obtain rfl : k = subs.length := by omega
        rw [List.take_length] at hJk
        gi_wp2
        go_ret
        exact .inl ⟨rfl, hJk, hk1.trans hKk⟩
theorem IsTm.iface {n0 : Nat} {W : World} : ∀ {h : Nat} {v : Value} {G : List Leaf}, IsTm n0 W h v G → v = .nilIface ∨ ∃ t x, v = .iface t x
  | 0, _, _, Or.inl ⟨e, _⟩ => Or.inl e
  | 0, _, _, Or.inr ⟨o, e, _⟩ => by cases o <;> exact Or.inr ⟨_, _, e⟩
  | h + 1, _, _, Or.inl ht => IsTm.iface (h := h) ht
  | _ + 1, _, _, Or.inr ⟨_, _, _, _, _, e, _⟩ => Or.inr ⟨_, _, e⟩
theorem weak_zero (G : List Leaf) : weak 0 G = G := by simp [weak]

set_option maxHeartbeats 1000000 in
theorem lv1_in (F : Fence) (hd : F.depth = none) (n : Nat) (h21 : F.fn 21) (h22 : F.fn 22) (hro : F.round = none) (l Bt n0 h : Nat) (v : Value) (G : List Leaf) (Ok : Option (Fin 26) → Prop) (hok : ∀ x ∈ G, Ok x.1) (J Jx : List Leaf → World → Prop) (hJA : ∀ s W o, J s W → J s (W.alloc o))
    (hY : ∀ pre (x : Leaf) W, J pre W → pre.length < G.length → Ok x.1 → YieldAt F (n - 1) Ybaf.prog l (encL x) W fun e W' => (e = .returned (.bool true) ∧ J (pre ++ [x]) W' ∧ Kp n0 W W') ∨ (e = .returned (.bool false) ∧ Jx (pre ++ [x]) W'))
    (W : World) (hBt : W.cell? ⟨Bt, 0, none⟩ = some v) (hT : IsTm n0 W h v G) (hn0 : n0 ≤ W.heap.size) (h0 : J [] W) :
    CallsIn F n Ybaf.prog 21 #[.func (.yield l) #[] #[], .pointer (some ⟨Bt, 0, none⟩)] W fun e W' => (∃ v, e = .returned v) ∧ ((∃ ys, ys = G ∧ J ys W') ∨ (∃ pre, pre <+: G ∧ Jx pre W')) := by
  have hdd : ∀ k : Nat, (F.depth.isSome = true → 1 ≤ k) := fun k h => by rw [hd] at h; cases h
  have hp := hideT (yl_in F hd h22 hro l n0 G.length J Jx hJA Ok (fun m pre x W hj hl ho => yield_any hd m (hY pre x W hj hl ho)) h (n - 1) v G 0 [] W hT hok (by omega) hn0 h0 (by simp))
  refine callsIn_of_wp Ybaf.func21 rfl h21 ?_ hro
  simp only [Ybaf.ntmps21, List.size_toArray, List.length_cons, List.length_nil, Nat.reduceAdd, Nat.reduceSub, Array.replicate_succ, Array.replicate_zero, List.push_toArray, List.append_toArray, List.nil_append, List.cons_append]
  gi_wp2_with ((try refine ⟨hdd _, ?_⟩); gi_at_call 22; refine (unhideT hp).mono ?_; clear hp; rintro e W1 (⟨rfl, hJ1, _⟩ | ⟨rfl, q, hq, hx⟩))
  · go_end0
    exact ⟨⟨_, rfl⟩, .inl ⟨_, rfl, by simpa [weak_zero] using hJ1⟩⟩
  · go_end0
    exact ⟨⟨_, rfl⟩, .inr ⟨q, by simpa [weak_zero] using hq, by simpa using hx⟩⟩

set_option maxHeartbeats 1000000 in
theorem leaves_in (F : Fence) (n : Nat) (h15 : F.fn 15) (hro : F.round = none) (v : Value) (hv : v = .nilIface ∨ ∃ t x, v = .iface t x) (w : World) :
    CallsIn F n Ybaf.prog 15 #[v] w fun e w' => e = .returned (.func (.func 21) #[] #[.pointer (some ⟨w.heap.size, 0, none⟩)]) ∧ w' = w.alloc (.cells #[v] 57) := by
  rcases hv with rfl | ⟨t, x, rfl⟩
  all_goals refine callsIn_of_wp Ybaf.func15 rfl h15 ?_ hro
  all_goals simp only [Ybaf.ntmps15, List.size_toArray, List.length_cons, List.length_nil, Nat.reduceAdd, Nat.reduceSub, Array.replicate_succ, Array.replicate_zero, List.push_toArray, List.append_toArray, List.nil_append, List.cons_append]
  all_goals gi_wp2
  all_goals go_ret
  all_goals exact ⟨rfl, rfl⟩

/-- leaves hands back an iterator over the term's leaves. -/
theorem leaves_stops (F : Fence) (hd : F.depth = none) (n : Nat) (h21 : F.fn 21) (h22 : F.fn 22) (hro : F.round = none) (Bt n0 h : Nat) (v : Value) (G : List Leaf) (w : World) (hBt : Bt < w.heap.size) (hn0 : n0 ≤ w.heap.size)
    (hc : w.cell? ⟨Bt, 0, none⟩ = some v) (hT : IsTm n0 w h v G) :
    SeqStopsK F n Ybaf.prog 21 #[.pointer (some ⟨Bt, 0, none⟩)] encL (Kp n0) (fun ys => ys = G) (fun pre => pre <+: G) G.length w := fun l J Jx W hW hJA _ hY h0 =>
  lv1_in F hd n h21 h22 hro l Bt n0 h v G (fun _ => True) (fun _ _ => trivial) J Jx (fun s W o hs => hJA s W _ none hs (World.grownBy_alloc W o none) (fun r e => by cases e)) (fun pre x W hj hl _ => hY pre x W hj hl) W ((hW.cell (p := ⟨Bt, 0, none⟩) hBt).trans hc) (hT.below (hW.mono hn0)) (Nat.le_trans hn0 hW.size) h0

/-- A leaf brought into a set of names. -/
def fixL (R : Fin 26 → Bool) (x : Leaf) : Leaf := match x.1 with
  | some k => if R k then x else (none, x.2)
  | none => x
theorem fixL_ok {R : Fin 26 → Bool} {x : Leaf} (h : ∀ k, x.1 = some k → R k = true) : fixL R x = x := by
  obtain ⟨o, st⟩ := x
  cases o with
  | none => rfl
  | some k => simp [fixL, h k rfl]
theorem fixL_in (R : Fin 26 → Bool) (x : Leaf) : ∀ k, (fixL R x).1 = some k → R k = true := by
  obtain ⟨o, st⟩ := x
  cases o with
  | none => intro k h; cases h
  | some j =>
    intro k h
    unfold fixL at h
    simp only at h
    split at h
    · rename_i hj
      cases h
      exact hj
    · cases h

/-- The same, its leaves within a set of names: so the body need not ask of others. -/
theorem leaves_stops_in (F : Fence) (hd : F.depth = none) (n : Nat) (h21 : F.fn 21) (h22 : F.fn 22) (hro : F.round = none) (Bt n0 h : Nat) (v : Value) (G : List Leaf) (R : Fin 26 → Bool) (hR : ∀ x ∈ G, ∀ k, x.1 = some k → R k = true) (w : World) (hBt : Bt < w.heap.size) (hn0 : n0 ≤ w.heap.size)
    (hc : w.cell? ⟨Bt, 0, none⟩ = some v) (hT : IsTm n0 w h v G) :
    SeqStopsK F n Ybaf.prog 21 #[.pointer (some ⟨Bt, 0, none⟩)] (fun x => encL (fixL R x)) (Kp n0) (fun ys => ys = G) (fun pre => pre <+: G) G.length w := fun l J Jx W hW hJA _ hY h0 =>
  lv1_in F hd n h21 h22 hro l Bt n0 h v G (fun o => ∀ k, o = some k → R k = true) hR J Jx (fun s W o hs => hJA s W _ none hs (World.grownBy_alloc W o none) (fun r e => by cases e)) (fun pre x W hj hl ho => by have := hY pre x W hj hl; dsimp only at this; rwa [fixL_ok ho] at this) W ((hW.cell (p := ⟨Bt, 0, none⟩) hBt).trans hc) (hT.below (hW.mono hn0)) (Nat.le_trans hn0 hW.size) h0
end Go.Proofs.YbulkdblgFmt
