/-
  quantize for every length; the law's walk.
-/
import Derived.Test.YbulkdbluDoorFe
namespace Go.Proofs.YbulkdbluDoor
open Go.RowKit
set_option linter.unusedVariables false

theorem infNone : (FloatKind.f64.decode (ceilW 18442240474082181120)).toInt .zero = none := by decide +kernel
theorem infNaN : (FloatKind.f64.decode 18442240474082181120).isNaN = false := by decide +kernel

theorem convInf (w : World) : ∃ z w', (convert 33 3 (.float .f64 (ceilW 18442240474082181120))).run Ybad.prog w = .ok (.int .i64 z) w' ∧ (w' = w ∨ w' = w.drew) := by
  have hn := infNone
  generalize ceilW 18442240474082181120 = x at *
  by_cases hf : (Question.floatToInt .f64 x .i64).forced = true
  · refine ⟨IntKind.i64.wrap 0, w, ?_, Or.inl rfl⟩
    simp [convert, run_underlying Ybad.underlying33, run_underlying Ybad.underlying3, Conv.floatToInt, hn, hf]
  · refine ⟨IntKind.i64.wrap ((Question.floatToInt .f64 x .i64).cut (w.tape w.drawn (Question.floatToInt .f64 x .i64))), w.drew, ?_, Or.inr rfl⟩
    simp [convert, run_underlying Ybad.underlying33, run_underlying Ybad.underlying3, Conv.floatToInt, hn, hf]

theorem zero_sums (sc : Nat) (h : sc ≤ 35) : ∃ t, floatBits .add .f64 (floatOfInt .f64 sc) 4611686018427387904 = some t ∧ floatBits .add .f64 t 18442240474082181120 = some 18442240474082181120 := by
  have : ∀ s : Fin 36, (match floatBits .add .f64 (floatOfInt .f64 (s.val : Int)) 4611686018427387904 with | some t => decide (floatBits .add .f64 t 18442240474082181120 = some 18442240474082181120) | none => false) = true := by decide +kernel
  have hk := this ⟨sc, by omega⟩
  simp only at hk
  cases e : floatBits .add .f64 (floatOfInt .f64 sc) 4611686018427387904 with
  | none => rw [e] at hk; cases hk
  | some t => rw [e] at hk; exact ⟨t, rfl, of_decide_eq_true hk⟩

theorem quant_any (pb g m : Nat) (f0 : Nat → Value) (c : Nat → Int) (e sc : Nat) (ev : Value) (w : World) (hm : m ≤ 16) (he : e ≤ 28) (hsc : e ≤ sc) (hsc2 : sc ≤ 35) (hcb : ∀ i, i < m → (c i).natAbs ≤ 2147483648)
    (hne : g ≠ pb) (hF : Full w pb 18 f0) (hG : Full w g m (fun k => .float .f64 (Wd (c k) (-e)))) (hE : w.cell? ⟨0, 0, none⟩ = some ev) (hpb0 : pb ≠ 0) :
    Calls Ybad.prog 8 #[.pointer (some ⟨pb, 0, none⟩), .slice (some ⟨g, 0, none⟩) m m, .float .f64 (floatOfInt .f64 sc)] w fun r w' => Quantized w w' pb m e c ev r := by
  rcases Nat.eq_zero_or_pos m with hm0 | hm1
  · subst hm0
    obtain ⟨t, e2, e3⟩ := zero_sums sc hsc2
    obtain ⟨z, w1, b5, hw1⟩ := convInf w
    refine quant_gen pb g 0 f0 c e ev w w1 _ 18442240474082181120 t 18442240474082181120 _ 0 18442240474082181120 z hm he hcb hne ?_ ?_ ?_ (fun W1 t => run_float_arith W1 .mul t .f64 _ _ _ (by decide +kernel)) (fun W1 t => run_float_arith W1 .add t .f64 _ _ _ e2)
      (fun W1 t => run_float_arith W1 .add t .f64 _ _ _ e3) (fun W1 t => run_float_arith W1 .quo t .f64 _ _ _ (by decide +kernel)) b5 log2_zero (ceil_at _ infNaN) (fun h => by omega) hE hpb0
    · rcases hw1 with rfl | rfl
      · exact hF
      · exact hF
    · rcases hw1 with rfl | rfl
      · exact hG
      · exact hG
    · rcases hw1 with rfl | rfl
      · exact grown_refl _ _
      · exact grown_drew _
  · obtain ⟨h, t, u, z, e1, e2, e3, e4, hnan, hz1, hz2⟩ := shift_at m sc hm1 hm hsc2
    exact quant_gen pb g m f0 c e ev w w _ h t u _ (quoW m) (logW m) z hm he hcb hne hF hG (grown_refl _ _) (fun W1 t => run_float_arith W1 .mul t .f64 _ _ _ e1) (fun W1 t => run_float_arith W1 .add t .f64 _ _ _ e2)
      (fun W1 t => run_float_arith W1 .add t .f64 _ _ _ e3) (fun W1 t => run_float_arith W1 .quo t .f64 _ _ _ (quo_at m hm1 hm)) (run_convert_float_int w 33 3 .f64 .i64 _ _ (by simp [Ybad.underlying33]) Ybad.underlying3 e4) (log_at m hm1 hm) (ceil_at u hnan) (fun _ => by omega) hE hpb0

theorem Below.drewN' {B : Nat} {a w : World} (h : Below B a w) (n : Nat) : Below B a (w.drewN n) := ⟨h.os, h.tape, h.output, h.size, h.block⟩
theorem wrap_pow {t : Nat} (h : t ≤ 30) : wrap64 (2 ^ t) = 2 ^ t := by
  have h1 : (2 : Nat) ^ t ≤ 2 ^ 30 := Nat.pow_le_pow_right (by omega) h
  have h2 : ((2 : Int) ^ t) = ((2 ^ t : Nat) : Int) := by simp
  rw [h2]
  generalize (2 : Nat) ^ t = q at *
  have h3 : (2 : Nat) ^ 30 = 1073741824 := rfl
  unfold wrap64
  omega

theorem some18_put {w : World} {b : Nat} {f : Nat → Value} (h : Full w b 18 f) {vs : Array Value} (hs : vs.size = 18) : Full (w.setCells b 0 vs.toList) b 18 (fun j => vs.getD j undef) := fun j hj => by
  refine ⟨?_, by rw [World.frozen?_setCells]; exact (h j hj).2⟩
  have := World.cell?_setCells_in b vs.toList 0 w (fun i hi => (there18 h i (by simp at hi; omega)).1) j (by simp; omega)
  rw [Nat.zero_add] at this
  rw [this]
  simp [Array.getD, hs, hj]

set_option maxRecDepth 100000 in
set_option maxHeartbeats 1000000 in
theorem law_walk (a0 : Option Addr) (n cap b0 off : Nat) (c : Nat → Int) (e0 ex : Int) (ev : Value) (w : World) (hneq : ∀ W, (binOp .neq 31 ev ev).run Ybad.prog W = .ok (.bool false) W) (hgd : ∀ W x y, (eqGuard .neq 31 x y ev ev).run Ybad.prog W = .ok () W) (hw0 : 0 < w.heap.size) (hnn : n ≤ 9223372036854775807) (he1 : 0 ≤ e0) (he2 : e0 ≤ 255) (hx1 : 0 ≤ ex) (hx2 : ex ≤ 255) (hb0 : 0 < n → b0 < w.heap.size) (ha : 0 < n → a0 = some ⟨b0, off, none⟩)
    (hc : ∀ i, i < n → w.cell? ⟨b0, off + i, none⟩ = some (.int .i32 (c i))) (hcb : ∀ i, i < n → -2147483648 ≤ c i ∧ c i ≤ 2147483647) (hE : w.cell? ⟨0, 0, none⟩ = some ev) :
    Calls Ybad.prog 3 #[.slice a0 n cap, .int .u8 e0, .int .u8 ex] w fun r w' => r = .returned (.bool true) ∧ Below w.heap.size w w' := by
  obtain ⟨e, he⟩ : ∃ e : Nat, e0.tmod 29 = e := ⟨(e0 % 29).toNat, by rw [Int.tmod_eq_emod_of_nonneg he1]; omega⟩
  obtain ⟨x, hx⟩ : ∃ x : Nat, ex.tmod 8 = x := ⟨(ex % 8).toNat, by rw [Int.tmod_eq_emod_of_nonneg hx1]; omega⟩
  have hee : e ≤ 28 := by rw [Int.tmod_eq_emod_of_nonneg he1] at he; omega
  have hxx : x ≤ 7 := by rw [Int.tmod_eq_emod_of_nonneg hx1] at hx; omega
  obtain ⟨m, hm⟩ : ∃ m, m = min n 16 := ⟨_, rfl⟩
  have hfl := hide (floats_any a0 n cap b0 off m c e w hm (by omega) (by omega) hb0 ha hnn hc (fun i hi => by have := hcb i hi; omega))
  have HE := hide hE
  have Hc := hide hc
  have Hcb := hide hcb
  have Ha := hide ha
  have hm16 : m ≤ 16 := by omega
  have hmn : m ≤ n := by omega
  have hz := zero28
  clear hE hc hcb ha hm
  go_enter Ybad.func3, Ybad.ntmps3
  go_wp2_with (first | (go_at_call 6; refine (unhide hfl).mono ?_; rintro r wf ⟨rfl, hbf, hsf, hff⟩) | (go_at_call 7; refine (start_any _).mono ?_; rintro r ws ⟨vs, rfl, hvs, hva, hbs⟩) | (refine wpList_store_mid rfl 28 _ _ rfl _ 0 _ rfl rfl ?hth ?hi ?ha ?_))
  case hth => rw [hvs]; exact there18 (Some18.made ws zs28 28 rfl zs_all).1
  case hi => rw [hvs]; exact info28
  case ha => exact hva
  have hsz1 : w.heap.size + 1 ≤ ws.heap.size := by have := hbs.size; omega
  have hbs' : Below w.heap.size w ws := hbf.trans (hbs.mono (by omega))
  have hB3 : Hid (Below w.heap.size w ((ws.alloc (.cells zs28 28)).setCells ws.heap.size 0 vs.toList)) := Below.setCells _ (by omega) _ _ _ (hbs'.alloc (by omega) _)
  have hF3 : Hid (Full ((ws.alloc (.cells zs28 28)).setCells ws.heap.size 0 vs.toList) ws.heap.size 18 (fun j => vs.getD j undef)) := some18_put (Some18.made ws zs28 28 rfl zs_all).1 hvs
  have hG3 : Hid (Full ((ws.alloc (.cells zs28 28)).setCells ws.heap.size 0 vs.toList) w.heap.size m (fun k => .float .f64 (Wd (c k) (-e)))) := Full.put_other ((hff.below hbs (by omega)).alloc (by omega) _) (by omega) _
  have hE3 : Hid (((ws.alloc (.cells zs28 28)).setCells ws.heap.size 0 vs.toList).cell? ⟨0, 0, none⟩ = some ev) := by
    rw [(unhide hB3).cell (p := ⟨0, 0, none⟩) hw0]; exact unhide HE
  clear hfl hz hbf hsf hff hbs hbs' hvs hva HE
  rw [show (#[.int .i64 0, .int .i64 0, .int .i64 0, .int .i64 0, .int .i64 0, .int .i64 0, .int .i64 0, .int .i64 0, .int .i64 0, .int .i64 0, .int .i64 0, .int .i64 0, .int .i64 0, .int .i64 0, .int .i64 0, .int .i64 0, .int .i64 0, .int .u64 0] : Array Value) = zs28 from rfl]
  generalize (ws.alloc (.cells zs28 28)).setCells ws.heap.size 0 vs.toList = W3 at *
  have hq := hide (quant_any ws.heap.size w.heap.size m _ c e (e + x) _ W3 hm16 hee (by omega) (by omega) (fun i hi => by have := unhide Hcb i (by omega); omega) (by omega) (unhide hF3) (unhide hG3) (unhide hE3) (by omega))
  rw [show ((e + x : Nat) : Int) = (e : Int) + x by omega] at hq
  clear hF3 hG3
  generalize ws.heap.size = pb at *
  go_wp2_with (first | (go_at_call 8; refine (unhide hq).mono ?_; intro r W4 hQ; obtain ⟨A, p, s, hg4, hp4, hs30, hpm, hAe, hz4, hnz, hodd, hr⟩ := hQ; generalize hv : (if p = 0 then ev else Value.nilIface) = v at hr; subst hr; have Hv := hide hv; clear hv))
  have hB4 : Below w.heap.size w W4 := (unhide hB3).grown hg4 (unhide hB3).size (fun k ek => by cases ek; omega)
  have hE4 : W4.cell? ⟨0, 0, none⟩ = some ev := hg4.cell (unhide hE3) (by simp; omega)
  have Hp4 := hide hp4
  have HAe := hide hAe
  have Hz4 := hide hz4
  have Hnz := hide hnz
  have Hodd := hide hodd
  have HE4 := hide hE4
  clear hE4 hq hB3 hE3 hg4 hp4 hAe hz4 hnz hodd
  go_loopw [12, 13] (fun l i wr => wr = W4 ∧ ∃ k last : Nat, k ≤ m ∧ i = .int .i64 k ∧ l = .int .i64 last ∧ last ≤ k ∧ Hid (∀ j, last ≤ j → j < k → c j = 0) ∧ Hid (0 < last → c (last - 1) ≠ 0)) (fun _ i _ => m - (intOf i).toNat)
  case atStart => exact ⟨rfl, 0, 0, Nat.zero_le _, rfl, rfl, Nat.le_refl _, fun j h1 h2 => by omega, fun h => by omega⟩
  case round =>
    obtain ⟨rfl, k, last, hk, rfl, rfl, hlk, h1, h2⟩ := hrel
    by_cases hlt : k < m
    · have hix := fun W => idx (P := Ybad.prog) Ybad.underlying22 size21 (cap := cap) (unhide Ha) (show k < n by omega) W
      simp only [Nat.mul_one] at hix
      have s1 : wr.cell? ⟨b0, off + k, none⟩ = some (.int .i32 (c k)) := by rw [hB4.cell (p := ⟨b0, _, none⟩) (hb0 (by omega))]; exact unhide Hc k (by omega)
      by_cases hc0 : c k = 0
      · rw [hc0] at s1
        go_wp2_with fail
        refine ⟨⟨trivial, k + 1, last, by omega, by go_num, rfl, by omega, fun j g1 g2 => ?_, h2⟩, by simp [intOf]; omega⟩
        by_cases ej : j = k
        · rw [ej]; exact hc0
        · exact unhide h1 j g1 (by omega)
      · go_wp2_with fail
        refine ⟨⟨trivial, k + 1, k + 1, by omega, by go_num, by go_num, by omega, fun j g1 g2 => by omega, fun _ => ?_⟩, by simp [intOf]; omega⟩
        simpa using hc0
    · obtain rfl : k = m := by omega
      rcases Nat.eq_zero_or_pos last with hl0 | hl1
      · subst hl0
        have hA0 : Hid (∀ j, j < 16 → A j = 0) := fun j hj => by
          have h0 := unhide HAe j hj
          by_cases hjm : j < k
          · rw [if_pos hjm, unhide h1 j (by omega) hjm, Int.zero_mul] at h0; exact pow_zero_of h0
          · rw [if_neg hjm, Int.zero_mul] at h0; exact pow_zero_of h0
        obtain rfl : p = 0 := by
          rcases Nat.eq_zero_or_pos p with h | h
          · exact h
          · exact absurd (unhide hA0 (p - 1) (by omega)) (unhide Hnz h)
        have hv := unhide Hv
        rw [if_pos rfl] at hv
        subst hv
        have h16 := (unhide Hp4 16 (by omega)).1
        simp only [prOf, show ¬ (16 : Nat) < 16 by omega, if_true, if_false] at h16
        have hE4 := unhide HE4
        go_wp2_with fail
        go_loopw [14] (fun i wy => wy = wr ∧ ∃ j : Nat, j ≤ 16 ∧ i = .int .i64 j) (fun i _ => 16 - (intOf i).toNat)
        case atStart => exact ⟨rfl, 0, Nat.zero_le _, rfl⟩
        case round =>
          rename World => wy
          obtain ⟨rfl, j, hj, rfl⟩ := hrel
          by_cases hj16 : j < 16
          · have hcj := (unhide Hp4 j (by omega)).1
            simp only [prOf, hj16, if_true, unhide hA0 j hj16] at hcj
            have hj' : (j : Int) < 16 := by omega
            go_wp2_with fail
            exact ⟨⟨trivial, j + 1, by omega, by go_num⟩, by simp [intOf]; omega⟩
          · obtain rfl : j = 16 := by omega
            go_wp2_with fail
            go_ret
            exact ⟨rfl, hB4⟩
      · have hlast : p = last := by
          have hc1 := unhide h2 hl1
          have hA1 : A (last - 1) ≠ 0 := fun h0 => by
            have hh := unhide HAe (last - 1) (by omega)
            rw [h0, Int.zero_mul, if_pos (by omega)] at hh
            exact hc1 (pow_zero_of hh.symm)
          have g1 : last ≤ p := by
            rcases Nat.lt_or_ge p last with hh | hh
            · exact absurd (unhide Hz4 (last - 1) (by omega) (by omega)) hA1
            · exact hh
          rcases Nat.lt_or_ge last p with hh | hh
          · have h0 := unhide HAe (p - 1) (by omega)
            rw [if_pos (by omega), unhide h1 (p - 1) (by omega) (by omega), Int.zero_mul] at h0
            exact absurd (pow_zero_of h0) (unhide Hnz (by omega))
          · omega
        subst hlast
        have hv := unhide Hv
        rw [if_neg (by omega)] at hv
        subst hv
        have hodd := unhide Hodd hl1
        have Ho := hide hodd
        have h16 := (unhide Hp4 16 (by omega)).1
        simp only [prOf, show ¬ (16 : Nat) < 16 by omega, if_true, if_false] at h16
        have h17 := (unhide Hp4 17 (by omega)).1
        simp only [prOf, show ¬ (17 : Nat) < 16 by omega, show ¬ (17 : Nat) = 16 by omega, if_false] at h17
        have hpne : ¬ (p : Int) = 0 := by omega
        have hpb : ((p : Int) == 0) = false := by simp; omega
        have hs30' : (s : Int) ≤ 30 := by omega
        clear hodd
        go_wp2_with fail
        go_loopw [15, 16] (fun o i wy => (∃ q, wy = wr.drewN q) ∧ ∃ (j : Nat) (b : Bool), j ≤ 16 ∧ i = .int .i64 j ∧ o = .bool b ∧ Hid (b = true ↔ s = 0 ∨ ∃ j', j' < j ∧ A j' % 2 ≠ 0)) (fun _ i _ => 16 - (intOf i).toNat)
        case atStart => 
          refine ⟨⟨0, rfl⟩, 0, (s : Int) == 0, Nat.zero_le _, rfl, rfl, ?_⟩
          show ((s : Int) == 0) = true ↔ _
          rw [beq_iff_eq]
          constructor
          · intro h0; left; omega
          · rintro (h0 | ⟨j', h0, _⟩)
            · omega
            · omega
        case round =>
          rename World => wy
          obtain ⟨⟨q, rfl⟩, j, b, hj, rfl, rfl, hb⟩ := hrel
          by_cases hj16 : j < 16
          · have hcj := (unhide Hp4 j (by omega)).1
            simp only [prOf, hj16, if_true] at hcj
            have hj' : (j : Int) < 16 := by omega
            have heq := unhide HAe j hj16
            have hnx : Hid (∀ b' : Bool, (b' = true ↔ b = true ∨ A j % 2 ≠ 0) → (b' = true ↔ s = 0 ∨ ∃ j', j' < j + 1 ∧ A j' % 2 ≠ 0)) := fun b' h0 => by
              have hb' := unhide hb
              rw [h0, hb']
              constructor
              · rintro ((h3 | ⟨j', h3, h4⟩) | h3)
                · exact Or.inl h3
                · exact Or.inr ⟨j', by omega, h4⟩
                · exact Or.inr ⟨j, by omega, h3⟩
              · rintro (h3 | ⟨j', h3, h4⟩)
                · exact Or.inl (Or.inl h3)
                · by_cases ej : j' = j
                  · subst ej; exact Or.inr h4
                  · exact Or.inl (Or.inr ⟨j', by omega, h4⟩)
            clear hb
            have hwe := wrap_pow (t := e) (by omega)
            have hws := wrap_pow (t := s) (by omega)
            by_cases hjm : j < k
            · rw [if_pos hjm] at heq
              have hix := fun W => idx (P := Ybad.prog) Ybad.underlying22 size21 (cap := cap) (unhide Ha) (show j < n by omega) W
              simp only [Nat.mul_one] at hix
              have s1 : wr.cell? ⟨b0, off + j, none⟩ = some (.int .i32 (c j)) := by rw [hB4.cell (p := ⟨b0, _, none⟩) (hb0 (by omega))]; exact unhide Hc j (by omega)
              have hcb := unhide Hcb j (by omega)
              have hcmp : (wrap64 (A j * wrap64 (2 ^ e)) != wrap64 (c j * wrap64 (2 ^ s))) = false := by rw [hwe, hws, heq]; simp
              clear heq hwe hws
              by_cases hpar : A j % 2 = 0
              · have hpt : ((A j).tmod 2 != 0) = false := by rw [Int.tmod_eq_zero_of_dvd (by omega)]; rfl
                go_wp2_with fail
                go_quiet (fail)
                go_wp2_with fail
                exact ⟨⟨⟨q + nq, rfl⟩, j + 1, b, by omega, by go_num, rfl, unhide hnx b (by simp [hpar])⟩, by simp [intOf]; omega⟩
              · have hpt : ((A j).tmod 2 != 0) = true := by
                  have : ¬ (A j).tmod 2 = 0 := fun h0 => hpar (by have := Int.dvd_of_tmod_eq_zero h0; omega)
                  simp [this]
                go_wp2_with fail
                go_quiet (fail)
                go_wp2_with fail
                exact ⟨⟨⟨q + nq, rfl⟩, j + 1, true, by omega, by go_num, rfl, unhide hnx true (by simp [hpar])⟩, by simp [intOf]; omega⟩
            · rw [if_neg hjm, Int.zero_mul] at heq
              have hA0 : A j = 0 := pow_zero_of heq
              rw [hA0] at hcj
              have hw0' : wrap64 0 = 0 := by unfold wrap64; omega
              clear heq
              go_wp2_with fail
              go_quiet (fail)
              go_wp2_with fail
              exact ⟨⟨⟨q + nq, rfl⟩, j + 1, b, by omega, by go_num, rfl, unhide hnx b (by simp [hA0])⟩, by simp [intOf]; omega⟩
          · obtain rfl : j = 16 := by omega
            have hbt : b = true := (unhide hb).2 (by
              rcases unhide Ho with h | ⟨j', h3, h4⟩
              · exact Or.inl h
              · exact Or.inr ⟨j', h3, h4⟩)
            subst hbt
            go_wp2_with fail
            go_ret
            exact ⟨rfl, Below.drewN' hB4 q⟩
end Go.Proofs.YbulkdbluDoor
