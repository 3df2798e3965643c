/-
  The library's functions on words of integers times powers of two; Log2 and Ceil where quantize asks them.
-/
import Derived.Test.YbulkdbluDoorFb
namespace Go.Proofs.YbulkdbluDoor
open Go.RowKit

theorem ldexp_Wd {c e k : Int} (h : c.natAbs < 9007199254740992) (he1 : -400 ≤ e) (he2 : e ≤ 400) (hk1 : -400 ≤ k) (hk2 : k ≤ 400) (w : World) :
    Calls Ybad.prog 11 #[.float .f64 (Wd c e), .int .i64 k] w fun r w' => r = .returned (.float .f64 (Wd c (e + k))) ∧ w' = w := by
  by_cases h0 : c = 0
  · subst h0
    rw [Wd_zero, Wd_zero]
    exact ldexp_zero k w
  · obtain ⟨s, E, f, hs, hE, hf, e1, a1, a2, a3⟩ := Wd_parts h0 h (e := e) (by omega) (by omega)
    obtain ⟨s', E', f', hs', hE', hf', e1', a1', a2', a3'⟩ := Wd_parts h0 h (e := e + k) (by omega) (by omega)
    rw [e1, e1']
    have : E' = (E + k).toNat := by omega
    rw [hs', ← hs, hf', ← hf, this]
    exact ldexp_W a1 a2 a3 (by omega) (by omega) w

theorem abs_Wd {c e : Int} (h : c.natAbs < 9007199254740992) (he1 : -400 ≤ e) (he2 : e ≤ 400) (w : World) :
    Calls Ybad.prog 18 #[.float .f64 (Wd c e)] w fun r w' => r = .returned (.float .f64 (Wd c.natAbs e)) ∧ w' = w := by
  by_cases h0 : c = 0
  · subst h0
    rw [Wd_zero]
    exact abs_zero w
  · obtain ⟨s, E, f, hs, hE, hf, e1, a1, a2, a3⟩ := Wd_parts h0 h (e := e) (by omega) (by omega)
    have e2 : Wd (c.natAbs : Int) e = W false E f := by
      unfold Wd
      rw [if_neg (by omega), Int.natAbs_natCast, ← hE, ← hf, show decide (((c.natAbs : Nat) : Int) < 0) = false by simp]
      simp
    rw [e1, e2]
    exact abs_W a2 a3 w

theorem round_Wd {c : Int} (h : c.natAbs < 4503599627370496) (w : World) :
    Calls Ybad.prog 19 #[.float .f64 (Wd c 0)] w fun r w' => r = .returned (.float .f64 (Wd c 0)) ∧ w' = w := by
  by_cases h0 : c = 0
  · subst h0
    rw [Wd_zero]
    exact round_zero w
  · obtain ⟨s, E, f, hs, hE, hf, e1, a1, a2, a3⟩ := Wd_parts h0 (by omega) (e := 0) (by omega) (by omega)
    have hlog : c.natAbs.log2 ≤ 51 := by have := (Nat.log2_lt (n := c.natAbs) (k := 52) (by omega)).2 h; omega
    rw [e1]
    refine round_W (L := c.natAbs.log2) (by omega) hlog a3 ?_ w
    rw [hf]
    unfold frac
    have h52 : 4503599627370496 = 2 ^ c.natAbs.log2 * 2 ^ (52 - c.natAbs.log2) := by rw [← Nat.pow_add, show c.natAbs.log2 + (52 - c.natAbs.log2) = 52 by omega]
    rw [h52, ← Nat.sub_mul]
    exact Nat.mul_mod_left _ _

theorem call40 (b : Nat) (w : World) : (callFunc 40 #[.float .f64 b]).run Ybad.prog w = ((Extern.MathLog.archLog #[.float .f64 b]).run Ybad.prog w).andThen fun v w' => .ok (.value v) w' :=
  run_callFunc_extern Ybad.func40 (by kernel_rfl) (by kernel_rfl) (by kernel_rfl) (e := Extern.MathLog.archLog) (by kernel_rfl) _ w

/-- math.Ceil's word. -/
def ceilW (x : Nat) : Nat := FloatKind.f64.encode ((FloatKind.f64.decode x).integral .up)

theorem call24 (b : Nat) (hb : (FloatKind.f64.decode b).isNaN = false) (w : World) : (callFunc 24 #[.float .f64 b]).run Ybad.prog w = .ok (.value (.float .f64 (ceilW b))) w := by
  rw [run_callFunc_extern Ybad.func24 (by kernel_rfl) (by kernel_rfl) (by kernel_rfl) (e := Extern.MathFloor.toIntegral "math.archCeil" .up) (by kernel_rfl)]
  unfold ceilW
  have key : ∀ (d : Ieee.Datum) (f : Ieee.Datum → Sem Value), d.isNaN = false → (∀ s, f (.infinity s) = pure (.float .f64 (FloatKind.f64.encode (Ieee.Datum.integral .up (.infinity s))))) → (∀ s m e, f (.number s m e) = pure (.float .f64 (FloatKind.f64.encode (Ieee.Datum.integral .up (.number s m e))))) →
      ((f d).run Ybad.prog w).andThen (fun v w' => Result.ok (Next.value v) w') = Result.ok (Next.value (.float .f64 (FloatKind.f64.encode (d.integral .up)))) w := by
    intro d f h1 h2 h3
    cases d with
    | nan s t => cases h1
    | infinity s => rw [h2]; rfl
    | number s m e => rw [h3]; rfl
  exact key (FloatKind.f64.decode b) (fun d => Extern.MathFloor.toIntegral.match_1 (fun _ => Sem Value) d _ _) hb (fun _ => rfl) (fun _ _ _ => rfl)

attribute [local go_sem] call28 call20 call40

set_option maxHeartbeats 400000 in
theorem ceil_at (b : Nat) (hb : (FloatKind.f64.decode b).isNaN = false) (w : World) : Calls Ybad.prog 16 #[.float .f64 b] w fun r w' => r = .returned (.float .f64 (ceilW b)) ∧ w' = w := by
  have hc := call24 b hb
  generalize ceilW b = y at *
  clear hb
  go_enter Ybad.func16, Ybad.ntmps16
  go_wp2
  go_ret
  exact ⟨rfl, rfl⟩

set_option maxRecDepth 100000 in
set_option maxHeartbeats 1000000 in
theorem frexp_W {E f : Nat} (h1 : 1 ≤ E) (h2 : E ≤ 2046) (hf : f < 4503599627370496) (w : World) :
    Calls Ybad.prog 34 #[.float .f64 (W false E f)] w fun e w' => e = .returned (.tuple #[.float .f64 (W false 1022 f), .int .i64 ((E : Int) - 1023 + 1)]) ∧ w' = w := by
  have ha := bits_abs (s := false) h2 hf
  have hst := bits_strip (s := false) h2 hf
  have o1' : (FloatKind.f64.format.order (W false E f) 0 == some .eq) = false := order_zero (s := false) h1 h2 hf
  have o2' : FloatKind.f64.format.order (W false E f) (W false E f) = some .eq := order_self (s := false) h1 h2 hf
  have hWp : W false E f = E * 4503599627370496 + f := by unfold W; simp
  have o3 : (FloatKind.f64.format.order (W false E f) 9218868437227405311 == some .gt) = false := by
    show (Ieee.double.order _ _ == _) = _
    rw [order_pos (by omega) (by omega)]
    have : W false E f < 9218868437227405311 ∨ W false E f = 9218868437227405311 := by omega
    rcases this with h | h
    · simp only [compare, compareOfLessAndEq, h, if_true]; decide
    · rw [h]; decide
  have o4 : (FloatKind.f64.format.order (W false E f) 4503599627370496 == some .lt) = false := by
    show (Ieee.double.order _ _ == _) = _
    rw [order_pos (by omega) (by omega)]
    have : ¬ W false E f < 4503599627370496 := by omega
    simp only [compare, compareOfLessAndEq, this, if_false]
    split <;> decide
  have hfu := field_u (s := false) (E := E) (f := f) (by omega) hf
  have hset := bits_set (s := false) (E := 1022) (f := f) (by omega) hf
  rw [show ((1022 * 4503599627370496 : Nat) : Int) = 4602678819172646912 from rfl] at hset
  clear hWp
  generalize W false 1022 f = z at *
  generalize W false 0 f = y at *
  generalize W false E f = x at *
  go_enter Ybad.func34, Ybad.ntmps34
  go_wp2
  go_ret2
  exact ⟨rfl, rfl⟩

set_option maxRecDepth 100000 in
set_option maxHeartbeats 1000000 in
theorem log2_gen (E f l m d r : Nat) (h1 : 1 ≤ E) (h2 : E ≤ 2046) (hf : f < 4503599627370496) (ho : (FloatKind.f64.format.order (W false 1022 f) 4602678819172646912 == some .eq) = false)
    (hl : ∀ w, (Extern.MathLog.archLog #[.float .f64 (W false 1022 f)]).run Ybad.prog w = .ok (.float .f64 l) w) (hm : floatBits .mul .f64 l 4609176140021203710 = some m) (hd : floatOfInt .f64 ((E : Int) - 1023 + 1) = d) (ha : floatBits .add .f64 m d = some r) (w : World) :
    Calls Ybad.prog 17 #[.float .f64 (W false E f)] w fun e w' => e = .returned (.float .f64 r) ∧ w' = w := by
  have hfr := frexp_W h1 h2 hf
  have hm' := fun W1 t => run_float_arith (P := Ybad.prog) W1 .mul t .f64 _ _ _ hm
  have ha' := fun W1 t => run_float_arith (P := Ybad.prog) W1 .add t .f64 _ _ _ ha
  clear hm ha
  generalize W false 1022 f = z at *
  generalize W false E f = x at *
  go_enter Ybad.func17, Ybad.ntmps17
  go_wp2_with (first | (go_at_call 34; refine (hfr _).mono ?_; rintro e w' ⟨rfl, rfl⟩) | go_in)
  go_ret
  exact ⟨rfl, rfl⟩

set_option maxRecDepth 100000 in
set_option maxHeartbeats 1000000 in
theorem log2_half (E d : Nat) (h1 : 1 ≤ E) (h2 : E ≤ 2046) (hd : floatOfInt .f64 ((E : Int) - 1023) = d) (w : World) :
    Calls Ybad.prog 17 #[.float .f64 (W false E 0)] w fun e w' => e = .returned (.float .f64 d) ∧ w' = w := by
  have hfr := frexp_W (f := 0) h1 h2 (by omega)
  have ho : FloatKind.f64.format.order 4602678819172646912 4602678819172646912 = some .eq := by decide
  have hz : W false 1022 0 = 4602678819172646912 := by decide
  rw [hz] at hfr
  generalize W false E 0 = x at *
  go_enter Ybad.func17, Ybad.ntmps17
  go_wp2_with (first | (go_at_call 34; refine (hfr _).mono ?_; rintro e w' ⟨rfl, rfl⟩) | go_in)
  go_ret
  exact ⟨rfl, rfl⟩

theorem zeros : FloatKind.f64.format.order 0 0 = some .eq := by decide
set_option maxRecDepth 100000 in
set_option maxHeartbeats 1000000 in
theorem log2_zero (w : World) : Calls Ybad.prog 17 #[.float .f64 0] w fun e w' => e = .returned (.float .f64 18442240474082181120) ∧ w' = w := by
  have ho := zeros
  have ho2 : (FloatKind.f64.format.order 0 4602678819172646912 == some .eq) = false := by decide
  have hl : ∀ w, (Extern.MathLog.archLog #[.float .f64 0]).run Ybad.prog w = .ok (.float .f64 18442240474082181120) w := fun w => by kernel_rfl
  have hd : floatOfInt .f64 0 = 0 := by decide
  have hm' := fun W1 t => run_float_arith (P := Ybad.prog) W1 .mul t .f64 18442240474082181120 4609176140021203710 18442240474082181120 (by decide)
  have ha' := fun W1 t => run_float_arith (P := Ybad.prog) W1 .add t .f64 18442240474082181120 0 18442240474082181120 (by decide)
  go_enter Ybad.func17, Ybad.ntmps17
  go_wp2
  go_ret
  exact ⟨rfl, rfl⟩

theorem log_1 (w : World) : Calls Ybad.prog 17 #[.float .f64 4590669220166325589] w fun e w' => e = .returned (.float .f64 13838627073545985716) ∧ w' = w :=
  log2_gen 1019 1501199875790165 13824347866811832397 13826816130200599250 13837309855095848960 13838627073545985716 (by decide) (by decide) (by decide) (by decide) (fun w => by kernel_rfl) (by kernel_rfl) (by kernel_rfl) (by kernel_rfl) w
theorem log_2 (w : World) : Calls Ybad.prog 17 #[.float .f64 4595172819793696085] w fun e w' => e = .returned (.float .f64 13836375273732300468) ∧ w' = w :=
  log2_gen 1020 1501199875790165 13824347866811832397 13826816130200599250 13835058055282163712 13836375273732300468 (by decide) (by decide) (by decide) (by decide) (fun w => by kernel_rfl) (by kernel_rfl) (by kernel_rfl) (by kernel_rfl) w
theorem log_3 (w : World) : Calls Ybad.prog 17 #[.float .f64 4598175219545276416] w fun e w' => e = .returned (.float .f64 13835058055282163712) ∧ w' = w :=
  log2_half 1021 13835058055282163712 (by decide) (by decide) (by kernel_rfl) w
theorem log_4 (w : World) : Calls Ybad.prog 17 #[.float .f64 4599676419421066581] w fun e w' => e = .returned (.float .f64 13833188892555066729) ∧ w' = w :=
  log2_gen 1021 1501199875790165 13824347866811832397 13826816130200599250 13830554455654793216 13833188892555066729 (by decide) (by decide) (by decide) (by decide) (fun w => by kernel_rfl) (by kernel_rfl) (by kernel_rfl) (by kernel_rfl) w
theorem log_5 (w : World) : Calls Ybad.prog 17 #[.float .f64 4601177619296856747] w fun e w' => e = .returned (.float .f64 13831739057306891910) ∧ w' = w :=
  log2_gen 1021 3002399751580331 13819108883507222133 13821782063381076502 13830554455654793216 13831739057306891910 (by decide) (by decide) (by decide) (by decide) (fun w => by kernel_rfl) (by kernel_rfl) (by kernel_rfl) (by kernel_rfl) w
theorem log_6 (w : World) : Calls Ybad.prog 17 #[.float .f64 4602678819172646912] w fun e w' => e = .returned (.float .f64 13830554455654793216) ∧ w' = w :=
  log2_half 1022 13830554455654793216 (by decide) (by decide) (by kernel_rfl) w
theorem log_7 (w : World) : Calls Ybad.prog 17 #[.float .f64 4603429419110541995] w fun e w' => e = .returned (.float .f64 13828551322803071516) ∧ w' = w :=
  log2_gen 1022 750599937895083 13826402105279759684 13828551322803071516 0 13828551322803071516 (by decide) (by decide) (by decide) (by decide) (fun w => by kernel_rfl) (by kernel_rfl) (by kernel_rfl) (by kernel_rfl) w
theorem log_8 (w : World) : Calls Ybad.prog 17 #[.float .f64 4604180019048437077] w fun e w' => e = .returned (.float .f64 13826816130200599250) ∧ w' = w :=
  log2_gen 1022 1501199875790165 13824347866811832397 13826816130200599250 0 13826816130200599250 (by decide) (by decide) (by decide) (by decide) (fun w => by kernel_rfl) (by kernel_rfl) (by kernel_rfl) (by kernel_rfl) w
theorem log_9 (w : World) : Calls Ybad.prog 17 #[.float .f64 4604930618986332160] w fun e w' => e = .returned (.float .f64 13824520307681069661) ∧ w' = w :=
  log2_gen 1022 2251799813685248 13822226076269861778 13824520307681069661 0 13824520307681069661 (by decide) (by decide) (by decide) (by decide) (fun w => by kernel_rfl) (by kernel_rfl) (by kernel_rfl) (by kernel_rfl) w
theorem log_10 (w : World) : Calls Ybad.prog 17 #[.float .f64 4605681218924227243] w fun e w' => e = .returned (.float .f64 13821782063381076502) ∧ w' = w :=
  log2_gen 1022 3002399751580331 13819108883507222133 13821782063381076502 0 13821782063381076502 (by decide) (by decide) (by decide) (by decide) (fun w => by kernel_rfl) (by kernel_rfl) (by kernel_rfl) (by kernel_rfl) w
theorem log_11 (w : World) : Calls Ybad.prog 17 #[.float .f64 4606431818862122325] w fun e w' => e = .returned (.float .f64 13817062783815522088) ∧ w' = w :=
  log2_gen 1022 3752999689475413 13814306287997740585 13817062783815522088 0 13817062783815522088 (by decide) (by decide) (by decide) (by decide) (fun w => by kernel_rfl) (by kernel_rfl) (by kernel_rfl) (by kernel_rfl) w
theorem log_12 (w : World) : Calls Ybad.prog 17 #[.float .f64 4607182418800017408] w fun e w' => e = .returned (.float .f64 0) ∧ w' = w :=
  log2_half 1023 0 (by decide) (by decide) (by kernel_rfl) w
theorem log_13 (w : World) : Calls Ybad.prog 17 #[.float .f64 4607557718768964949] w fun e w' => e = .returned (.float .f64 4592985431116640200) ∧ w' = w :=
  log2_gen 1023 375299968947541 13827069610551313056 13829514329348108807 4607182418800017408 4592985431116640200 (by decide) (by decide) (by decide) (by decide) (fun w => by kernel_rfl) (by kernel_rfl) (by kernel_rfl) (by kernel_rfl) w
theorem log_14 (w : World) : Calls Ybad.prog 17 #[.float .f64 4607933018737912491] w fun e w' => e = .returned (.float .f64 4597180551697422224) ∧ w' = w :=
  log2_gen 1023 750599937895083 13826402105279759684 13828551322803071516 4607182418800017408 4597180551697422224 (by decide) (by decide) (by decide) (by decide) (fun w => by kernel_rfl) (by kernel_rfl) (by kernel_rfl) (by kernel_rfl) w
theorem log_15 (w : World) : Calls Ybad.prog 17 #[.float .f64 4608308318706860032] w fun e w' => e = .returned (.float .f64 4599470960910605194) ∧ w' = w :=
  log2_gen 1023 1125899906842624 13825510489450817230 13827654785158443579 4607182418800017408 4599470960910605194 (by decide) (by decide) (by decide) (by decide) (fun w => by kernel_rfl) (by kernel_rfl) (by kernel_rfl) (by kernel_rfl) w
theorem log_16 (w : World) : Calls Ybad.prog 17 #[.float .f64 4608683618675807573] w fun e w' => e = .returned (.float .f64 4601148270826293852) ∧ w' = w :=
  log2_gen 1023 1501199875790165 13824347866811832397 13826816130200599250 4607182418800017408 4601148270826293852 (by decide) (by decide) (by decide) (by decide) (fun w => by kernel_rfl) (by kernel_rfl) (by kernel_rfl) (by kernel_rfl) w

/-- The quotients by 12, and what Log2 answers of each. -/
def quoW : Nat → Nat
  | 1 => 4590669220166325589
  | 2 => 4595172819793696085
  | 3 => 4598175219545276416
  | 4 => 4599676419421066581
  | 5 => 4601177619296856747
  | 6 => 4602678819172646912
  | 7 => 4603429419110541995
  | 8 => 4604180019048437077
  | 9 => 4604930618986332160
  | 10 => 4605681218924227243
  | 11 => 4606431818862122325
  | 12 => 4607182418800017408
  | 13 => 4607557718768964949
  | 14 => 4607933018737912491
  | 15 => 4608308318706860032
  | 16 => 4608683618675807573
  | _ => 0
def logW : Nat → Nat
  | 1 => 13838627073545985716
  | 2 => 13836375273732300468
  | 3 => 13835058055282163712
  | 4 => 13833188892555066729
  | 5 => 13831739057306891910
  | 6 => 13830554455654793216
  | 7 => 13828551322803071516
  | 8 => 13826816130200599250
  | 9 => 13824520307681069661
  | 10 => 13821782063381076502
  | 11 => 13817062783815522088
  | 12 => 0
  | 13 => 4592985431116640200
  | 14 => 4597180551697422224
  | 15 => 4599470960910605194
  | 16 => 4601148270826293852
  | _ => 0
theorem log_at (n : Nat) (h1 : 1 ≤ n) (h2 : n ≤ 16) (w : World) : Calls Ybad.prog 17 #[.float .f64 (quoW n)] w fun e w' => e = .returned (.float .f64 (logW n)) ∧ w' = w := by
  have h : n = 1 ∨ n = 2 ∨ n = 3 ∨ n = 4 ∨ n = 5 ∨ n = 6 ∨ n = 7 ∨ n = 8 ∨ n = 9 ∨ n = 10 ∨ n = 11 ∨ n = 12 ∨ n = 13 ∨ n = 14 ∨ n = 15 ∨ n = 16 := by omega
  rcases h with rfl | rfl | rfl | rfl | rfl | rfl | rfl | rfl | rfl | rfl | rfl | rfl | rfl | rfl | rfl | rfl
  · exact log_1 w
  · exact log_2 w
  · exact log_3 w
  · exact log_4 w
  · exact log_5 w
  · exact log_6 w
  · exact log_7 w
  · exact log_8 w
  · exact log_9 w
  · exact log_10 w
  · exact log_11 w
  · exact log_12 w
  · exact log_13 w
  · exact log_14 w
  · exact log_15 w
  · exact log_16 w

theorem quo_at (n : Nat) (h1 : 1 ≤ n) (h2 : n ≤ 16) : floatBits .quo .f64 (floatOfInt .f64 n) 4622945017495814144 = some (quoW n) := by
  have h : ∀ m : Fin 17, 1 ≤ m.val → floatBits .quo .f64 (floatOfInt .f64 (m.val : Int)) 4622945017495814144 = some (quoW m.val) := by decide +kernel
  exact h ⟨n, by omega⟩ h1

/-- The shift that quantize takes first, out of Log2's word. -/
def shiftP (n sc : Nat) : Option (Nat × Nat × Nat × Int) := do
  let h ← floatBits .mul .f64 4602678819172646912 (logW n)
  let t ← floatBits .add .f64 (floatOfInt .f64 sc) 4611686018427387904
  let u ← floatBits .add .f64 t h
  let z ← floatToIntVal .f64 (ceilW u) .i64
  pure (h, t, u, z)

theorem shift_ok : ∀ m : Fin 17, 1 ≤ m.val → ∀ sc : Fin 36, (match shiftP m.val sc.val with | some (_, _, u, z) => decide ((sc.val : Int) + 1 ≤ z) && decide (z ≤ 100) && !(FloatKind.f64.decode u).isNaN | none => false) = true := by decide +kernel

theorem shift_at (n sc : Nat) (h1 : 1 ≤ n) (h2 : n ≤ 16) (h3 : sc ≤ 35) :
    ∃ h t u z, floatBits .mul .f64 4602678819172646912 (logW n) = some h ∧ floatBits .add .f64 (floatOfInt .f64 sc) 4611686018427387904 = some t ∧ floatBits .add .f64 t h = some u ∧ floatToIntVal .f64 (ceilW u) .i64 = some z ∧ (FloatKind.f64.decode u).isNaN = false ∧ (sc : Int) + 1 ≤ z ∧ z ≤ 100 := by
  have hk := shift_ok ⟨n, by omega⟩ h1 ⟨sc, by omega⟩
  simp only at hk
  cases e : shiftP n sc with
  | none => rw [e] at hk; cases hk
  | some q =>
    obtain ⟨h, t, u, z⟩ := q
    rw [e] at hk
    simp only [Bool.and_eq_true, decide_eq_true_eq, Bool.not_eq_true'] at hk
    unfold shiftP at e
    simp only [bind, Option.bind_eq_some_iff, pure, Option.some.injEq, Prod.mk.injEq] at e
    obtain ⟨h', e1, t', e2, u', e3, z', e4, rfl, rfl, rfl, rfl⟩ := e
    exact ⟨_, _, _, _, e1, e2, e3, e4, hk.2, hk.1.1, hk.1.2⟩
end Go.Proofs.YbulkdbluDoor
