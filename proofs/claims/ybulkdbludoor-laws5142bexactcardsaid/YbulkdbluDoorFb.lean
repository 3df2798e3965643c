/-
  The library's functions on words: math.Abs, Ldexp, Round.
-/
import Derived.Test.YbulkdbluDoorProg
import Derived.Test.YbulkdbluDoorFa
import Derived.WalkKit
import Derived.WalkSpells
import Derived.WalkLawsBesides
import Derived.Laws.BitsAll
import Derived.Deep.QuietTactic
import Derived.BigQuiet
namespace Go.Proofs.YbulkdbluDoor
open Go.RowKit

theorem call28 (b : Nat) (w : World) : (callFunc 28 #[.float .f64 b]).run Ybad.prog w = .ok (.value (.int .u64 b)) w := by
  rw [run_callFunc_extern Ybad.func28 (by kernel_rfl) (by kernel_rfl) (by kernel_rfl) (e := Extern.MathFloatBits.float64bits) (by kernel_rfl)]
  rfl
theorem call20 (b : Nat) (w : World) : (callFunc 20 #[.int .u64 (b : Int)]).run Ybad.prog w = .ok (.value (.float .f64 b)) w := by
  rw [run_callFunc_extern Ybad.func20 (by kernel_rfl) (by kernel_rfl) (by kernel_rfl) (e := Extern.MathFloatBits.float64frombits) (by kernel_rfl)]
  rfl
attribute [local go_sem] call28 call20

theorem pow_parts (k hi lo : Nat) : hi * 2 ^ k + lo = 2 ^ k * hi + lo := by rw [Nat.mul_comm]
theorem and_split (k hi lo mh ml : Nat) (h1 : lo < 2 ^ k) (h2 : ml < 2 ^ k) : (hi * 2 ^ k + lo) &&& (mh * 2 ^ k + ml) = (hi &&& mh) * 2 ^ k + (lo &&& ml) := by
  apply Nat.eq_of_testBit_eq
  intro j
  have h3 : lo &&& ml < 2 ^ k := Nat.lt_of_le_of_lt Nat.and_le_left h1
  rw [Nat.testBit_and, pow_parts, pow_parts, pow_parts, Nat.testBit_two_pow_mul_add _ h1, Nat.testBit_two_pow_mul_add _ h2, Nat.testBit_two_pow_mul_add _ h3]
  by_cases h : j < k
  · simp [h]
  · simp [h]
theorem or_split (k hi lo mh ml : Nat) (h1 : lo < 2 ^ k) (h2 : ml < 2 ^ k) : (hi * 2 ^ k + lo) ||| (mh * 2 ^ k + ml) = (hi ||| mh) * 2 ^ k + (lo ||| ml) := by
  apply Nat.eq_of_testBit_eq
  intro j
  have h3 : lo ||| ml < 2 ^ k := Nat.or_lt_two_pow h1 h2
  rw [Nat.testBit_or, pow_parts, pow_parts, pow_parts, Nat.testBit_two_pow_mul_add _ h1, Nat.testBit_two_pow_mul_add _ h2, Nat.testBit_two_pow_mul_add _ h3]
  by_cases h : j < k
  · simp [h]
  · simp [h]

theorem and_low (k x : Nat) (h : x < 2 ^ k) : x &&& (2 ^ k - 1) = x := by rw [Nat.and_two_pow_sub_one_eq_mod, Nat.mod_eq_of_lt h]

/-- W as 12 bits above 52, and the 12 as one above 11. -/
theorem W_two (s : Bool) (E f : Nat) : W s E f = (s.toNat * 2 ^ 11 + E) * 2 ^ 52 + f := by unfold W; cases s <;> simp <;> omega

theorem bits_abs {s : Bool} {E f : Nat} (h2 : E ≤ 2046) (hf : f < 4503599627370496) : bits .andNot .u64 ((W s E f : Nat) : Int) 9223372036854775808 = ((W false E f : Nat) : Int) := by
  have := u64_andNot_nat (W s E f) 9223372036854775808 (W_lt h2 hf) (by omega)
  rw [show ((9223372036854775808 : Nat) : Int) = 9223372036854775808 from rfl] at this
  rw [this, W_two, W_two]
  congr 1
  rw [show (18446744073709551615 - 9223372036854775808 : Nat) = (0 * 2 ^ 11 + 2047) * 2 ^ 52 + (2 ^ 52 - 1) by decide, and_split 52 _ _ _ _ hf (by decide), and_split 11 _ _ _ _ (by omega) (by decide), and_low 52 f hf, and_low 11 E (by omega)]
  simp

theorem bits_strip {s : Bool} {E f : Nat} (h2 : E ≤ 2046) (hf : f < 4503599627370496) : bits .andNot .u64 ((W s E f : Nat) : Int) 9218868437227405312 = ((W s 0 f : Nat) : Int) := by
  have := u64_andNot_nat (W s E f) 9218868437227405312 (W_lt h2 hf) (by omega)
  rw [show ((9218868437227405312 : Nat) : Int) = 9218868437227405312 from rfl] at this
  rw [this, W_two, W_two]
  congr 1
  rw [show (18446744073709551615 - 9218868437227405312 : Nat) = (1 * 2 ^ 11 + 0) * 2 ^ 52 + (2 ^ 52 - 1) by decide, and_split 52 _ _ _ _ hf (by decide), and_split 11 _ _ _ _ (by omega) (by decide), and_low 52 f hf]
  cases s <;> simp

theorem bits_set {s : Bool} {E f : Nat} (h2 : E ≤ 2046) (hf : f < 4503599627370496) : bits .or .u64 ((W s 0 f : Nat) : Int) ((E * 4503599627370496 : Nat) : Int) = ((W s E f : Nat) : Int) := by
  have := u64_or_nat (W s 0 f) (E * 4503599627370496) (W_lt (by omega) hf) (by omega)
  rw [this, W_two, W_two]
  congr 1
  rw [show E * 4503599627370496 = (0 * 2 ^ 11 + E) * 2 ^ 52 + 0 by omega, or_split 52 _ _ _ _ hf (by decide), or_split 11 _ _ _ _ (by omega) (by omega)]
  simp

theorem i64_low11 (n : Int) : bits .and .i64 n 2047 = n % 2048 := by
  have hl : (BitVec.ofInt 64 2047).toNat = 2 ^ 11 - 1 := by decide
  show IntKind.i64.wrap ((BitVec.ofInt 64 n &&& BitVec.ofInt 64 2047).toNat : Nat) = n % 2048
  rw [BitVec.toNat_and, BitVec.toNat_ofInt, hl, Nat.and_two_pow_sub_one_eq_mod, IntKind.wrap_i64]
  omega

theorem field_W {s : Bool} {E f : Nat} (h2 : E ≤ 2046) (hf : f < 4503599627370496) : bits .and .i64 (wrap64 ((W s E f : Nat) / 4503599627370496)) 2047 = (E : Int) := by
  rw [i64_low11, wrap64]
  unfold W
  cases s <;> simp <;> omega

theorem field_u {s : Bool} {E f : Nat} (h2 : E ≤ 2046) (hf : f < 4503599627370496) : bits .and .u64 (((W s E f : Nat) : Int) / 4503599627370496) 2047 = (E : Int) := by
  have e : ((W s E f : Nat) : Int) / 4503599627370496 = ((s.toNat * 2 ^ 11 + E : Nat) : Int) := by unfold W; cases s <;> simp <;> omega
  rw [e]
  have := u64_and_nat (s.toNat * 2 ^ 11 + E) 2047 (by cases s <;> simp <;> omega) (by omega)
  rw [show ((2047 : Nat) : Int) = 2047 from rfl] at this
  rw [this, show (2047 : Nat) = 0 * 2 ^ 11 + 2047 from rfl, and_split 11 _ _ _ _ (by omega) (by decide), and_low 11 E (by omega)]
  simp

set_option maxHeartbeats 400000 in
theorem abs_W {s : Bool} {E f : Nat} (h2 : E ≤ 2046) (hf : f < 4503599627370496) (w : World) :
    Calls Ybad.prog 18 #[.float .f64 (W s E f)] w fun e w' => e = .returned (.float .f64 (W false E f)) ∧ w' = w := by
  have ha := bits_abs (s := s) h2 hf
  generalize W false E f = y at *
  generalize W s E f = x at *
  go_enter Ybad.func18, Ybad.ntmps18
  go_wp2
  go_ret
  exact ⟨rfl, rfl⟩

set_option maxRecDepth 100000 in
set_option maxHeartbeats 1000000 in
theorem ldexp_W {s : Bool} {E f : Nat} {k : Int} (h1 : 1 ≤ E) (h2 : E ≤ 2046) (hf : f < 4503599627370496) (hk1 : 1 ≤ E + k) (hk2 : E + k ≤ 2046) (w : World) :
    Calls Ybad.prog 11 #[.float .f64 (W s E f), .int .i64 k] w fun e w' => e = .returned (.float .f64 (W s (E + k).toNat f)) ∧ w' = w := by
  have ha := bits_abs (s := s) h2 hf
  have hst := bits_strip (s := s) h2 hf
  have o1 := order_zero (s := s) h1 h2 hf
  have o2 := order_self (s := s) h1 h2 hf
  have hWp : W false E f = E * 4503599627370496 + f := by unfold W; simp
  have o3 : (FloatKind.f64.format.order (W false E f) 9218868437227405311 == some .gt) = false := by
    show (Ieee.double.order _ _ == _) = _
    rw [order_pos (by omega) (by omega)]
    have : W false E f < 9218868437227405311 ∨ W false E f = 9218868437227405311 := by omega
    rcases this with h | h
    · simp only [compare, compareOfLessAndEq, h, if_true]; decide
    · rw [h]; decide
  have o4 : (FloatKind.f64.format.order (W false E f) 4503599627370496 == some .lt) = false := by
    show (Ieee.double.order _ _ == _) = _
    rw [order_pos (by omega) (by omega)]
    have : ¬ W false E f < 4503599627370496 := by omega
    simp only [compare, compareOfLessAndEq, this, if_false]
    split <;> decide
  have o1' : (FloatKind.f64.format.order (W s E f) 0 == some .eq) = false := o1
  have o2' : FloatKind.f64.format.order (W s E f) (W s E f) = some .eq := o2
  clear o1 o2 hWp
  have hfield := field_W (s := s) h2 hf
  obtain ⟨E', hE'⟩ := Int.eq_ofNat_of_zero_le (show 0 ≤ (E : Int) + k by omega)
  have hset := bits_set (s := s) (E := E') (f := f) (by omega) hf
  have hmul := fun W1 t => run_float_arith (P := Ybad.prog) W1 .mul t .f64 4607182418800017408 (W s E' f) (W s E' f) (mul_one (by omega) (by omega) hf)
  obtain rfl : k = E' - E := by omega
  rw [show ((E : Int) + ((E' : Int) - E)).toNat = E' by omega]
  clear hE'
  have hset' : bits .or .u64 ((W s 0 f : Nat) : Int) (((E' : Int) - E + (E - 1023) + 1023) * 4503599627370496) = ((W s E' f : Nat) : Int) := by
    rw [← hset]
    congr 1
    rw [Int.natCast_mul, show ((4503599627370496 : Nat) : Int) = 4503599627370496 from rfl]
    congr 1
    omega
  clear hset
  go_enter Ybad.func11, Ybad.ntmps11
  go_wp2
  go_ret
  exact ⟨rfl, rfl⟩

set_option maxHeartbeats 400000 in
theorem ldexp_zero (k : Int) (w : World) : Calls Ybad.prog 11 #[.float .f64 0, .int .i64 k] w fun e w' => e = .returned (.float .f64 0) ∧ w' = w := by
  have o : FloatKind.f64.format.order 0 0 = some .eq := by decide
  go_enter Ybad.func11, Ybad.ntmps11
  go_wp2
  go_ret
  exact ⟨rfl, rfl⟩

set_option maxHeartbeats 400000 in
theorem abs_zero (w : World) : Calls Ybad.prog 18 #[.float .f64 0] w fun e w' => e = .returned (.float .f64 0) ∧ w' = w := by
  have o : bits .andNot .u64 0 9223372036854775808 = 0 := by decide
  have c0 := call20 0
  simp only [Int.natCast_zero] at c0
  go_enter Ybad.func18, Ybad.ntmps18
  go_wp2
  go_ret
  exact ⟨rfl, rfl⟩

set_option maxHeartbeats 400000 in
theorem round_zero (w : World) : Calls Ybad.prog 19 #[.float .f64 0] w fun e w' => e = .returned (.float .f64 0) ∧ w' = w := by
  have o : bits .and .u64 0 9223372036854775808 = 0 := by decide
  have o2 : bits .and .u64 0 2047 = 0 := by decide
  have c0 := call20 0
  simp only [Int.natCast_zero] at c0
  go_enter Ybad.func19, Ybad.ntmps19
  go_wp2
  go_ret
  exact ⟨rfl, rfl⟩

theorem round_bits {s : Bool} {L f : Nat} (hL : L ≤ 51) (hf : f < 4503599627370496) (hd : f % 2 ^ (52 - L) = 0) :
    bits .andNot .u64 (IntKind.u64.wrap (((W s (L + 1023) f : Nat) : Int) + 2251799813685248 / 2 ^ L)) (4503599627370495 / 2 ^ L) = ((W s (L + 1023) f : Nat) : Int) := by
  have hlt := W_lt (s := s) (E := L + 1023) (f := f) (by omega) hf
  have h52 : 2 ^ (52 - L) * 2 ^ L = 4503599627370496 := by rw [← Nat.pow_add, show 52 - L + L = 52 by omega]
  have h51 : 2 ^ (51 - L) * 2 ^ L = 2251799813685248 := by rw [← Nat.pow_add, show 51 - L + L = 51 by omega]
  have hpL : 0 < 2 ^ L := Nat.two_pow_pos L
  have e1 : (2251799813685248 : Int) / 2 ^ L = ((2 ^ (51 - L) : Nat) : Int) := by
    have : (2251799813685248 : Nat) / 2 ^ L = 2 ^ (51 - L) := by rw [← h51]; exact Nat.mul_div_cancel _ hpL
    rw [← this]; rfl
  have e2 : (4503599627370495 : Int) / 2 ^ L = ((2 ^ (52 - L) - 1 : Nat) : Int) := by
    have : (4503599627370495 : Nat) / 2 ^ L = 2 ^ (52 - L) - 1 := by
      have hp : 0 < 2 ^ (52 - L) := Nat.two_pow_pos _
      apply Nat.div_eq_of_lt_le
      · rw [Nat.sub_mul, h52]; omega
      · rw [Nat.sub_add_cancel (by omega), h52]; omega
    rw [← this]; rfl
  rw [e1, e2]
  have hhalf : 2 ^ (51 - L) ≤ 2251799813685248 := by rw [← h51]; exact Nat.le_mul_of_pos_right _ hpL
  have hpd : 2 ^ (52 - L) = 2 * 2 ^ (51 - L) := by rw [show 52 - L = 51 - L + 1 by omega, Nat.pow_succ, Nat.mul_comm]
  have hhp : 0 < 2 ^ (51 - L) := Nat.two_pow_pos _
  have hW : W s (L + 1023) f ≤ 9223372036854775808 + 1074 * 4503599627370496 + 4503599627370496 := by unfold W; cases s <;> simp <;> omega
  obtain ⟨q, hq⟩ : ∃ q, W s (L + 1023) f = q * 2 ^ (52 - L) := by
    refine ⟨(if s then 2048 * 2 ^ L else 0) + (L + 1023) * 2 ^ L + f / 2 ^ (52 - L), ?_⟩
    have hff : f / 2 ^ (52 - L) * 2 ^ (52 - L) = f := Nat.div_mul_cancel (Nat.dvd_of_mod_eq_zero hd)
    rw [Nat.add_mul, Nat.add_mul, hff, Nat.mul_assoc, show 2 ^ L * 2 ^ (52 - L) = 4503599627370496 by rw [Nat.mul_comm]; exact h52]
    unfold W
    cases s
    · simp
    · simp only [if_true, Nat.mul_assoc]
      rw [show 2 ^ L * 2 ^ (52 - L) = 4503599627370496 by rw [Nat.mul_comm]; exact h52]
  have hwrap : IntKind.u64.wrap (((W s (L + 1023) f : Nat) : Int) + ((2 ^ (51 - L) : Nat) : Int)) = ((W s (L + 1023) f + 2 ^ (51 - L) : Nat) : Int) := by
    show (_ : Int) % 18446744073709551616 = _
    omega
  rw [hwrap, u64_andNot_nat _ _ (by omega) (by omega)]
  congr 1
  have hmask : (18446744073709551615 - (2 ^ (52 - L) - 1) : Nat) = (2 ^ (64 - (52 - L)) - 1) * 2 ^ (52 - L) + 0 := by
    have : 2 ^ (64 - (52 - L)) * 2 ^ (52 - L) = 18446744073709551616 := by rw [← Nat.pow_add, show 64 - (52 - L) + (52 - L) = 64 by omega]
    rw [Nat.sub_mul, this]
    omega
  rw [hmask, hq, and_split (52 - L) _ _ _ _ (by omega) (Nat.two_pow_pos _), and_low]
  · simp
  · have h64 : 2 ^ (64 - (52 - L)) * 2 ^ (52 - L) = 18446744073709551616 := by rw [← Nat.pow_add, show 64 - (52 - L) + (52 - L) = 64 by omega]
    rcases Nat.lt_or_ge q (2 ^ (64 - (52 - L))) with h | h
    · exact h
    · have := Nat.mul_le_mul_right (2 ^ (52 - L)) h
      omega

set_option maxRecDepth 100000 in
set_option maxHeartbeats 1000000 in
/-- A normal word whose exponent field is L + 1023 and whose fraction's last 52 - L bits are nought: a whole number. -/
theorem round_W {s : Bool} {E L f : Nat} (hE : E = L + 1023) (hL : L ≤ 51) (hf : f < 4503599627370496) (hd : f % 2 ^ (52 - L) = 0) (w : World) :
    Calls Ybad.prog 19 #[.float .f64 (W s E f)] w fun e w' => e = .returned (.float .f64 (W s E f)) ∧ w' = w := by
  have hfu := field_u (s := s) (E := E) (f := f) (by omega) hf
  have hr := round_bits (s := s) hL hf hd
  rw [← hE, show L = E - 1023 by omega] at hr
  have hE1 : 1023 ≤ E := by omega
  have hE2 : E ≤ 1074 := by omega
  clear hd hE hL
  generalize W s E f = y at *
  go_enter Ybad.func19, Ybad.ntmps19
  go_wp2
  go_ret
  exact ⟨rfl, rfl⟩
end Go.Proofs.YbulkdbluDoor
