/-
  Plain facts on words of float64: a normal word by its sign, exponent field and fraction; reading, ordering, a product by one; the word of an integer times a power of two.
-/
import Derived.Laws.FloatArith
namespace Go.Proofs.YbulkdbluDoor
open Ieee

/-- The word with sign s, exponent field E, fraction f. -/
def W (s : Bool) (E f : Nat) : Nat := (if s then 9223372036854775808 else 0) + E * 4503599627370496 + f

theorem sw : double.signWeight = 9223372036854775808 := by decide
theorem bn : double.binade = 4503599627370496 := by decide
theorem ir : double.infRung = 9218868437227405312 := by decide
theorem lp : double.leastPlace = -1074 := by decide

theorem W_lt {s : Bool} {E f : Nat} (hE : E ≤ 2046) (hf : f < 4503599627370496) : W s E f < 18446744073709551616 := by
  unfold W; cases s <;> simp <;> omega

theorem read_W {s : Bool} {E f : Nat} (h1 : 1 ≤ E) (h2 : E ≤ 2046) (hf : f < 4503599627370496) : double.read (W s E f) = .number s (4503599627370496 + f) (E - 1075) := by
  have hd : W s E f / 9223372036854775808 % 2 = if s then 1 else 0 := by unfold W; cases s <;> simp <;> omega
  have hm : W s E f % 9223372036854775808 = E * 4503599627370496 + f := by unfold W; cases s <;> simp <;> omega
  unfold Format.read
  simp only [sw, bn, ir, lp, hd, hm]
  rw [if_neg (by omega), if_pos (by omega)]
  rw [show (E * 4503599627370496 + f) % 4503599627370496 = f by omega, show (E * 4503599627370496 + f) / 4503599627370496 = E by omega]
  congr 1
  · cases s <;> rfl
  · omega

theorem read_zero : double.read 0 = .number false 0 (-1074) := by decide

theorem signed_zero (s : Bool) (t : Nat) : signed s 0 t = 0 := by unfold signed; cases s <;> simp
theorem signed_ne {s : Bool} {m t : Nat} (h : 0 < m) : signed s m t ≠ 0 := by
  unfold signed
  rw [Nat.shiftLeft_eq]
  have : 0 < m * 2 ^ t := Nat.mul_pos h (Nat.two_pow_pos _)
  generalize m * 2 ^ t = q at *
  cases s
  · rw [if_neg (by decide)]; omega
  · rw [if_pos rfl]; omega

theorem order_zero {s : Bool} {E f : Nat} (h1 : 1 ≤ E) (h2 : E ≤ 2046) (hf : f < 4503599627370496) : (double.order (W s E f) 0 == some .eq) = false := by
  unfold Format.order
  rw [read_W h1 h2 hf, read_zero]
  simp only [Datum.order, signed_zero]
  have := signed_ne (s := s) (m := 4503599627370496 + f) (t := (((E : Int) - 1075) - min ((E : Int) - 1075) (-1074)).toNat) (by omega)
  simp [compare, compareOfLessAndEq]
  split <;> simp_all

theorem order_self {s : Bool} {E f : Nat} (h1 : 1 ≤ E) (h2 : E ≤ 2046) (hf : f < 4503599627370496) : double.order (W s E f) (W s E f) = some .eq := by
  unfold Format.order
  rw [read_W h1 h2 hf]
  simp [Datum.order, compare, compareOfLessAndEq]

/-- A positive finite word's value in units of the least place. -/
def val (r : Nat) : Nat := if r < 4503599627370496 then r else (4503599627370496 + r % 4503599627370496) * 2 ^ (r / 4503599627370496 - 1)

theorem val_lt {a b : Nat} (h : a < b) : val a < val b := by
  unfold val
  by_cases ha : a < 4503599627370496
  · rw [if_pos ha]
    by_cases hb : b < 4503599627370496
    · rw [if_pos hb]; exact h
    · rw [if_neg hb]
      have : 1 ≤ 2 ^ (b / 4503599627370496 - 1) := Nat.one_le_two_pow
      have := Nat.mul_le_mul_left (4503599627370496 + b % 4503599627370496) this
      omega
  · rw [if_neg ha, if_neg (by omega)]
    have hq : a / 4503599627370496 ≤ b / 4503599627370496 := Nat.div_le_div_right (by omega)
    rcases Nat.lt_or_ge (a / 4503599627370496) (b / 4503599627370496) with hl | hg
    · have h1 : 2 ^ (a / 4503599627370496 - 1 + 1) ≤ 2 ^ (b / 4503599627370496 - 1) := Nat.pow_le_pow_right (by omega) (by omega)
      rw [Nat.pow_succ] at h1
      have hm := Nat.mod_lt a (show 0 < 4503599627370496 by omega)
      have hp : 0 < 2 ^ (a / 4503599627370496 - 1) := Nat.two_pow_pos _
      have h2 : (4503599627370496 + a % 4503599627370496) * 2 ^ (a / 4503599627370496 - 1) < 9007199254740992 * 2 ^ (a / 4503599627370496 - 1) := Nat.mul_lt_mul_of_pos_right (by omega) hp
      have h3 := Nat.mul_le_mul_left (4503599627370496 + b % 4503599627370496) h1
      have h4 := Nat.mul_le_mul_right (2 ^ (a / 4503599627370496 - 1) * 2) (show 4503599627370496 ≤ 4503599627370496 + b % 4503599627370496 by omega)
      omega
    · have e : a / 4503599627370496 = b / 4503599627370496 := by omega
      rw [e]
      refine Nat.mul_lt_mul_of_pos_right ?_ (Nat.two_pow_pos _)
      omega

theorem read_pos {r : Nat} (h : r < 9218868437227405312) : ∃ m : Nat, ∃ t : Nat, double.read r = .number false m (-1074 + t) ∧ m * 2 ^ t = val r := by
  unfold Format.read val
  simp only [sw, bn, ir, lp]
  rw [show r / 9223372036854775808 % 2 = 0 by omega, show r % 9223372036854775808 = r by omega]
  by_cases h0 : r < 4503599627370496
  · rw [if_pos h0, if_pos h0]
    exact ⟨r, 0, by simp, by simp⟩
  · rw [if_neg h0, if_pos h, if_neg h0]
    exact ⟨_, _, by simp, rfl⟩

theorem signed_scale (m t u : Nat) : signed false m (t + u) = signed false m t * (2 ^ u : Nat) := by
  simp only [signed, Bool.false_eq_true, if_false, Nat.shiftLeft_eq, Nat.pow_add, ← Nat.mul_assoc]
  exact Int.natCast_mul _ _

theorem compare_scale (x y : Int) (u : Nat) : compare (x * (2 ^ u : Nat)) (y * (2 ^ u : Nat)) = compare x y := by
  have hp : (0 : Int) < (2 ^ u : Nat) := by exact_mod_cast Nat.two_pow_pos u
  simp only [compare, compareOfLessAndEq]
  have h1 : (x * (2 ^ u : Nat) < y * (2 ^ u : Nat)) ↔ x < y := Int.mul_lt_mul_right hp
  have h2 : (x * (2 ^ u : Nat) = y * (2 ^ u : Nat)) ↔ x = y := Int.mul_eq_mul_right_iff (by omega)
  simp only [h1, h2]

/-- Positive finite words stand in the order of the words. -/
theorem order_pos {a b : Nat} (ha : a < 9218868437227405312) (hb : b < 9218868437227405312) : double.order a b = some (compare a b) := by
  obtain ⟨m, t, e1, v1⟩ := read_pos ha
  obtain ⟨n, u, e2, v2⟩ := read_pos hb
  unfold Format.order
  rw [e1, e2]
  simp only [Datum.order]
  congr 1
  obtain ⟨z, hz⟩ : ∃ z : Nat, min (-1074 + (t : Int)) (-1074 + u) = -1074 + z := ⟨min t u, by omega⟩
  rw [hz]
  have hzt : z ≤ t := by omega
  have hzu : z ≤ u := by omega
  rw [show (-1074 + (t : Int) - (-1074 + z)).toNat = t - z by omega, show (-1074 + (u : Int) - (-1074 + z)).toNat = u - z by omega]
  rw [← compare_scale _ _ z, ← signed_scale, ← signed_scale, show t - z + z = t by omega, show u - z + z = u by omega]
  simp only [signed, Bool.false_eq_true, if_false, Nat.shiftLeft_eq, v1, v2]
  have key : (val a < val b ↔ a < b) ∧ (val a = val b ↔ a = b) := by
    rcases Nat.lt_trichotomy a b with h | h | h
    · have := val_lt h; constructor <;> omega
    · subst h; simp
    · have := val_lt h; constructor <;> omega
  simp only [compare, compareOfLessAndEq, Int.ofNat_lt, Int.natCast_inj, key.1, key.2]

theorem log2_range {m L : Nat} (h1 : 2 ^ L ≤ m) (h2 : m < 2 ^ (L + 1)) : m.log2 = L := by
  have hm : m ≠ 0 := by have := Nat.two_pow_pos L; omega
  have a1 := (Nat.le_log2 hm).2 h1
  have a2 := (Nat.log2_lt hm).2 h2
  omega

theorem cut_exact {neg : Bool} {n d q : Nat} (e : n = q * 2 ^ d) (hq : 0 < q) : Toward.even.cut neg n d = q := by
  have hn : n ≠ 0 := by rw [e]; have := Nat.mul_pos hq (Nat.two_pow_pos d); omega
  have hd : d ≤ n.log2 := (Nat.le_log2 hn).2 (by rw [e]; exact Nat.le_mul_of_pos_left _ hq)
  unfold Toward.cut
  simp only [Nat.shiftLeft_eq, Nat.one_mul]
  rw [show min d (n.log2 + 2) = d by omega]
  have h1 : n / 2 ^ d = q := by rw [e]; exact Nat.mul_div_cancel _ (Nat.two_pow_pos _)
  have h2 : n % 2 ^ d = 0 := by rw [e]; exact Nat.mul_mod_left _ _
  have hp := Nat.two_pow_pos d
  rw [h1, h2]
  simp only [Nat.mul_zero, Nat.not_lt_zero, decide_false, Bool.false_or]
  rw [show (2 ^ d == 0) = false by simp]
  simp

theorem cut_zero_exact {neg : Bool} {n d q : Nat} (e : n = q * 2 ^ d) (hq : 0 < q) : Toward.zero.cut neg n d = q := by
  have hn : n ≠ 0 := by rw [e]; have := Nat.mul_pos hq (Nat.two_pow_pos d); omega
  have hd : d ≤ n.log2 := (Nat.le_log2 hn).2 (by rw [e]; exact Nat.le_mul_of_pos_left _ hq)
  unfold Toward.cut
  simp only [Nat.shiftLeft_eq, Nat.one_mul]
  rw [show min d (n.log2 + 2) = d by omega]
  have h1 : n / 2 ^ d = q := by rw [e]; exact Nat.mul_div_cancel _ (Nat.two_pow_pos _)
  rw [h1]
  simp

/-- One times a normal word. -/
theorem mul_one {s : Bool} {E f : Nat} (h1 : 1 ≤ E) (h2 : E ≤ 2046) (hf : f < 4503599627370496) : double.mul 4607182418800017408 (W s E f) = some (W s E f) := by
  have r1 : double.read 4607182418800017408 = .number false 4503599627370496 (-52) := by decide
  unfold Format.mul
  rw [r1, read_W h1 h2 hf]
  simp only [Datum.product, Option.map_some, Format.write]
  congr 1
  have hl : (4503599627370496 * (4503599627370496 + f)).log2 = 104 := log2_range (by omega) (by omega)
  unfold Format.nearest
  rw [if_neg (by omega)]
  simp only [hl, lp, bn, ir, show double.fractionBits = 52 from rfl]
  have hlast : max (-52 + ((E : Int) - 1075) + (104 : Nat) - (52 : Nat)) (-1074) = (E : Int) - 1075 := by omega
  rw [hlast, show (-52 + ((E : Int) - 1075) - ((E : Int) - 1075)).toNat = 0 by omega, show ((E : Int) - 1075 - (-52 + ((E : Int) - 1075))).toNat = 52 by omega]
  rw [cut_exact (q := 4503599627370496 + f) (by simp; omega) (by omega)]
  rw [show ((E : Int) - 1075 - -1074).toNat = E - 1 by omega]
  unfold Format.word W
  rw [sw, Nat.min_eq_left (by omega)]
  cases s <;> simp <;> omega

/-- m below 2^53 times 2^p, written: exact. -/
theorem nearest_exact {s : Bool} {m L : Nat} {p : Int} (h1 : 2 ^ L ≤ m) (h2 : m < 2 ^ (L + 1)) (hL : L ≤ 52) (hp : -1022 ≤ p + L) (hq : p + L ≤ 1023) :
    double.nearest s m p = W s (p + L + 1023).toNat (m * 2 ^ (52 - L) - 4503599627370496) := by
  have hm : m ≠ 0 := by have := Nat.two_pow_pos L; omega
  have hl := log2_range h1 h2
  have hb1 : 4503599627370496 ≤ m * 2 ^ (52 - L) := by
    have := Nat.mul_le_mul_right (2 ^ (52 - L)) h1
    rw [← Nat.pow_add, show L + (52 - L) = 52 by omega] at this
    exact this
  have hb2 : m * 2 ^ (52 - L) < 9007199254740992 := by
    have := Nat.mul_lt_mul_of_pos_right h2 (Nat.two_pow_pos (52 - L))
    rw [← Nat.pow_add, show L + 1 + (52 - L) = 53 by omega] at this
    exact this
  unfold Format.nearest
  rw [if_neg hm]
  simp only [hl, lp, bn, ir, show double.fractionBits = 52 from rfl]
  rw [show max (p + (L : Int) - (52 : Nat)) (-1074) = p + L - 52 by omega]
  rw [show (p - (p + (L : Int) - 52)).toNat = 52 - L by omega, show (p + (L : Int) - 52 - p).toNat = 0 by omega]
  rw [cut_exact (q := m * 2 ^ (52 - L)) (by rw [Nat.shiftLeft_eq]; simp) (by omega)]
  generalize m * 2 ^ (52 - L) = q at *
  rw [show (p + (L : Int) - 52 - -1074).toNat = (p + L + 1023).toNat - 1 by omega]
  have hE : 1 ≤ (p + L + 1023).toNat ∧ (p + L + 1023).toNat ≤ 2046 := by omega
  generalize (p + L + 1023).toNat = E at *
  unfold Format.word W
  rw [sw, Nat.min_eq_left (by omega)]
  cases s <;> simp <;> omega

/-- The fraction field of m (below 2^53). -/
def frac (m : Nat) : Nat := m * 2 ^ (52 - m.log2) - 4503599627370496

theorem frac_parts {m : Nat} (h0 : 0 < m) (hm : m < 9007199254740992) : m.log2 ≤ 52 ∧ 2 ^ m.log2 ≤ m ∧ m < 2 ^ (m.log2 + 1) ∧ m * 2 ^ (52 - m.log2) = 4503599627370496 + frac m ∧ frac m < 4503599627370496 := by
  have hne : m ≠ 0 := by omega
  have hL : m.log2 ≤ 52 := by have := (Nat.log2_lt hne (k := 53)).2 hm; omega
  have h1 := (Nat.le_log2 hne (k := m.log2)).1 (Nat.le_refl _)
  have h2 := (Nat.log2_lt hne (k := m.log2 + 1)).1 (by omega)
  have hb1 : 4503599627370496 ≤ m * 2 ^ (52 - m.log2) := by
    have := Nat.mul_le_mul_right (2 ^ (52 - m.log2)) h1
    rw [← Nat.pow_add, show m.log2 + (52 - m.log2) = 52 by omega] at this
    exact this
  have hb2 : m * 2 ^ (52 - m.log2) < 9007199254740992 := by
    have := Nat.mul_lt_mul_of_pos_right h2 (Nat.two_pow_pos (52 - m.log2))
    rw [← Nat.pow_add, show m.log2 + 1 + (52 - m.log2) = 53 by omega] at this
    exact this
  refine ⟨hL, h1, h2, ?_, ?_⟩ <;> unfold frac <;> omega

/-- The word of c times 2^e. -/
def Wd (c e : Int) : Nat := if c = 0 then 0 else W (decide (c < 0)) ((c.natAbs.log2 : Int) + 1023 + e).toNat (frac c.natAbs)

theorem Wd_zero (e : Int) : Wd 0 e = 0 := by simp [Wd]

theorem conv_Wd {c : Int} (h : c.natAbs < 9007199254740992) : floatOfInt .f64 c = Wd c 0 := by
  show double.nearest (decide (c < 0)) c.natAbs 0 = _
  by_cases h0 : c = 0
  · subst h0; decide
  · obtain ⟨hL, h1, h2, _, _⟩ := frac_parts (m := c.natAbs) (by omega) h
    rw [nearest_exact h1 h2 hL (by omega) (by omega)]
    unfold Wd frac
    rw [if_neg h0, show (0 : Int) + (c.natAbs.log2 : Int) + 1023 = (c.natAbs.log2 : Int) + 1023 + 0 by omega]

/-- Its parts. -/
theorem Wd_parts {c e : Int} (h0 : c ≠ 0) (h : c.natAbs < 9007199254740992) (he1 : -900 ≤ e) (he2 : e ≤ 900) :
    ∃ (s : Bool) (E f : Nat), s = decide (c < 0) ∧ (E : Int) = c.natAbs.log2 + 1023 + e ∧ f = frac c.natAbs ∧ Wd c e = W s E f ∧ 1 ≤ E ∧ E ≤ 2046 ∧ f < 4503599627370496 := by
  obtain ⟨hL, h1, h2, h3, h4⟩ := frac_parts (m := c.natAbs) (by omega) h
  refine ⟨_, ((c.natAbs.log2 : Int) + 1023 + e).toNat, _, rfl, by omega, rfl, by unfold Wd; rw [if_neg h0], by omega, by omega, h4⟩

theorem Wd_pos {c e : Int} (h0 : 0 < c) (h : c.natAbs < 9007199254740992) (he1 : -900 ≤ e) (he2 : e ≤ 900) :
    ∃ E : Nat, (E : Int) = c.natAbs.log2 + 1023 + e ∧ Wd c e = E * 4503599627370496 + frac c.natAbs ∧ 1 ≤ E ∧ E ≤ 2046 ∧ frac c.natAbs < 4503599627370496 := by
  obtain ⟨s, E, f, hs, hE, hf, e1, a1, a2, a3⟩ := Wd_parts (by omega) h he1 he2
  rw [hf] at e1 a3
  rw [hs, show decide (c < 0) = false by simp; omega] at e1
  exact ⟨E, hE, by rw [e1]; unfold W; simp, a1, a2, a3⟩

theorem Wd_fin {c e : Int} (h0 : 0 ≤ c) (h : c.natAbs < 9007199254740992) (he1 : -900 ≤ e) (he2 : e ≤ 900) : Wd c e < 9218868437227405312 := by
  rcases Int.lt_or_eq_of_le h0 with hp | rfl
  · obtain ⟨E, _, e1, a1, a2, a3⟩ := Wd_pos hp h he1 he2
    omega
  · rw [Wd_zero]; omega

theorem log2_mono {a b : Nat} (ha : 0 < a) (h : a ≤ b) : a.log2 ≤ b.log2 := by
  have := (Nat.le_log2 (n := b) (k := a.log2) (by omega)).2 (Nat.le_trans ((Nat.le_log2 (n := a) (k := a.log2) (by omega)).1 (Nat.le_refl _)) h)
  exact this

theorem Wd_mono {a b e : Int} (h0 : 0 ≤ a) (hab : a < b) (h : b.natAbs < 9007199254740992) (he1 : -900 ≤ e) (he2 : e ≤ 900) : Wd a e < Wd b e := by
  obtain ⟨B, b1, b2, b3, b4, b5⟩ := Wd_pos (c := b) (by omega) h he1 he2
  rcases Int.lt_or_eq_of_le h0 with hp | rfl
  · obtain ⟨A, a1, a2, a3, a4, a5⟩ := Wd_pos (c := a) hp (by omega) he1 he2
    rw [a2, b2]
    have hl := log2_mono (a := a.natAbs) (b := b.natAbs) (by omega) (by omega)
    rcases Nat.lt_or_ge a.natAbs.log2 b.natAbs.log2 with hlt | hge
    · have : A < B := by omega
      omega
    · have hAB : A = B := by omega
      have hlog : a.natAbs.log2 = b.natAbs.log2 := by omega
      obtain ⟨_, _, _, fa, _⟩ := frac_parts (m := a.natAbs) (by omega) (by omega)
      obtain ⟨_, _, _, fb, _⟩ := frac_parts (m := b.natAbs) (by omega) (by omega)
      have : a.natAbs * 2 ^ (52 - a.natAbs.log2) < b.natAbs * 2 ^ (52 - b.natAbs.log2) := by
        rw [hlog]
        exact Nat.mul_lt_mul_of_pos_right (by omega) (Nat.two_pow_pos _)
      omega
  · rw [Wd_zero]; omega

theorem order_Wd {a b e : Int} (ha : 0 ≤ a) (hb : 0 ≤ b) (ha2 : a.natAbs < 9007199254740992) (hb2 : b.natAbs < 9007199254740992) (he1 : -900 ≤ e) (he2 : e ≤ 900) : double.order (Wd a e) (Wd b e) = some (compare a b) := by
  rw [order_pos (Wd_fin ha ha2 he1 he2) (Wd_fin hb hb2 he1 he2)]
  congr 1
  rcases Int.lt_trichotomy a b with h | h | h
  · have := Wd_mono ha h hb2 he1 he2
    simp [compare, compareOfLessAndEq, this, h]
  · subst h; simp [compare, compareOfLessAndEq]
  · have := Wd_mono hb h ha2 he1 he2
    have h1 : ¬ Wd a e < Wd b e := by omega
    have h2 : ¬ Wd a e = Wd b e := by omega
    have h3 : ¬ a < b := by omega
    have h4 : ¬ a = b := by omega
    simp only [compare, compareOfLessAndEq, h1, h2, h3, h4, if_false]

theorem log2_mul_pow {m : Nat} (hm : 0 < m) (d : Nat) : (m * 2 ^ d).log2 = m.log2 + d := by
  apply log2_range
  · rw [Nat.pow_add]
    exact Nat.mul_le_mul_right _ ((Nat.le_log2 (n := m) (k := m.log2) (by omega)).1 (Nat.le_refl _))
  · rw [show m.log2 + d + 1 = (m.log2 + 1) + d by omega, Nat.pow_add]
    exact Nat.mul_lt_mul_of_pos_right ((Nat.log2_lt (n := m) (k := m.log2 + 1) (by omega)).1 (by omega)) (Nat.two_pow_pos _)

theorem natAbs_mul_pow (c : Int) (d : Nat) : (c * 2 ^ d).natAbs = c.natAbs * 2 ^ d := by
  rw [Int.natAbs_mul, Int.natAbs_pow]; rfl

theorem Wd_shift {c e : Int} (d : Nat) (h : c.natAbs * 2 ^ d < 9007199254740992) : Wd (c * 2 ^ d) e = Wd c (e + d) := by
  by_cases h0 : c = 0
  · subst h0; rw [Int.zero_mul, Wd_zero, Wd_zero]
  · have hp : (0 : Int) < 2 ^ d := by exact_mod_cast Nat.two_pow_pos d
    have hne : c * 2 ^ d ≠ 0 := Int.mul_ne_zero h0 (by omega)
    have hlog := log2_mul_pow (m := c.natAbs) (by omega) d
    have hL : c.natAbs.log2 + d ≤ 52 := by
      obtain ⟨hL, _⟩ := frac_parts (m := c.natAbs * 2 ^ d) (Nat.mul_pos (by omega) (Nat.two_pow_pos d)) h
      omega
    have hf : frac (c.natAbs * 2 ^ d) = frac c.natAbs := by
      unfold frac
      rw [hlog, Nat.mul_assoc, ← Nat.pow_add, show d + (52 - (c.natAbs.log2 + d)) = 52 - c.natAbs.log2 by omega]
    have hs : decide (c * 2 ^ d < 0) = decide (c < 0) := by
      have : c * 2 ^ d < 0 ↔ c < 0 := by
        constructor
        · intro hh
          rcases Int.lt_or_le c 0 with g | g
          · exact g
          · have := Int.mul_nonneg g (Int.le_of_lt hp); omega
        · intro g; exact Int.mul_neg_of_neg_of_pos g hp
      simp only [this]
    unfold Wd
    rw [if_neg hne, if_neg h0, natAbs_mul_pow, hlog, hf, hs, show ((c.natAbs.log2 + d : Nat) : Int) + 1023 + e = (c.natAbs.log2 : Int) + 1023 + (e + d) by omega]

/-- Below 2^40. -/
theorem Wd_below {a e : Int} (h0 : 0 ≤ a) (h : a.natAbs < 9007199254740992) (he1 : -900 ≤ e) (he2 : e ≤ 900) : Wd a e < 4787326403894837248 ↔ (a = 0 ∨ (a.natAbs.log2 : Int) + e ≤ 39) := by
  rcases Int.lt_or_eq_of_le h0 with hp | rfl
  · obtain ⟨A, a1, a2, a3, a4, a5⟩ := Wd_pos hp h he1 he2
    rw [a2]
    constructor
    · intro hh; right; omega
    · rintro (hh | hh) <;> omega
  · rw [Wd_zero]; simp

theorem toInt_Wd {c : Int} (h : c.natAbs < 9007199254740992) : floatToIntVal .f64 (Wd c 0) .i64 = some c := by
  unfold floatToIntVal
  show (match (double.read (Wd c 0)).toInt .zero with | some n => _ | none => _) = _
  by_cases h0 : c = 0
  · subst h0; decide
  · obtain ⟨s, E, f, hs, hE, hf, e1, a1, a2, a3⟩ := Wd_parts (e := 0) h0 h (by omega) (by omega)
    rw [hf] at e1 a3
    rw [hs] at e1
    obtain ⟨hL, h1, h2, h3, h4⟩ := frac_parts (m := c.natAbs) (by omega) h
    rw [e1, read_W a1 a2 a3]
    have hint : (Datum.number (decide (c < 0)) (4503599627370496 + frac c.natAbs) ((E : Int) - 1075)).toInt .zero = some c := by
      unfold Datum.toInt Datum.integral
      simp only
      rw [show ((E : Int) - 1075).toNat = 0 by omega, show (-((E : Int) - 1075)).toNat = 52 - c.natAbs.log2 by omega, ← h3]
      rw [cut_zero_exact (q := c.natAbs) (by simp) (by omega)]
      congr 1
      unfold signed
      by_cases hn : c < 0
      · simp [hn]; omega
      · simp [hn]; omega
    rw [hint]
    simp only
    rw [if_pos]
    constructor
    · show (-9223372036854775808 : Int) ≤ c; omega
    · show c ≤ (9223372036854775807 : Int); omega

end Go.Proofs.YbulkdbluDoor
