/-
  (*predictor).quantize by its contract.
-/
import Derived.Test.YbulkdbluDoorFd
import Derived.Deep.CutBlock
import Derived.Deep.RegionWith
namespace Go.Proofs.YbulkdbluDoor
open Go.RowKit

/-- The greatest magnitude among the first k. -/
def peakTo (c : Nat → Int) : Nat → Int
  | 0 => 0
  | k + 1 => max (peakTo c k) (c k).natAbs

theorem peak_bound {c : Nat → Int} {m : Nat} (h : ∀ i, i < m → (c i).natAbs ≤ 2147483648) : ∀ k, k ≤ m → 0 ≤ peakTo c k ∧ peakTo c k ≤ 2147483648
  | 0, _ => by simp [peakTo]
  | k + 1, hk => by
    have := peak_bound h k (by omega)
    have := h k (by omega)
    simp only [peakTo]
    omega
theorem peak_ge {c : Nat → Int} : ∀ (k i : Nat), i < k → ((c i).natAbs : Int) ≤ peakTo c k
  | k + 1, i, h => by
    simp only [peakTo]
    by_cases e : i = k
    · subst e; omega
    · have := peak_ge (c := c) k i (by omega); omega

/-- What the law asks of the answer. -/
def Quantized (w w' : World) (pb m e : Nat) (c : Nat → Int) (ev : Value) (r : Ending) : Prop :=
  ∃ (A : Nat → Int) (p s : Nat), w.grownBy w' (some pb) ∧ Pr w' pb A p s ∧ s ≤ 30 ∧ p ≤ m ∧ (∀ j, j < 16 → A j * 2 ^ e = (if j < m then c j else 0) * 2 ^ s) ∧
    (∀ j, p ≤ j → j < 16 → A j = 0) ∧ (0 < p → A (p - 1) ≠ 0) ∧ (0 < p → s = 0 ∨ ∃ j, j < 16 ∧ A j % 2 ≠ 0) ∧ r = .returned (if p = 0 then ev else .nilIface)

theorem max_Wd {a b e : Int} (ha : 0 ≤ a) (hb : 0 ≤ b) (ha2 : a.natAbs < 9007199254740992) (hb2 : b.natAbs < 9007199254740992) (he1 : -900 ≤ e) (he2 : e ≤ 900) (W : World) (ts : Array TypeId) (ty : TypeId) :
    (Builtin.max_ ts ty #[.float .f64 (Wd a e), .float .f64 (Wd b e)]).run Ybad.prog W = .ok (.float .f64 (Wd (max a b) e)) W := by
  have ho : FloatKind.f64.format.order (Wd a e) (Wd b e) = some (compare a b) := order_Wd ha hb ha2 hb2 he1 he2
  rcases Int.lt_trichotomy a b with h | h | h
  · have hc : compare a b = .lt := by simp [compare, compareOfLessAndEq, h]
    rw [hc] at ho
    rw [show max a b = b by omega]
    simp [Builtin.max_, Builtin.max2, ho]
  · subst h
    have hc : compare a a = .eq := by simp [compare, compareOfLessAndEq]
    rw [hc] at ho
    rw [show max a a = a by omega]
    simp [Builtin.max_, Builtin.max2, ho]
  · have hc : compare a b = .gt := by simp [compare, compareOfLessAndEq, show ¬ a < b by omega, show ¬ a = b by omega]
    rw [hc] at ho
    rw [show max a b = a by omega]
    simp [Builtin.max_, Builtin.max2, ho]

theorem pr_all (A : Nat → Int) (p s : Int) : (arr18 (prOf A p s)).all (·.oneCell') = true := all_oneCell_toArray (fun v hv => by
  obtain ⟨j, hj, rfl⟩ := List.mem_map.1 hv
  unfold prOf
  split
  · rfl
  · split <;> rfl)

def lit18 (p s : Int) : Array Value := #[.int .i64 0, .int .i64 0, .int .i64 0, .int .i64 0, .int .i64 0, .int .i64 0, .int .i64 0, .int .i64 0, .int .i64 0, .int .i64 0, .int .i64 0, .int .i64 0, .int .i64 0, .int .i64 0, .int .i64 0, .int .i64 0, .int .i64 p, .int .u64 s]
theorem lit_arr (p s : Int) : lit18 p s = arr18 (prOf (fun _ => 0) p s) := rfl

theorem lit_all (p s : Int) : (lit18 p s).all (·.oneCell') = true := by rw [lit_arr]; exact pr_all _ _ _

/-- The coefficient at the first shift. -/
def scaled (c : Nat → Int) (S e j : Nat) : Int := c j * 2 ^ (S - e)

theorem scaled_small {c : Nat → Int} {m k S e : Nat} (hk : k < m) (hSe : e ≤ S) (hP0 : 0 ≤ peakTo c m) (hP1 : peakTo c m ≤ 2147483648) (hl : Wd (peakTo c m) ((S : Int) - e) < 4787326403894837248) (hS : S ≤ 30) (he : e ≤ 28) :
    (c k * 2 ^ (S - e)).natAbs < 1099511627776 := by
  rw [natAbs_mul_pow]
  have hle := peak_ge (c := c) m k hk
  by_cases h0 : c k = 0
  · rw [h0]; simp
  · have hlog := (Wd_below (a := peakTo c m) (e := (S : Int) - e) hP0 (by omega) (by omega) (by omega)).1 hl
    have hl1 : ((peakTo c m).natAbs.log2 : Int) + ((S : Int) - e) ≤ 39 := by
      rcases hlog with h | h
      · omega
      · exact h
    have hm := log2_mono (a := (c k).natAbs) (b := (peakTo c m).natAbs) (by omega) (by omega)
    have h1 := (Nat.log2_lt (n := (c k).natAbs) (k := (c k).natAbs.log2 + 1) (by omega)).1 (by omega)
    have h2 := Nat.mul_lt_mul_of_pos_right h1 (Nat.two_pow_pos (S - e))
    rw [← Nat.pow_add] at h2
    have h3 : 2 ^ ((c k).natAbs.log2 + 1 + (S - e)) ≤ 2 ^ 40 := Nat.pow_le_pow_right (by omega) (by omega)
    exact Nat.lt_of_lt_of_le h2 h3

/-- The 16 coefficients behind the fill. -/
def coef (c : Nat → Int) (S e m j : Nat) : Int := if j < m then scaled c S e j else 0

theorem grownBy.drew' {a w : World} {row : Option Nat} (h : a.grownBy w row) : a.grownBy w.drew row := ⟨h.os, h.tape, h.output, h.size, h.block⟩

/-- The shift that lies in the predictor. -/
def shiftIn (w : World) (pb : Nat) : Nat := match w.cell? ⟨pb, 17, none⟩ with
  | some (.int _ z) => z.toNat
  | _ => 0

theorem pow_le {a b : Int} {t : Nat} (h : a * 2 ^ t = b) : a.natAbs ≤ b.natAbs := by
  rw [← h, natAbs_mul_pow]
  exact Nat.le_mul_of_pos_right _ (Nat.two_pow_pos t)

/-- The order that lies in the predictor. -/
def orderIn (w : World) (pb : Nat) : Nat := match w.cell? ⟨pb, 16, none⟩ with
  | some (.int _ z) => z.toNat
  | _ => 0
theorem pow_zero_of {a : Int} {t : Nat} (h : a * 2 ^ t = 0) : a = 0 := by
  rcases Int.mul_eq_zero.1 h with h | h
  · exact h
  · have : (0 : Int) < 2 ^ t := by exact_mod_cast Nat.two_pow_pos t
    omega

theorem grownBy.drewN' {a w : World} {row : Option Nat} (h : a.grownBy w row) (n : Nat) : a.grownBy (w.drewN n) row := ⟨h.os, h.tape, h.output, h.size, h.block⟩

theorem quant_eq {c : Nat → Int} {S e m j t : Nat} {a : Int} (h : a * 2 ^ t = coef c S e m j) (ht : t ≤ S) (hSe : 1 ≤ m → e ≤ S) : a * 2 ^ e = (if j < m then c j else 0) * 2 ^ (S - t) := by
  by_cases hj : j < m
  · have hse := hSe (by omega)
    rw [coef, if_pos hj, scaled] at h
    rw [if_pos hj]
    have hp : (2 : Int) ^ t ≠ 0 := by have : (0 : Int) < 2 ^ t := by exact_mod_cast Nat.two_pow_pos t
                                      omega
    apply Int.eq_of_mul_eq_mul_right hp
    rw [Int.mul_assoc, Int.mul_comm (2 ^ e), ← Int.mul_assoc, h, Int.mul_assoc, ← Int.pow_add, Int.mul_assoc, ← Int.pow_add, show S - e + e = S by omega, show S - t + t = S by omega]
  · rw [coef, if_neg hj] at h
    rw [if_neg hj, pow_zero_of h]
    simp

theorem grown_put {a w : World} {pb : Nat} (h : a.grownBy w none) (vs : List Value) : a.grownBy (w.setCells pb 0 vs) (some pb) := by
  have key : ∀ (vs : List Value) (o : Nat) (w : World), a.grownBy w (some pb) → a.grownBy (w.setCells pb o vs) (some pb) := by
    intro vs
    induction vs with
    | nil => intro o w h; exact h
    | cons v vs ih =>
      intro o w h
      refine ih (o + 1) _ ⟨h.os, h.tape, h.output, by simpa using h.size, fun i hi hne => ?_⟩
      rw [Below.heap_setCell w ⟨pb, o, none⟩ v i (fun e => hne (by rw [e]))]
      exact h.block i hi hne
  exact key vs 0 w ⟨h.os, h.tape, h.output, h.size, fun i hi _ => h.block i hi (by simp)⟩

theorem grown_cell {a w : World} {pb : Nat} (h : a.grownBy w (some pb)) (o : Nat) (v : Value) : a.grownBy (w.setCell ⟨pb, o, none⟩ v) (some pb) :=
  ⟨h.os, h.tape, h.output, by simpa using h.size, fun i hi hne => by
    rw [Below.heap_setCell w ⟨pb, o, none⟩ v i (fun e => hne (by rw [e]))]
    exact h.block i hi hne⟩

theorem size_drew (w : World) : w.drew.heap.size = w.heap.size := rfl
theorem grown_drew (w : World) : w.grownBy w.drew none := ⟨rfl, rfl, rfl, Nat.le_refl _, fun _ _ _ => rfl⟩
theorem grown_refl (w : World) (row : Option Nat) : w.grownBy w row := ⟨rfl, rfl, rfl, Nat.le_refl _, fun _ _ _ => rfl⟩

set_option maxRecDepth 100000 in
set_option maxHeartbeats 1000000 in
theorem quant_gen (pb g m : Nat) (f0 : Nat → Value) (c : Nat → Int) (e : Nat) (ev : Value) (w w1 : World) (fs h t u cu qm lm : Nat) (z : Int) (hm : m ≤ 16) (he : e ≤ 28) (hcb : ∀ i, i < m → (c i).natAbs ≤ 2147483648)
    (hne : g ≠ pb) (hF : Full w1 pb 18 f0) (hG : Full w1 g m (fun k => .float .f64 (Wd (c k) (-e)))) (hw1 : w.grownBy w1 none)
    (b1 : ∀ W1 t, (binOp .mul t (.float .f64 4602678819172646912) (.float .f64 lm)).run Ybad.prog W1 = .ok (.float .f64 h) W1)
    (b2 : ∀ W1 t', (binOp .add t' (.float .f64 fs) (.float .f64 4611686018427387904)).run Ybad.prog W1 = .ok (.float .f64 t) W1)
    (b3 : ∀ W1 t', (binOp .add t' (.float .f64 t) (.float .f64 h)).run Ybad.prog W1 = .ok (.float .f64 u) W1)
    (b4 : ∀ W1 t', (binOp .quo t' (.float .f64 (floatOfInt .f64 m)) (.float .f64 4622945017495814144)).run Ybad.prog W1 = .ok (.float .f64 qm) W1)
    (b5 : (convert 33 3 (.float .f64 cu)).run Ybad.prog w = .ok (.int .i64 z) w1)
    (hlog : Hid (∀ w, Calls Ybad.prog 17 #[.float .f64 qm] w fun r w' => r = .returned (.float .f64 lm) ∧ w' = w)) (hceil : Hid (∀ w, Calls Ybad.prog 16 #[.float .f64 u] w fun r w' => r = .returned (.float .f64 cu) ∧ w' = w))
    (hz1 : 1 ≤ m → (e : Int) + 1 ≤ z) (hE : w.cell? ⟨0, 0, none⟩ = some ev) (hpb0 : pb ≠ 0) :
    Calls Ybad.prog 8 #[.pointer (some ⟨pb, 0, none⟩), .slice (some ⟨g, 0, none⟩) m m, .float .f64 fs] w fun r w' => Quantized w w' pb m e c ev r := by
  have HG := hide hG
  have HF := hide hF
  have Hw1 := hide hw1
  have Hcb := hide hcb
  have Hz1 := hide hz1
  have HE := hide hE
  clear hG hF hw1 hcb hz1 hE
  obtain ⟨z1, hz1'⟩ : ∃ z1 : Int, z1 = max z 0 := ⟨_, rfl⟩
  obtain ⟨S0, hS0⟩ : ∃ S0 : Int, S0 = min z1 30 := ⟨_, rfl⟩
  have hmx1 : (if z < 0 then 0 else z) = z1 := by omega
  have hmx2 : (if 30 < z1 then 30 else z1) = S0 := by omega
  have hS1 : 0 ≤ S0 ∧ S0 ≤ 30 := by omega
  have hS2 : Hid (1 ≤ m → (e : Int) ≤ S0) := fun h => by have := unhide Hz1 h; omega
  clear hS0 hz1'
  go_enter Ybad.func8, Ybad.ntmps8
  go_wp2_with (first | (go_at_call 17; refine (unhide hlog _).mono ?_; intro r w9 h9; obtain ⟨rfl, hw9⟩ := h9; obtain rfl := hw9.symm) | (go_at_call 16; refine (unhide hceil _).mono ?_; intro r w9 h9; obtain ⟨rfl, hw9⟩ := h9; obtain rfl := hw9.symm))
  clear b1 b2 b3 b4 b5 hlog hceil hmx1 hmx2
  go_loopw [8, 31] (fun p i wr => wr = w1 ∧ ∃ k : Nat, k ≤ m ∧ i = .int .i64 k ∧ p = .float .f64 (Wd (peakTo c k) (-e))) (fun _ i _ => m - (intOf i).toNat)
  case atStart => exact ⟨rfl, 0, Nat.zero_le _, rfl, by rw [peakTo, Wd_zero]⟩
  case round =>
    obtain ⟨rfl, k, hk, rfl, rfl⟩ := hrel
    by_cases hlt : k < m
    · have hix := fun W => idx (P := Ybad.prog) Ybad.underlying23 size33 (a := some ⟨g, 0, none⟩) (b := g) (off := 0) (n := m) (cap := m) (fun _ => rfl) hlt W
      simp only [Nat.mul_one, Nat.zero_add] at hix
      have hv := (unhide HG k hlt).1
      have hck := unhide Hcb k hlt
      have habs := hide (fun W => abs_Wd (c := c k) (e := -(e : Int)) (by omega) (by omega) (by omega) W)
      have hpk := peak_bound (unhide Hcb) k (by omega)
      have hmax := fun W ts ty => max_Wd (a := peakTo c k) (b := (c k).natAbs) (e := -(e : Int)) hpk.1 (by omega) (by omega) (by omega) (by omega) (by omega) W ts ty
      have hnx : peakTo c (k + 1) = max (peakTo c k) (c k).natAbs := rfl
      go_wp2_with (first | (go_at_call 18; refine (unhide habs _).mono ?_; intro r w9 h9; obtain ⟨rfl, hw9⟩ := h9; obtain rfl := hw9.symm))
      exact ⟨⟨trivial, k + 1, by omega, by go_num, by rw [hnx]⟩, by simp [intOf]; omega⟩
    · obtain rfl : m = k := by omega
      have hP := peak_bound (unhide Hcb) m (Nat.le_refl _)
      clear hlt hk
      go_upto_block 2 with fail
      go_cut [7] from 40 to 49 (fun s wx => wx = wr ∧ ∃ S : Nat, s = .int .i64 S ∧ S ≤ 30 ∧ Hid (1 ≤ m → e ≤ S) ∧ Wd (peakTo c m) ((S : Int) - e) < 4787326403894837248)
      case first =>
        go_wp2_with fail
        go_loopw [7] (fun s wx => wx = wr ∧ ∃ S : Nat, s = .int .i64 S ∧ S ≤ 30 ∧ Hid (1 ≤ m → e ≤ S)) (fun s _ => (intOf s).toNat)
        case atStart => exact ⟨rfl, S0.toNat, by rw [Int.toNat_of_nonneg hS1.1], by omega, fun h => by have := unhide hS2 h; omega⟩
        case round =>
          obtain ⟨rfl, S, rfl, hS, hSe⟩ := hrel
          have hlow := Wd_below (a := peakTo c m) (e := (S : Int) - e) hP.1 (by omega) (by omega) (by omega)
          have hpl : Hid (peakTo c m = 0 ∨ (peakTo c m).natAbs.log2 ≤ 31) := by
            by_cases h0 : peakTo c m = 0
            · exact Or.inl h0
            · right
              have := (Nat.log2_lt (n := (peakTo c m).natAbs) (k := 32) (by omega)).2 (by omega)
              omega
          have hpm : Hid (m = 0 → peakTo c m = 0) := fun h => by subst h; rfl
          have hfin := Wd_fin (c := peakTo c m) (e := (S : Int) - e) hP.1 (by omega) (by omega) (by omega)
          have hord : FloatKind.f64.format.order (Wd (peakTo c m) ((S : Int) - e)) 4787326403894837248 = some (compare (Wd (peakTo c m) ((S : Int) - e)) 4787326403894837248) := order_pos hfin (by omega)
          have hld := hide (fun W => ldexp_Wd (c := peakTo c m) (e := -(e : Int)) (k := (S : Int)) (by omega) (by omega) (by omega) (by omega) (by omega) W)
          rw [show -(e : Int) + S = (S : Int) - e by omega] at hld
          by_cases hpos : 0 < S
          · by_cases hl : Wd (peakTo c m) ((S : Int) - e) < 4787326403894837248
            · have hc1 : (FloatKind.f64.format.order (Wd (peakTo c m) ((S : Int) - e)) 4787326403894837248 == some .gt) = false := by rw [hord]; simp [compare, compareOfLessAndEq, hl]
              have hc2 : (FloatKind.f64.format.order (Wd (peakTo c m) ((S : Int) - e)) 4787326403894837248 == some .eq) = false := by rw [hord]; simp [compare, compareOfLessAndEq, hl]
              clear hord hlow hfin
              go_wp2_with (first | (go_at_call 11; refine (unhide hld _).mono ?_; intro r w9 h9; obtain ⟨rfl, hw9⟩ := h9; obtain rfl := hw9.symm))
              go_meet
              exact ⟨rfl, S, rfl, hS, hSe, hl⟩
            · have hge : Hid (e ≤ S - 1) := by
                rcases Nat.lt_or_ge e S with hh | hh
                · exact (by omega : e ≤ S - 1)
                · exact absurd (hlow.2 ((unhide hpl).elim Or.inl fun h0 => Or.inr (by omega))) hl
              have hc3 : ((FloatKind.f64.format.order (Wd (peakTo c m) ((S : Int) - e)) 4787326403894837248 == some .gt) || (FloatKind.f64.format.order (Wd (peakTo c m) ((S : Int) - e)) 4787326403894837248 == some .eq)) = true := by
                rw [hord]
                simp only [compare, compareOfLessAndEq, hl, if_false]
                split <;> decide
              clear hord hlow hfin
              go_wp2_with (first | (go_at_call 11; refine (unhide hld _).mono ?_; intro r w9 h9; obtain ⟨rfl, hw9⟩ := h9; obtain rfl := hw9.symm))
              exact ⟨⟨trivial, S - 1, by go_num, by omega, fun _ => unhide hge⟩, by simp [intOf]; omega⟩
          · obtain rfl : S = 0 := by omega
            have hl : Wd (peakTo c m) (((0 : Nat) : Int) - e) < 4787326403894837248 := hlow.2 (by
              rcases unhide hpl with h0 | h0
              · exact Or.inl h0
              · exact Or.inr (by omega))
            clear hord hlow hfin
            go_wp2_with (first | (go_at_call 11; refine (unhide hld _).mono ?_; intro r w9 h9; obtain ⟨rfl, hw9⟩ := h9; obtain rfl := hw9.symm))
            go_meet
            exact ⟨rfl, 0, rfl, hS, hSe, hl⟩
      case rest =>
        obtain ⟨rfl, S, rfl, hS, hSe, hl⟩ := hcut
        have hfin := Wd_fin (c := peakTo c m) (e := (S : Int) - e) hP.1 (by omega) (by omega) (by omega)
        have hord : FloatKind.f64.format.order (Wd (peakTo c m) ((S : Int) - e)) 4787326403894837248 = some .lt := by
          show Ieee.double.order _ _ = _
          rw [order_pos hfin (by omega)]
          simp [compare, compareOfLessAndEq, hl]
        have hld := hide (fun W => ldexp_Wd (c := peakTo c m) (e := -(e : Int)) (k := (S : Int)) (by omega) (by omega) (by omega) (by omega) (by omega) W)
        rw [show -(e : Int) + S = (S : Int) - e by omega] at hld
        have hl' := hide hl
        clear hl hfin hS1 hS2 Hz1
        have hz28 := zero28
        have hth : Hid (wc.there pb 0 (lit18 m S).size) := there18 (unhide HF)
        go_wp2_with (first | (go_at_call 11; refine (unhide hld _).mono ?_; intro r w9 h9; obtain ⟨rfl, hw9⟩ := h9; obtain rfl := hw9.symm) | (refine wpList_store_mid rfl 28 _ _ rfl pb 0 _ rfl rfl ?hth ?hi ?ha ?_))
        case hth => exact unhide hth
        case hi => exact info28
        case ha => exact lit_all m S
        have hPr : Hid (Pr (wc.setCells pb 0 (lit18 m S).toList) pb (fun _ => 0) m S) := by rw [lit_arr]; exact Full.put18 (unhide HF)
        have hG2 : Hid (Full (wc.setCells pb 0 (lit18 m S).toList) g m (fun k => .float .f64 (Wd (c k) (-e)))) := Full.put_other (unhide HG) hne _
        have hgr : Hid (w.grownBy (wc.setCells pb 0 (lit18 m S).toList) (some pb)) := grown_put (unhide Hw1) _
        clear hth hz28 hld hord HF
        go_loopw [11, 65] (fun ev i wx => ∃ (k : Nat) (b : Bool), k ≤ m ∧ i = .int .i64 k ∧ ev = .bool b ∧ (b = true ↔ ∀ j, j < k → scaled c S e j % 2 = 0) ∧ w.grownBy wx (some pb) ∧ Pr wx pb (fun j => if j < k then scaled c S e j else 0) m S ∧ Full wx g m (fun k => .float .f64 (Wd (c k) (-e)))) (fun _ i _ => m - (intOf i).toNat)
        case atStart => exact ⟨0, true, Nat.zero_le _, rfl, rfl, ⟨fun _ j hj => by omega, fun _ => rfl⟩, unhide hgr, (unhide hPr).congr (fun j _ => by simp [prOf]), unhide hG2⟩
        case round =>
          rename World => wx
          obtain ⟨k, b, hk, rfl, rfl, hb, hgx, hpx, hfx⟩ := hrel
          clear hPr hG2 hgr
          by_cases hlt : k < m
          · have hix := fun W => idx (P := Ybad.prog) Ybad.underlying23 size33 (a := some ⟨g, 0, none⟩) (b := g) (off := 0) (n := m) (cap := m) (fun _ => rfl) hlt W
            simp only [Nat.mul_one, Nat.zero_add] at hix
            have hv := (hfx k hlt).1
            have hsmall := scaled_small hlt (unhide hSe (by omega)) hP.1 hP.2 (unhide hl') (by omega) he
            have hld := hide (fun W => ldexp_Wd (c := c k) (e := -(e : Int)) (k := (S : Int)) (by have := unhide Hcb k hlt; omega) (by omega) (by omega) (by omega) (by omega) W)
            rw [show -(e : Int) + S = 0 + ((S - e : Nat) : Int) by have := unhide hSe (by omega); omega, ← Wd_shift (S - e) (by rw [← natAbs_mul_pow]; exact Nat.lt_trans hsmall (by decide))] at hld
            have hrd := hide (fun W => round_Wd (c := c k * 2 ^ (S - e)) (Nat.lt_trans hsmall (by decide)) W)
            have hcv := fun W => run_convert_float_int (P := Ybad.prog) W 33 2 .f64 .i64 _ _ (by simp [Ybad.underlying33]) Ybad.underlying2 (toInt_Wd (c := c k * 2 ^ (S - e)) (Nat.lt_trans hsmall (by decide)))
            have hak := hpx k (by omega)
            simp only [prOf, show k < 16 by omega, if_true, Nat.lt_irrefl, if_false] at hak
            have hset : Hid (Pr (wx.setCell ⟨pb, k, none⟩ (.int .i64 (c k * 2 ^ (S - e)))) pb (fun j => if j < k + 1 then scaled c S e j else 0) m S) := (hpx.setA (show k < 16 by omega) (c k * 2 ^ (S - e))).congr (fun j _ => by
              unfold prOf
              by_cases ej : j = k
              · subst ej; simp [scaled]
              · by_cases hjk : j < k
                · simp [ej, hjk, show j < k + 1 by omega]
                · simp [ej, hjk, show ¬ j < k + 1 by omega])
            have hgx' := hide (grown_cell hgx k (.int .i64 (c k * 2 ^ (S - e))))
            have hfx' : Hid (Full (wx.setCell ⟨pb, k, none⟩ (.int .i64 (c k * 2 ^ (S - e)))) g m (fun k => .float .f64 (Wd (c k) (-e)))) := fun j hj => by
              rw [World.cell?_setCell_other _ _ _ _ (fun x => hne (by cases x; rfl)), World.frozen?_setCell]
              exact hfx j hj
            have hsk : scaled c S e k = c k * 2 ^ (S - e) := rfl
            clear hpx hgx hfx
            generalize c k * 2 ^ (S - e) = a at *
            go_upto_region 18 with fail
            go_cut [] from 70 to 79 (fun wy => wy = (wx.setCell ⟨pb, k, none⟩ (.int .i64 a)).drew)
            case first =>
              go_region_with (first | (go_at_call 11; refine (unhide hld _).mono ?_; intro r w9 h9; obtain ⟨rfl, hw9⟩ := h9; obtain rfl := hw9.symm) | (go_at_call 19; refine (unhide hrd _).mono ?_; intro r w9 h9; obtain ⟨rfl, hw9⟩ := h9; obtain rfl := hw9.symm))
              all_goals go_wp2_with fail
              all_goals go_meet
              all_goals exact rfl
            case rest =>
              obtain rfl := hcut
              have hcell : (wx.setCell ⟨pb, k, none⟩ (.int .i64 a)).cell? ⟨pb, k, none⟩ = some (.int .i64 a) := World.cell?_setCell_same _ _ _ hak.1
              have Hb := hide hb
              clear hb
              cases b with
              | true =>
                go_wp2
                refine ⟨⟨k + 1, a.tmod 2 == 0, by omega, by go_num, rfl, ?_, grownBy.drew' (unhide hgx'), unhide hset, unhide hfx'⟩, by simp [intOf]; omega⟩
                have := (unhide Hb).1 rfl
                rw [beq_iff_eq]
                constructor
                · intro h0 j hj
                  by_cases ej : j = k
                  · rw [ej, hsk]; have := Int.dvd_of_tmod_eq_zero h0; omega
                  · exact this j (by omega)
                · intro h0
                  have := h0 k (by omega)
                  rw [hsk] at this
                  exact Int.tmod_eq_zero_of_dvd (by omega)
              | false =>
                go_wp2
                refine ⟨⟨k + 1, false, by omega, by go_num, rfl, ?_, grownBy.drew' (unhide hgx'), unhide hset, unhide hfx'⟩, by simp [intOf]; omega⟩
                constructor
                · intro h0; cases h0
                · intro h0
                  exact (unhide Hb).2 (fun j hj => h0 j (by omega))
          · obtain rfl : m = k := by omega
            have HP : Hid (Pr wx pb (coef c S e m) m S) := hpx
            have Hb : Hid (b = true ↔ ∀ j, j < m → coef c S e m j % 2 = 0) := by
              refine hb.trans ⟨fun h0 j hj => ?_, fun h0 j hj => ?_⟩
              · have := h0 j hj; simpa [coef, hj] using this
              · have := h0 j hj; simpa [coef, hj] using this
            have Hgx := hide hgx
            have Hcf : Hid (∀ j, (coef c S e m j).natAbs < 1099511627776) := fun j => by
              unfold coef
              by_cases hj : j < m
              · rw [if_pos hj]; exact scaled_small hj (unhide hSe (by omega)) hP.1 hP.2 (unhide hl') (by omega) he
              · rw [if_neg hj]; decide
            clear hpx hb hgx hfx HG Hw1 hk hlt
            go_upto_block 6 with fail
            go_cut [11, 14] from 92 to 135 (fun _ _ wy => ∃ (t : Nat) (A : Nat → Int), t ≤ S ∧ (∀ j, A j * 2 ^ t = coef c S e m j) ∧ (S - t = 0 ∨ ¬ ∀ j, j < m → A j % 2 = 0) ∧ w.grownBy wy (some pb) ∧ Pr wy pb A m ((S - t : Nat) : Int))
            case first =>
              go_wp2_with fail
              go_loopw [11] (fun ev wy => ∃ (t : Nat) (A : Nat → Int) (b : Bool), t ≤ S ∧ ev = .bool b ∧ (b = true ↔ ∀ j, j < m → A j % 2 = 0) ∧ (∀ j, A j * 2 ^ t = coef c S e m j) ∧ w.grownBy wy (some pb) ∧ Pr wy pb A m ((S - t : Nat) : Int)) (fun _ wy => shiftIn wy pb)
              case atStart => exact ⟨0, _, b, Nat.zero_le _, rfl, unhide Hb, fun j => by simp, unhide Hgx, unhide HP⟩
              case round =>
                rename World => wy
                obtain ⟨t, A, b, ht, rfl, hb, hA, hgy, hpy⟩ := hrel
                clear Hb HP Hgx
                have h17 := hpy 17 (by omega)
                simp only [prOf, show ¬ (17 : Nat) < 16 by omega, show ¬ (17 : Nat) = 16 by omega, if_false] at h17
                have hsh : shiftIn wy pb = S - t := by simp [shiftIn, h17.1]
                have HA := hide hA
                have Hb := hide hb
                clear hA hb
                cases b with
                | false =>
                  go_wp2_with fail
                  go_meet
                  exact ⟨t, A, ht, unhide HA, Or.inr (fun h0 => by have := (unhide Hb).2 h0; cases this), hgy, hpy⟩
                | true =>
                  by_cases hz : t < S
                  · have hpos : (0 : Int) < ((S - t : Nat) : Int) := by omega
                    have h16 := hpy 16 (by omega)
                    simp only [prOf, show ¬ (16 : Nat) < 16 by omega, if_true, if_false] at h16
                    have hev := (unhide Hb).1 rfl
                    have Hev := hide hev
                    have Hgy := hide hgy
                    have Hpy := hide hpy
                    clear hgy hpy hev
                    go_wp2_with fail
                    go_loopw [11, 111] (fun ev i wz => ∃ (k : Nat) (b : Bool), k ≤ m ∧ i = .int .i64 k ∧ ev = .bool b ∧ (b = true ↔ ∀ j, j < k → A j / 2 % 2 = 0) ∧ w.grownBy wz (some pb) ∧ Pr wz pb (fun j => if j < k then A j / 2 else A j) m ((S - t : Nat) : Int)) (fun _ i _ => m - (intOf i).toNat)
                    case atStart => exact ⟨0, true, Nat.zero_le _, rfl, rfl, ⟨fun _ j hj => by omega, fun _ => rfl⟩, unhide Hgy, (unhide Hpy).congr (fun j _ => by simp [prOf])⟩
                    case round =>
                      rename World => wz
                      obtain ⟨k, b, hk, rfl, rfl, hb, hgz, hpz⟩ := hrel
                      by_cases hlt : k < m
                      · have hak := hpz k (by omega)
                        simp only [prOf, show k < 16 by omega, if_true, Nat.lt_irrefl, if_false] at hak
                        have hk16 : (k : Int) < 16 := by omega
                        have h2 := unhide Hev k hlt
                        have hdv : (A k).tdiv 2 = A k / 2 := Int.tdiv_eq_ediv_of_dvd (by omega)
                        have hwr : wrap64 (A k / 2) = A k / 2 := by
                          have h3 := pow_le (unhide HA k)
                          have h4 := unhide Hcf k
                          unfold wrap64
                          omega
                        have Hb2 := hide hb
                        have hset : Hid (Pr (wz.setCell ⟨pb, k, none⟩ (.int .i64 (A k / 2))) pb (fun j => if j < k + 1 then A j / 2 else A j) m ((S - t : Nat) : Int)) := (hpz.setA (show k < 16 by omega) (A k / 2)).congr (fun j _ => by
                          unfold prOf
                          by_cases ej : j = k
                          · subst ej; simp
                          · by_cases hjk : j < k
                            · simp [ej, hjk, show j < k + 1 by omega]
                            · simp [ej, hjk, show ¬ j < k + 1 by omega])
                        have hgz' := hide (grown_cell hgz k (.int .i64 (A k / 2)))
                        clear hb hgz hpz
                        go_upto_region 26 with fail
                        go_cut [] from 114 to 123 (fun wq => wq = (wz.setCell ⟨pb, k, none⟩ (.int .i64 (A k / 2))).drew)
                        case first =>
                          go_region
                          all_goals go_wp2_with fail
                          all_goals go_meet
                          all_goals exact rfl
                        case rest =>
                          obtain rfl := hcut
                          have hcell : (wz.setCell ⟨pb, k, none⟩ (.int .i64 (A k / 2))).cell? ⟨pb, k, none⟩ = some (.int .i64 (A k / 2)) := World.cell?_setCell_same _ _ _ hak.1
                          clear hak hdv hwr h2
                          generalize hq : A k / 2 = q at *
                          cases b with
                          | true =>
                            go_wp2_with fail
                            refine ⟨⟨k + 1, q.tmod 2 == 0, by omega, by go_num, rfl, ?_, grownBy.drew' (unhide hgz'), unhide hset⟩, by simp [intOf]; omega⟩
                            have := (unhide Hb2).1 rfl
                            rw [beq_iff_eq]
                            constructor
                            · intro h0 j hj
                              by_cases ej : j = k
                              · rw [ej, hq]; have := Int.dvd_of_tmod_eq_zero h0; omega
                              · exact this j (by omega)
                            · intro h0
                              have := h0 k (by omega)
                              rw [hq] at this
                              exact Int.tmod_eq_zero_of_dvd (by omega)
                          | false =>
                            go_wp2_with fail
                            refine ⟨⟨k + 1, false, by omega, by go_num, rfl, ?_, grownBy.drew' (unhide hgz'), unhide hset⟩, by simp [intOf]; omega⟩
                            constructor
                            · intro h0; cases h0
                            · intro h0
                              exact (unhide Hb2).2 (fun j hj => h0 j (by omega))
                      · obtain rfl : m = k := by omega
                        have hs17 := hpz 17 (by omega)
                        simp only [prOf, show ¬ (17 : Nat) < 16 by omega, show ¬ (17 : Nat) = 16 by omega, if_false] at hs17
                        have hpz' := hide (hpz.setS ((S - t - 1 : Nat) : Int))
                        have hgz' := hide (grown_cell hgz 17 (.int .u64 ((S - t - 1 : Nat) : Int)))
                        have Hb2 := hide hb
                        have hsub : (((S - t : Nat) : Int)) - 1 = ((S - t - 1 : Nat) : Int) := by omega
                        clear hb hgz hpz
                        go_wp2_with fail
                        have hall : ∀ j, A j % 2 = 0 ∧ (m ≤ j → A j = 0) := fun j => by
                          by_cases hj : j < m
                          · exact ⟨unhide Hev j hj, fun h => by omega⟩
                          · have h0 := unhide HA j
                            rw [coef, if_neg hj] at h0
                            have h1 : A j = 0 := pow_zero_of h0
                            exact ⟨by rw [h1]; rfl, fun _ => h1⟩
                        refine ⟨⟨t + 1, fun j => A j / 2, b, by omega, rfl, unhide Hb2, fun j => ?_, unhide hgz', ?_⟩, ?_⟩
                        · show A j / 2 * 2 ^ (t + 1) = _
                          rw [← unhide HA j, Int.pow_succ, Int.mul_comm (2 ^ t) 2, ← Int.mul_assoc]
                          have h2 : A j / 2 * 2 = A j := by have := (hall j).1; omega
                          rw [h2]
                        · rw [show S - (t + 1) = S - t - 1 by omega]
                          exact (unhide hpz').congr (fun j _ => by
                            unfold prOf
                            by_cases hj : j < m
                            · simp [hj]
                            · simp [hj, (hall j).2 (by omega)])
                        · rw [hsh, shiftIn, World.cell?_setCell_same _ _ _ hs17.1]
                          simp only [Int.toNat_natCast]
                          omega
                  · have hz0 : S - t = 0 := by omega
                    rw [hz0] at h17
                    go_wp2_with fail
                    go_meet
                    exact ⟨t, A, ht, unhide HA, Or.inl hz0, hgy, hpy⟩
            case rest =>
              obtain ⟨t', A, ht, hA, hend, hgy, hpy⟩ := hcut
              have HA := hide hA
              have Hend := hide hend
              have Hcf' := hide Hcf
              clear hA hend Hb HP Hgx
              go_wp2_with fail
              go_loopw [] (fun wz => ∃ p : Nat, p ≤ m ∧ (∀ j, p ≤ j → j < 16 → A j = 0) ∧ w.grownBy wz (some pb) ∧ Pr wz pb A p ((S - t' : Nat) : Int)) (fun wz => orderIn wz pb)
              case atStart => exact ⟨m, Nat.le_refl _, fun j h1 h2 => by
                have h0 := unhide HA j
                rw [coef, if_neg (by omega)] at h0
                exact pow_zero_of h0, hgy, hpy⟩
              case round =>
                rename World => wz
                obtain ⟨p, hp, hzero, hgz, hpz⟩ := hrel
                clear hgy hpy
                have Hzero := hide hzero
                have h16 := hpz 16 (by omega)
                simp only [prOf, show ¬ (16 : Nat) < 16 by omega, if_true, if_false] at h16
                have hop : orderIn wz pb = p := by simp [orderIn, h16.1]
                clear hzero
                by_cases hp0 : 0 < p
                · have hq := hpz (p - 1) (by omega)
                  simp only [prOf, show p - 1 < 16 by omega, if_true] at hq
                  have hpi : (p : Int) - 1 = ((p - 1 : Nat) : Int) := by omega
                  have hq16 : ((p - 1 : Nat) : Int) < 16 := by omega
                  have hpd : decide ((0 : Int) < p) = true := by simp; omega
                  by_cases ha : A (p - 1) = 0
                  · rw [ha] at hq
                    go_wp2_with fail
                    go_quiet (fail)
                    go_wp2_with fail
                    refine ⟨⟨p - 1, by omega, fun j h1 h2 => ?_, grown_cell (grownBy.drewN' hgz nq) 16 _, Pr.setP (w := wz.drewN nq) hpz _⟩, ?_⟩
                    · by_cases ej : j = p - 1
                      · rw [ej]; exact ha
                      · exact unhide Hzero j (by omega) h2
                    · rw [hop, orderIn, World.cell?_setCell_same (wz.drewN nq) ⟨pb, 16, none⟩ _ h16.1]
                      simp only [Int.toNat_natCast]
                      omega
                  · have hab : (A (p - 1) == 0) = false := by simp [ha]
                    go_wp2_with fail
                    go_quiet (fail)
                    go_wp2_with fail
                    go_ret
                    refine ⟨A, p, S - t', grownBy.drewN' hgz nq, hpz, by omega, hp, fun j hj => quant_eq (unhide HA j) ht (fun h => unhide hSe h), unhide Hzero, fun _ => ha, fun _ => ?_, by rw [if_neg (by omega)]; rfl⟩
                    rcases unhide Hend with h | h
                    · exact Or.inl h
                    · by_cases hex : ∃ j, j < 16 ∧ A j % 2 ≠ 0
                      · exact Or.inr hex
                      · exact absurd (fun j hj => by
                          by_cases h2 : A j % 2 = 0
                          · exact h2
                          · exact absurd ⟨j, by omega, h2⟩ hex) h
                · obtain rfl : p = 0 := by omega
                  have hglob : wz.cell? ⟨0, 0, none⟩ = some ev := hgz.cell (unhide HE) (by simpa using Ne.symm hpb0)
                  go_wp2_with fail
                  go_quiet (fail)
                  go_wp2_with fail
                  go_ret
                  exact ⟨A, 0, S - t', grownBy.drewN' hgz nq, hpz, by omega, by omega, fun j hj => quant_eq (unhide HA j) ht (fun h => unhide hSe h), unhide Hzero, fun h => by omega, fun h => by omega, rfl⟩
end Go.Proofs.YbulkdbluDoor
