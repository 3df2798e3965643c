/-
  Small words for the walks over this seat: a slice of bytes in the call's own memory ('Own'), one law for append out of its run, the two uvarint writers by one contract each.
-/
import Derived.Test.YbulkdbomProg
import Derived.WalkKit
import Derived.WalkSpells
import Derived.WalkLawsBesides
import Derived.Deep.AppendSrc
import Derived.Lib.AppendStr
import Derived.Deep.QuietTactic
import Derived.BigQuiet
namespace Go.Proofs.Ybulkdbom
open Go.RowKit

theorem hide {p : Prop} (h : p) : Hid p := h
theorem unhide {p : Prop} (h : Hid p) : p := h

def cellsOf (zs : List Int) : List Value := zs.map (Value.int .u8)

/-- v is a slice of the call's own (blocks from B on) that holds the bytes zs. -/
def Own (w : World) (B : Nat) (v : Value) (zs : List Int) : Prop := w.ownsRow B 5 1 v zs.length (cellsOf zs)

/-- append, out of its own run. -/
theorem wpList_append_run {P : Program} {w : World} {ops : Array Oper} {rest : List Oper} {o : Oper} {a : Act} {Q : Exit → Act → World → Prop} (hgd : o.guard = none) (s x : Operand) (t tx : TypeId)
    (ho : o.op = .call { callee := .builtin .append, args := #[s, x], argTypes := #[t, tx] }) (v xv : Value) (hs : a.eval s = v) (hx : a.eval x = xv) (v' : Value) (w' : World)
    (hrun : ∀ ty, (Builtin.append_ #[t, tx] ty #[v, xv]).run P w = .ok v' w') (h : wpList P ops Q rest (a.put o.dst v') w') : wpList P ops Q (o :: rest) a w := by
  refine wpList_plain hgd fun K' hK' => ?_
  unfold Oper.wp
  simp [execOp, ho, resolve, invoke, builtin, hs, hx, hrun, Result.andThen]
  exact hK' _ _ h

theorem info5 : (Yba.prog.info? 5).map (fun i => (i.zero, i.size, i.bytes)) = some (some (.int .u8 0), 1, 1) := by kernel_rfl

theorem one_cell (zs : List Int) : ∀ u ∈ cellsOf zs, u.oneCell' = true := ints_oneCell .u8 zs

/-- Bytes appended onto an own slice, from cells somewhere. -/
theorem Own.append {w : World} {B : Nat} {v : Value} {zs : List Int} (h : Own w B v zs) (hB : B ≤ w.heap.size) (ad : Addr) (c : Nat) (news : List Int) (hnews : ∀ j u, (cellsOf news)[j]? = some u → w.cell? (ad.add j) = some u) (hl : zs.length + news.length ≤ 1000000) :
    ∃ v' w', (∀ ty, (Builtin.append_ #[22, 22] ty #[v, .slice (some ad) news.length c]).run Yba.prog w = .ok v' w') ∧ Own w' B v' (zs ++ news) ∧ w.grownBy w' v.ownBlock := by
  obtain ⟨i0, hi, hz0, hz1, hz2⟩ := info_parts info5
  have h0 := fun ty => run_append_own (P := Yba.prog) w B 22 ty 5 i0 (.int .u8 0) 1 1 Yba.underlying22 hi hz0 hz1 hz2 rfl (by decide) v zs.length (cellsOf zs) h ad news.length c (cellsOf news) (by simp [cellsOf]) hnews (one_cell news) (by unfold maxLen; omega) (by omega) hB
  obtain ⟨v', w', r1, r2, r3, _⟩ := h0 0
  refine ⟨v', w', fun ty => ?_, ?_, r3⟩
  · exact r1
  · unfold Own
    simpa [cellsOf] using r2

/-- A string's bytes, as numbers. -/
def strInts (s : ByteArray) : List Int := s.data.toList.map fun b => (b.toNat : Int)

theorem Own.appendStr {w : World} {B : Nat} {v : Value} {zs : List Int} (h : Own w B v zs) (hB : B ≤ w.heap.size) (s : ByteArray) (hl : zs.length + s.size ≤ 1000000) :
    ∃ v' w', (∀ ty, (Builtin.append_ #[22, 9] ty #[v, .string s]).run Yba.prog w = .ok v' w') ∧ Own w' B v' (zs ++ strInts s) ∧ w.grownBy w' v.ownBlock := by
  obtain ⟨i0, hi, hz0, hz1, hz2⟩ := info_parts info5
  obtain ⟨v', w', r1, r2, r3, _⟩ := Lib.run_append_own_string (P := Yba.prog) w B 22 9 0 5 i0 Yba.underlying22 Yba.underlying9 hi hz0 hz1 hz2 v zs.length (cellsOf zs) h s (by unfold maxLen; omega) (by omega) hB
  refine ⟨v', w', fun ty => r1, ?_, r3⟩
  unfold Own
  have e1 : (zs ++ strInts s).length = zs.length + s.size := by simp [strInts]
  have e2 : cellsOf (zs ++ strInts s) = cellsOf zs ++ Lib.strCells s := by simp [cellsOf, strInts, Lib.strCells]
  rw [e1, e2]
  exact r2

theorem Own.lt {w : World} {B : Nat} {v : Value} {zs : List Int} (h : Own w B v zs) : ∀ k, v.ownBlock = some k → B ≤ k ∧ k < w.heap.size := World.ownsRow.lt h
theorem Own.alloc {w : World} {B : Nat} {v : Value} {zs : List Int} (h : Own w B v zs) (o : Obj) : Own (w.alloc o) B v zs := World.ownsRow.alloc h o
theorem Own.below {w w0 w' : World} {B B0 : Nat} {v : Value} {zs : List Int} (h : Own w B v zs) (hb : Below B0 w0 w) (hg : w.grownBy w' v.ownBlock) (hB : B0 ≤ B) (hs : B0 ≤ w.heap.size) : Below B0 w0 w' :=
  hb.grown hg hs (fun k hk => Nat.le_trans hB (h.lt k hk).1)

/-- One byte appended, out of the one-cell block that the translation lays for it. -/
theorem Own.push {w : World} {B : Nat} {v : Value} {zs : List Int} (h : Own w B v zs) (hB : B ≤ w.heap.size) (c : Int) (hl : zs.length ≤ 900000) :
    ∃ v' w', (∀ ty, (Builtin.append_ #[22, 22] ty #[v, .slice (some ⟨w.heap.size, 0, none⟩) 1 1]).run Yba.prog (w.alloc (.cells #[.int .u8 c] 5)) = .ok v' w') ∧ Own w' B v' (zs ++ [c]) ∧ (w.alloc (.cells #[.int .u8 c] 5)).grownBy w' v.ownBlock := by
  obtain ⟨v', w', r1, r2, r3⟩ := (h.alloc (.cells #[.int .u8 c] 5)).append (by simp; omega) ⟨w.heap.size, 0, none⟩ 1 [c] (by
    intro j u hj
    exact cell_one_new w (.int .u8 c) 5 j u hj) (by simp; omega)
  exact ⟨v', w', r1, r2, r3⟩

/-- What the uvarint writers lay for x, in the walk's own forms; f: fuel. -/
def uvF : Nat → Int → List Int
  | 0, x => [x]
  | f + 1, x => if 128 ≤ x then bits BinOp.or IntKind.u8 (x % 256) 128 :: uvF f (x / 128) else [x]

theorem uvF_len : ∀ (f : Nat) (x : Int), (uvF f x).length ≤ f + 1
  | 0, x => by simp [uvF]
  | f + 1, x => by
    unfold uvF
    split
    · have := uvF_len f (x / 128)
      simp
      omega
    · simp

set_option maxRecDepth 100000 in
set_option maxHeartbeats 400000 in
theorem uv_any (v : Value) (zs : List Int) (x : Int) (B : Nat) (w : World) (hx0 : 0 ≤ x) (hx1 : x ≤ 18446744073709551615) (h : Own w B v zs) (hB : B ≤ w.heap.size) (hl : zs.length ≤ 100000) :
    Calls Yba.prog 7 #[v, .int .u64 x] w fun e w' => ∃ v', e = .returned v' ∧ Own w' B v' (zs ++ uvF 10 x) ∧ Below B w w' := by
  go_enter Yba.func7, Yba.ntmps7
  go_wp2
  go_loopw [0, 1] (fun v' x' wr => ∃ (y : Int) (f : Nat) (zs' : List Int), 0 ≤ y ∧ y < 128 ^ f ∧ y ≤ x ∧ x' = .int .u64 y ∧ Own wr B v' zs' ∧ Hid (zs' ++ uvF f y = zs ++ uvF 10 x) ∧ Below B w wr) (fun _ x' _ => (intOf x').toNat)
  case atStart => exact ⟨x, 10, zs, hx0, by omega, by omega, rfl, h, rfl, Below.refl _ _⟩
  case round =>
    obtain ⟨y, f, zs', hy0, hyf, hy1, rfl, hown, heq, hbel⟩ := hrel
    have hBr : B ≤ wr.heap.size := Nat.le_trans hB hbel.size
    have hzl : zs'.length ≤ 900000 := by
      have := congrArg List.length (unhide heq)
      have := uvF_len 10 x
      simp at *
      omega
    by_cases hc : 128 ≤ y
    · obtain ⟨v2, w2, hrun, hown2, hg2⟩ := hown.push hBr (bits BinOp.or IntKind.u8 (y % 256) 128) hzl
      have Hrun := hide hrun
      have Hf := hide hyf
      clear hrun hyf
      go_wp2_with (at_builtin; refine wpList_append_run rfl _ _ 22 22 rfl _ _ rfl rfl v2 w2 (unhide Hrun) ?_)
      have hb2 : Below B w w2 := (hown.alloc (.cells #[.int .u8 (bits BinOp.or IntKind.u8 (y % 256) 128)] 5)).below (hbel.alloc hBr _) hg2 (Nat.le_refl _) (by simp; omega)
      obtain ⟨f', rfl⟩ : ∃ f', f = f' + 1 := by
        cases f with
        | zero => have := unhide Hf; simp at this; omega
        | succ f' => exact ⟨f', rfl⟩
      refine ⟨⟨y / 128, f', _, by omega, ?_, by omega, rfl, hown2, ?_, hb2⟩, by simp [intOf]; omega⟩
      · have := unhide Hf
        rw [Int.pow_succ] at this
        exact Int.ediv_lt_of_lt_mul (by decide) this
      · have e := unhide heq
        rw [uvF, if_pos hc] at e
        show (zs' ++ [bits BinOp.or IntKind.u8 (y % 256) 128]) ++ uvF f' (y / 128) = _
        rw [← e]
        simp
    · obtain ⟨v2, w2, hrun, hown2, hg2⟩ := hown.push hBr y hzl
      have Hrun := hide hrun
      have Hf := hide hyf
      clear hrun hyf
      go_wp2_with (at_builtin; refine wpList_append_run rfl _ _ 22 22 rfl _ _ rfl rfl v2 w2 (unhide Hrun) ?_)
      have hb2 : Below B w w2 := (hown.alloc (.cells #[.int .u8 y] 5)).below (hbel.alloc hBr _) hg2 (Nat.le_refl _) (by simp; omega)
      go_ret
      refine ⟨v2, rfl, ?_, hb2⟩
      have e := unhide heq
      have e2 : uvF f y = [y] := by
        cases f with
        | zero => rfl
        | succ f' => rw [uvF, if_neg (by omega)]
      rw [e2] at e
      rw [← e]
      exact hown2

set_option maxRecDepth 100000 in
set_option maxHeartbeats 400000 in
theorem uv5_any (v : Value) (zs : List Int) (x : Int) (B : Nat) (w : World) (hx0 : 0 ≤ x) (hx1 : x ≤ 18446744073709551615) (h : Own w B v zs) (hB : B ≤ w.heap.size) (hl : zs.length ≤ 100000) :
    Calls Yba.prog 5 #[v, .int .u64 x] w fun e w' => ∃ v', e = .returned v' ∧ Own w' B v' (zs ++ uvF 10 x) ∧ Below B w w' := by
  go_enter Yba.func5, Yba.ntmps5
  go_wp2
  go_loopw [0, 1] (fun v' x' wr => ∃ (y : Int) (f : Nat) (zs' : List Int), 0 ≤ y ∧ y < 128 ^ f ∧ y ≤ x ∧ x' = .int .u64 y ∧ Own wr B v' zs' ∧ Hid (zs' ++ uvF f y = zs ++ uvF 10 x) ∧ Below B w wr) (fun _ x' _ => (intOf x').toNat)
  case atStart => exact ⟨x, 10, zs, hx0, by omega, by omega, rfl, h, rfl, Below.refl _ _⟩
  case round =>
    obtain ⟨y, f, zs', hy0, hyf, hy1, rfl, hown, heq, hbel⟩ := hrel
    have hBr : B ≤ wr.heap.size := Nat.le_trans hB hbel.size
    have hzl : zs'.length ≤ 900000 := by
      have := congrArg List.length (unhide heq)
      have := uvF_len 10 x
      simp at *
      omega
    by_cases hc : 128 ≤ y
    · obtain ⟨v2, w2, hrun, hown2, hg2⟩ := hown.push hBr (bits BinOp.or IntKind.u8 (y % 256) 128) hzl
      have Hrun := hide hrun
      have Hf := hide hyf
      clear hrun hyf
      go_wp2_with (at_builtin; refine wpList_append_run rfl _ _ 22 22 rfl _ _ rfl rfl v2 w2 (unhide Hrun) ?_)
      have hb2 : Below B w w2 := (hown.alloc (.cells #[.int .u8 (bits BinOp.or IntKind.u8 (y % 256) 128)] 5)).below (hbel.alloc hBr _) hg2 (Nat.le_refl _) (by simp; omega)
      obtain ⟨f', rfl⟩ : ∃ f', f = f' + 1 := by
        cases f with
        | zero => have := unhide Hf; simp at this; omega
        | succ f' => exact ⟨f', rfl⟩
      refine ⟨⟨y / 128, f', _, by omega, ?_, by omega, rfl, hown2, ?_, hb2⟩, by simp [intOf]; omega⟩
      · have := unhide Hf
        rw [Int.pow_succ] at this
        exact Int.ediv_lt_of_lt_mul (by decide) this
      · have e := unhide heq
        rw [uvF, if_pos hc] at e
        show (zs' ++ [bits BinOp.or IntKind.u8 (y % 256) 128]) ++ uvF f' (y / 128) = _
        rw [← e]
        simp
    · obtain ⟨v2, w2, hrun, hown2, hg2⟩ := hown.push hBr y hzl
      have Hrun := hide hrun
      have Hf := hide hyf
      clear hrun hyf
      go_wp2_with (at_builtin; refine wpList_append_run rfl _ _ 22 22 rfl _ _ rfl rfl v2 w2 (unhide Hrun) ?_)
      have hb2 : Below B w w2 := (hown.alloc (.cells #[.int .u8 y] 5)).below (hbel.alloc hBr _) hg2 (Nat.le_refl _) (by simp; omega)
      go_ret
      refine ⟨v2, rfl, ?_, hb2⟩
      have e := unhide heq
      have e2 : uvF f y = [y] := by
        cases f with
        | zero => rfl
        | succ f' => rw [uvF, if_neg (by omega)]
      rw [e2] at e
      rw [← e]
      exact hown2

theorem idx {P : Program} {t e : TypeId} (ht : P.underlying t = some (.slice e)) {c : Nat} (hc : ∀ W, (sizeOf e).run P W = .ok c W) {a : Option Addr} {n cap b off : Nat} (ha : 0 < n → a = some ⟨b, off, none⟩) {k : Nat} (hk : k < n) (W : World) :
    (Instr.indexAt t (.slice a n cap) (.int .i64 k)).run P W = .ok (.pointer (some ⟨b, off + k * c, none⟩)) W := by
  have e1 := ha (by omega)
  subst e1
  have ht' : P.underlying t = some (.slice (P.elem t)) := by simp [Program.elem, ht]
  have he : P.elem t = e := by simp [Program.elem, ht]
  rw [run_indexAt_slice _ _ _ _ _ _ _ ht', he, if_pos ⟨by omega, by omega⟩, hc]
  simp [WideShapes.add_plain]

theorem size5 (W : World) : (sizeOf 5).run Yba.prog W = .ok 1 W := by kernel_rfl

set_option maxHeartbeats 400000 in
theorem same_any (a1 a2 : Option Addr) (n cap1 cap2 b1 off1 b2 off2 : Nat) (z : Nat → Int) (w : World) (hn : n ≤ 1000000) (h1 : 0 < n → a1 = some ⟨b1, off1, none⟩) (h2 : 0 < n → a2 = some ⟨b2, off2, none⟩)
    (c1 : ∀ i, i < n → w.cell? ⟨b1, off1 + i, none⟩ = some (.int .u8 (z i))) (c2 : ∀ i, i < n → w.cell? ⟨b2, off2 + i, none⟩ = some (.int .u8 (z i))) :
    Calls Yba.prog 6 #[.slice a1 n cap1, .slice a2 n cap2] w fun e w' => e = .returned (.bool true) ∧ ∃ q, w' = w.drewN q := by
  go_enter Yba.func6, Yba.ntmps6
  go_wp2
  go_loopw [5] (fun i wr => ∃ (k q : Nat), k ≤ n ∧ i = .int .i64 k ∧ wr = w.drewN q) (fun i _ => n - (intOf i).toNat)
  case atStart => exact ⟨0, 0, Nat.zero_le _, rfl, rfl⟩
  case round =>
    obtain ⟨k, q, hk, rfl, rfl⟩ := hrel
    by_cases hlt : k < n
    · have i1 := fun W => idx (P := Yba.prog) Yba.underlying22 size5 (cap := cap1) h1 hlt W
      have i2 := fun W => idx (P := Yba.prog) Yba.underlying22 size5 (cap := cap2) h2 hlt W
      have d1 := c1 k hlt
      have d2 := c2 k hlt
      have hk2 : (k : Int) < n := by omega
      have H1 := hide h1
      have H2 := hide h2
      clear h1 h2
      go_wp2
      go_quiet (fail)
      go_wp2
      exact ⟨⟨k + 1, _, by omega, by go_num, rfl⟩, by simp [intOf]; omega⟩
    · go_wp2
      go_ret
      exact ⟨rfl, _, rfl⟩

/-- append onto a slice that is full: a new row. -/
theorem grow_own {w : World} (B : Nat) (hB : B ≤ w.heap.size) (a : Addr) (zs : List Int) (hold : ∀ j u, (cellsOf zs)[j]? = some u → w.cell? (a.add j) = some u)
    (ad : Addr) (c : Nat) (news : List Int) (hnews : ∀ j u, (cellsOf news)[j]? = some u → w.cell? (ad.add j) = some u) (hp : 0 < news.length) (hl : zs.length + news.length ≤ 1000000) :
    ∃ v' w', (∀ ty, (Builtin.append_ #[22, 22] ty #[.slice (some a) zs.length zs.length, .slice (some ad) news.length c]).run Yba.prog w = .ok v' w') ∧ Own w' B v' (zs ++ news) ∧ w.grownBy w' none := by
  obtain ⟨i0, hi, hz0, hz1, hz2⟩ := info_parts info5
  have hr := run_append_grow (P := Yba.prog) w 22 0 5 i0 (.int .u8 0) Yba.underlying22 hi hz0 a zs.length zs.length (cellsOf zs) (by simp [cellsOf, hz1]) hold ad news.length c (cellsOf news) (by simp [cellsOf, hz1]) hnews (by omega) (by omega) (by rw [hz2]; exact growslice_fits (by omega) (by omega))
  refine ⟨_, _, fun ty => hr, ?_, ⟨rfl, rfl, rfl, by simp, fun k hk _ => Below.heap_alloc w.drew _ k hk⟩⟩
  have hge := grownCap_ge w (zs.length + news.length) zs.length 5
  have hcm : grownCap w (zs.length + news.length) zs.length 5 ≤ maxLen := grownCap_le_maxLen w _ _ 5 (by unfold maxLen; omega)
  have e1 : (zs ++ news).length = zs.length + news.length := by simp
  have e2 : cellsOf (zs ++ news) = cellsOf zs ++ cellsOf news := by simp [cellsOf]
  unfold Own
  rw [e1, e2]
  refine ⟨by simp [cellsOf], .inr ⟨w.heap.size, _, _, rfl, hB, heap_alloc_new w.drew _, hge, hcm, ?_, ?_⟩⟩
  · simp [size_zeroCells, cellsOf, Value.cells]
    omega
  · have e3 : ((cellsOf zs).toArray ++ (cellsOf news).toArray ++ Builtin.zeroCells (Value.int IntKind.u8 0).cells (grownCap w (zs.length + news.length) zs.length 5 - (zs.length + news.length))).toList =
        (cellsOf zs ++ cellsOf news) ++ (Builtin.zeroCells (Value.int IntKind.u8 0).cells (grownCap w (zs.length + news.length) zs.length 5 - (zs.length + news.length))).toList := by simp
    have e4 : (zs.length + news.length) * 1 = (cellsOf zs ++ cellsOf news).length := by simp [cellsOf]
    rw [e3, e4]
    exact List.take_left

theorem Own.weaken {w : World} {B B' : Nat} {v : Value} {zs : List Int} (h : Own w B v zs) (hB : B' ≤ B) : Own w B' v zs := by
  refine ⟨h.1, ?_⟩
  rcases h.2 with h1 | ⟨g, cap, cur, h1, h2, h3⟩
  · exact .inl h1
  · exact .inr ⟨g, cap, cur, h1, Nat.le_trans hB h2, h3⟩

theorem wrap_bd (N : Int) : 0 ≤ IntKind.u64.wrap N ∧ IntKind.u64.wrap N ≤ 18446744073709551615 := by
  rw [IntKind.wrap_u64]
  omega

theorem two_new (w : World) (x y : Value) : ∀ j u, [x, y][j]? = some u → (w.alloc (.cells #[x, y] 5)).cell? ((⟨w.heap.size, 0, none⟩ : Addr).add j) = some u := by
  intro j u hj
  rw [WideShapes.add_plain, World.cell?_alloc_at _ _ _ _ rfl]
  match j, hj with
  | 0, hj => simpa using hj
  | 1, hj => simpa using hj
  | j + 2, hj => simp at hj

set_option maxRecDepth 100000 in
set_option maxHeartbeats 400000 in
theorem marker_any (pb : Nat) (zs : List Int) (s : ByteArray) (N : Int) (w : World) (hpb : pb < w.heap.size) (hz : zs.length ≤ 1024) (hs : s.size ≤ 1024)
    (hc : ∀ j u, (cellsOf zs)[j]? = some u → w.cell? ((⟨pb, 0, none⟩ : Addr).add j) = some u) :
    Calls Yba.prog 4 #[.slice (some ⟨pb, 0, none⟩) zs.length zs.length, .agg #[.string s, .int .i64 N]] w fun e w' =>
      ∃ v', e = .returned v' ∧ Own w' w.heap.size v' (zs ++ [192, 1] ++ uvF 10 s.size ++ strInts s ++ uvF 10 (IntKind.u64.wrap N)) ∧ Below w.heap.size w w' := by
  have hsz2 : ((w.alloc (.cells #[.string s, .int .i64 N] 25)).alloc (.cells #[.int .u8 192, .int .u8 1] 5)).heap.size = w.heap.size + 2 := by simp
  obtain ⟨v1, w1, hrun1, hown1, hg1⟩ := grow_own (w := (w.alloc (.cells #[.string s, .int .i64 N] 25)).alloc (.cells #[.int .u8 192, .int .u8 1] 5)) (w.heap.size + 2) (by omega) ⟨pb, 0, none⟩ zs
    (fun j u hj => by
      have := hc j u hj
      rw [WideShapes.add_plain] at this ⊢
      rw [World.cell?_alloc_past _ _ _ (by simp; omega), World.cell?_alloc_past _ _ _ hpb]
      exact this)
    ⟨w.heap.size + 1, 0, none⟩ 2 [192, 1]
    (fun j u hj => by
      have := two_new (w.alloc (.cells #[.string s, .int .i64 N] 25)) (.int .u8 192) (.int .u8 1) j u hj
      rw [World.size_alloc] at this
      exact this) (by simp) (by simp; omega)
  have hb1 : Below w.heap.size w w1 := (((Below.refl _ w).alloc (Nat.le_refl _) _).alloc (by simp) _).grown hg1 (by omega) (fun k hk => by cases hk)
  have hs1 : w1.cell? ⟨w.heap.size, 0, none⟩ = some (.string s) := hg1.cell (by rw [World.cell?_alloc_past _ _ _ (by simp), World.cell?_alloc_at _ _ _ _ rfl]; rfl) (by simp)
  have hs2 : w1.cell? ⟨w.heap.size, 1, none⟩ = some (.int .i64 N) := hg1.cell (by rw [World.cell?_alloc_past _ _ _ (by simp), World.cell?_alloc_at _ _ _ _ rfl]; rfl) (by simp)
  have hsz1 := hg1.size
  rw [hsz2] at hsz1
  have Hrun1 := hide hrun1
  clear hrun1 hg1
  go_enter Yba.func4, Yba.ntmps4
  go_wp2_with (at_builtin; refine wpList_append_run rfl _ _ 22 22 rfl _ _ rfl rfl v1 w1 (unhide Hrun1) ?_)
  refine (uv_any v1 _ _ (w.heap.size + 2) _ (by omega) (by omega) hown1 hsz1 (by simp; omega)).mono ?_
  rintro e w2 ⟨v2, rfl, hown2, hb2⟩
  have hsw2 : w.heap.size + 2 ≤ w2.heap.size := Nat.le_trans hsz1 hb2.size
  have hu1 := uvF_len 10 s.size
  obtain ⟨v3, w3, hrun3, hown3, hg3⟩ := hown2.appendStr hsw2 s (by simp; omega)
  have hb3 : Below (w.heap.size + 2) w1 w3 := hown2.below hb2 hg3 (Nat.le_refl _) hsw2
  have q1 : w2.cell? ⟨w.heap.size, 0, none⟩ = some (.string s) := by rw [hb2.cell (p := ⟨w.heap.size, 0, none⟩) (by simp)]; exact hs1
  have q3 : w3.cell? ⟨w.heap.size, 1, none⟩ = some (.int .i64 N) := by rw [hb3.cell (p := ⟨w.heap.size, 1, none⟩) (by simp)]; exact hs2
  have hsw3 : w.heap.size + 2 ≤ w3.heap.size := Nat.le_trans hsz1 hb3.size
  have Hrun3 := hide hrun3
  clear hrun3 hg3 hs1 hs2 Hrun1 hsz2
  go_wp2_with (at_builtin; refine wpList_append_run rfl _ _ 22 9 rfl _ _ rfl rfl v3 w3 (unhide Hrun3) ?_)
  have hN := wrap_bd N
  refine (uv_any v3 _ _ (w.heap.size + 2) _ hN.1 hN.2 hown3 hsw3 (by simp [strInts]; omega)).mono ?_
  rintro e w4 ⟨v4, rfl, hown4, hb4⟩
  go_wp2
  go_ret
  refine ⟨v4, rfl, ?_, ?_⟩
  · exact hown4.weaken (by omega)
  · exact hb1.trans ((hb3.trans hb4).mono (by omega))
end Go.Proofs.Ybulkdbom
