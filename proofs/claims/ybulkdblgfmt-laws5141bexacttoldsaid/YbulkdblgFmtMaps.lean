/-
  A MAP KEYED BY STRINGS, READ KEY BY KEY: block b of w is a map of at most n entries; at the key s it holds the VALUE 'f s' itself (none: no such key). Over the library's 'ownsMap' with the reader that keeps the value as it lies.
-/
import Derived.Test.YbulkdblgFmtProg
import Derived.WalkKit
import Derived.Maps.OwnSet
namespace Go.Proofs.YbulkdblgFmt
open Go.RowKit Go.Maps Go.WideMaps

def heldV (v : Value) : Option (DataW Value × List MemPlace) := some (.held v, [])

def MapIs (w : World) (b n : Nat) (f : List UInt8 → Option Value) : Prop :=
  ∃ D : DataW Value, w.ownsMap Ybaf.prog 9 heldV b n D ∧ ∀ s, Maps.has D (.string s) = (f s).isSome ∧ ∀ z, D.atKey (.string s) z = (match f s with | some v => .held v | none => z)

def upd (f : List UInt8 → Option Value) (k : List UInt8) (v : Value) : List UInt8 → Option Value := fun s => if s = k then some v else f s

theorem law9 : Keyed Ybaf.prog 9 := string_keyed Ybaf.underlying9

theorem MapIs.made (w : World) : MapIs (w.alloc (.map #[] 0)) w.heap.size 0 (fun _ => none) :=
  ⟨.map [], World.ownsMap_made _ _ _ _, fun _ => ⟨rfl, fun _ => rfl⟩⟩

theorem MapIs.alloc {w : World} {b n : Nat} {f : List UInt8 → Option Value} (h : MapIs w b n f) (o : Obj) : MapIs (w.alloc o) b n f := by
  obtain ⟨D, h1, h2⟩ := h
  exact ⟨D, h1.alloc o, h2⟩
theorem MapIs.drew {w : World} {b n : Nat} {f : List UInt8 → Option Value} (h : MapIs w b n f) : MapIs w.drew b n f := by
  obtain ⟨D, h1, h2⟩ := h
  exact ⟨D, h1.drew, h2⟩
theorem MapIs.kept {w w' : World} {b n : Nat} {row : Option Nat} {f : List UInt8 → Option Value} (h : MapIs w b n f) (hg : w.grownBy w' row) (hne : some b ≠ row) : MapIs w' b n f := by
  obtain ⟨D, h1, h2⟩ := h
  exact ⟨D, h1.kept hg hne, h2⟩
theorem MapIs.mono {w : World} {b n n' : Nat} {f : List UInt8 → Option Value} (h : MapIs w b n f) (hn : n ≤ n') : MapIs w b n' f := by
  obtain ⟨D, h1, h2⟩ := h
  exact ⟨D, h1.mono hn, h2⟩
theorem MapIs.lt {w : World} {b n : Nat} {f : List UInt8 → Option Value} (h : MapIs w b n f) : b < w.heap.size := by
  obtain ⟨D, h1, h2⟩ := h
  exact h1.lt

theorem MapIs.update {w : World} {b n : Nat} {f : List UInt8 → Option Value} (h : MapIs w b n f) {t e : TypeId} (ht : Ybaf.prog.underlying t = some (.map 9 e)) (hn : n < maxLen) (s : ByteArray) (hs : s.size ≤ maxLen) (v : Value) :
    ∃ w', (Instr.mapUpdate t (.map (some b)) (.string s) v).run Ybaf.prog w = .ok () w' ∧ MapIs w' b (n + 1) (upd f s.data.toList v) ∧ w.mapTurned w' b := by
  obtain ⟨D, h1, h2⟩ := h
  have hkey := keyOf_string_mk Ybaf.underlying9 hs
  obtain ⟨w', r1, r2, r3⟩ := h1.store law9 ht hn hkey (val := v) (d := .held v) (ps := []) rfl
  have hl := h1.isMap
  refine ⟨w', r1, ⟨_, r2, fun q => ?_⟩, r3⟩
  by_cases hq : q = s.data.toList
  · subst hq
    simp only [upd, if_true]
    exact ⟨has_put_same hl (by exact trivial) _, fun z => atKey_put_same hl (by exact trivial) _ _⟩
  · simp only [upd, if_neg hq]
    have hne : Lit.string q ≠ Lit.string s.data.toList := fun e => hq (by cases e; rfl)
    exact ⟨(has_put_other hne _).trans (h2 q).1, fun z => (atKey_put_other hne _ _).trans ((h2 q).2 z)⟩

theorem MapIs.look {w : World} {b n : Nat} {f : List UInt8 → Option Value} (h : MapIs w b n f) {t e : TypeId} (ht : Ybaf.prog.underlying t = some (.map 9 e)) {z : Value} (hz : (zeroValue e).run Ybaf.prog w = .ok z w) (s : ByteArray) (hs : s.size ≤ maxLen) :
    (Instr.lookup t (.map (some b)) (.string s) true).run Ybaf.prog w = .ok (.tuple #[(f s.data.toList).getD z, .bool (f s.data.toList).isSome]) w := by
  obtain ⟨D, h1, h2⟩ := h
  have hkey := keyOf_string_mk Ybaf.underlying9 hs
  obtain ⟨v, ps, r1, r2⟩ := h1.look_ok law9 ht hz (zd := .held z) (zp := []) rfl hkey
  obtain ⟨a1, a2⟩ := h2 s.data.toList
  rw [r1, a1]
  rw [a2] at r2
  cases hf : f s.data.toList with
  | none => rw [hf] at r2; simp [heldV] at r2; rw [r2.1]; rfl
  | some u => rw [hf] at r2; simp [heldV] at r2; rw [r2.1]; rfl

theorem MapIs.look1 {w : World} {b n : Nat} {f : List UInt8 → Option Value} (h : MapIs w b n f) {t e : TypeId} (ht : Ybaf.prog.underlying t = some (.map 9 e)) {z : Value} (hz : (zeroValue e).run Ybaf.prog w = .ok z w) (s : ByteArray) (hs : s.size ≤ maxLen) :
    (Instr.lookup t (.map (some b)) (.string s) false).run Ybaf.prog w = .ok ((f s.data.toList).getD z) w := by
  obtain ⟨D, h1, h2⟩ := h
  have hkey := keyOf_string_mk Ybaf.underlying9 hs
  obtain ⟨v, ps, r1, r2⟩ := h1.lookup law9 ht hz (zd := .held z) (zp := []) rfl hkey
  obtain ⟨a1, a2⟩ := h2 s.data.toList
  rw [r1]
  rw [a2] at r2
  cases hf : f s.data.toList with
  | none => rw [hf] at r2; simp [heldV] at r2; rw [r2.1]; rfl
  | some u => rw [hf] at r2; simp [heldV] at r2; rw [r2.1]; rfl

end Go.Proofs.YbulkdblgFmt
