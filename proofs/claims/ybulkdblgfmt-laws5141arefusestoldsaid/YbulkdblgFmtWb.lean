import Derived.Test.YbulkdblgFmtWa
import Derived.Deep.RegionHeld
import Derived.Deep.LoopGhost
namespace Go.Proofs.YbulkdblgFmt
open Go.RowKit Go.Extern.Stop Go.Stop Go.Extern

theorem hide {p : Prop} (h : p) : Hid p := h
theorem unhide {p : Prop} (h : Hid p) : p := h

/-- A member, as plain data. -/
structure Mem where
  nm : ByteArray
  kd : Int
  tx : ByteArray

def Mem.raw (m : Mem) : ByteArray := rawS m.kd m.tx

/-- What the last of the first k members of that name gives. -/
def foundTo (ms : List Mem) (key : List UInt8) : Nat → Option ByteArray
  | 0 => none
  | k + 1 => match ms[k]? with
    | some m => if m.nm.data.toList = key then some m.raw else foundTo ms key k
    | none => foundTo ms key k

theorem neq_of {a b : ByteArray} (h : (a.toList == b.toList) = false) : a.data.toList ≠ b.data.toList := by
  rw [ByteArray.toList_eq, ByteArray.toList_eq] at h
  simpa using h
theorem eq_of {a b : ByteArray} (h : (a.toList == b.toList) = true) : a.data.toList = b.data.toList := by
  rw [ByteArray.toList_eq, ByteArray.toList_eq] at h
  simpa using h

theorem rawS_pos (k : Int) (tx : ByteArray) : 0 < (rawS k tx).size := by
  unfold rawS
  split
  · decide
  · split
    · rw [ByteArray.size_append]; have : (ByteArray.mk #[123]).size = 1 := rfl; omega
    · split
      · rw [ByteArray.size_append]; have : (ByteArray.mk #[91]).size = 1 := rfl; omega
      · split
        · decide
        · rename_i h
          rw [ByteArray.toList_eq] at h
          rcases Nat.eq_zero_or_pos tx.size with e | e
          · exfalso
            apply h
            have : tx.data.toList.length = 0 := by simpa using e
            simp [List.length_eq_zero_iff.1 this]
          · exact e

theorem foundTo_hit {ms : List Mem} {key : List UInt8} {k : Nat} {m : Mem} (h : ms[k]? = some m) (e : m.nm.data.toList = key) : foundTo ms key (k + 1) = some m.raw := by
  simp only [foundTo, h, if_pos e]
theorem foundTo_miss {ms : List Mem} {key : List UInt8} {k : Nat} {m : Mem} (h : ms[k]? = some m) (e : m.nm.data.toList ≠ key) : foundTo ms key (k + 1) = foundTo ms key k := by
  simp only [foundTo, h, if_neg e]
theorem foundTo_pos {ms : List Mem} {key : List UInt8} {s : ByteArray} : ∀ {k : Nat}, foundTo ms key k = some s → 0 < s.size
  | 0, h => by cases h
  | k + 1, h => by
    cases hm : ms[k]? with
    | none => simp only [foundTo, hm] at h; exact foundTo_pos h
    | some m =>
      by_cases e : m.nm.data.toList = key
      · rw [foundTo_hit hm e] at h
        cases h
        exact rawS_pos _ _
      · rw [foundTo_miss hm e] at h
        exact foundTo_pos h

/-- The map's slices hold the bytes of the last members. -/
def Holds (wr : World) (B : Nat) (ms : List Mem) (k : Nat) (f : List UInt8 → Option Value) : Prop :=
  ∀ key, match foundTo ms key k with
    | none => f key = none
    | some s => ∃ b cap, f key = some (.slice (some ⟨b, 0, none⟩) s.size cap) ∧ Lib.Bytes wr b 0 s ∧ b < wr.heap.size ∧ B < b

def CellsAt (w : World) (b off : Nat) (ms : List Mem) : Prop :=
  ∀ k m, ms[k]? = some m → w.cell? ⟨b, off + k * 3, none⟩ = some (.string m.nm) ∧ w.cell? ⟨b, off + k * 3 + 1, none⟩ = some (.int .u8 m.kd) ∧ w.cell? ⟨b, off + k * 3 + 2, none⟩ = some (.string m.tx)

theorem grown_trans {a b c : World} {row : Option Nat} (h : a.grownBy b none) (k : b.grownBy c row) : a.grownBy c row :=
  ⟨k.os.trans h.os, k.tape.trans h.tape, k.output.trans h.output, Nat.le_trans h.size k.size, fun i hi hne => (k.block i (Nat.lt_of_lt_of_le hi h.size) hne).trans (h.block i hi (by simp))⟩

/-- '[]byte(s)' and the store of it under a key, from any world. -/
theorem store_step (wr : World) (mB k : Nat) (f : List UInt8 → Option Value) (h : MapIs wr mB k f) (hk : k < maxLen) (o : Obj) (s nm : ByteArray) (hn : nm.size ≤ maxLen) :
    ∃ g cp W2 W3, (convert 9 27 (.string s)).run Ybaf.prog (wr.alloc o).drew = .ok (.slice (some ⟨g, 0, none⟩) s.size cp) W2 ∧
      (Instr.mapUpdate 23 (.map (some mB)) (.string nm) (.slice (some ⟨g, 0, none⟩) s.size cp)).run Ybaf.prog W2 = .ok () W3 ∧
      wr.heap.size < g ∧ g < W3.heap.size ∧ Lib.Bytes W3 g 0 s ∧ MapIs W3 mB (k + 1) (upd f nm.data.toList (.slice (some ⟨g, 0, none⟩) s.size cp)) ∧ wr.grownBy W2 none ∧ wr.grownBy W3 (some mB) := by
  have hcv := run_bytes_of_string (P := Ybaf.prog) (wr.alloc o).drew 9 27 5 s Ybaf.underlying9 Ybaf.underlying27 Ybaf.underlying5
  generalize grownCap (wr.alloc o).drew s.size 0 5 = cp at hcv
  have hg : (wr.alloc o).drew.heap.size = wr.heap.size + 1 := by simp
  rw [hg] at hcv
  obtain ⟨O, hO⟩ : ∃ O, O = Obj.cells (bytesRow s cp) 5 ((bytesRow s cp).size, (bytesRow s cp).size + 1) := ⟨_, rfl⟩
  rw [← hO] at hcv
  have h2 : wr.grownBy ((wr.alloc o).drew.drew.alloc O) none := by
    have a1 := World.grownBy_alloc wr o none
    have a2 := World.grownBy_alloc (wr.alloc o).drew.drew O none
    have a3 : (wr.alloc o).grownBy (wr.alloc o).drew.drew none := ⟨rfl, rfl, rfl, Nat.le_refl _, fun _ _ _ => rfl⟩
    exact grown_trans (grown_trans a1 a3) a2
  have hm2 : MapIs ((wr.alloc o).drew.drew.alloc O) mB k f := h.kept h2 (by simp)
  obtain ⟨W3, r1, r2, r3⟩ := hm2.update Ybaf.underlying23 hk nm hn (.slice (some ⟨wr.heap.size + 1, 0, none⟩) s.size cp)
  have hsz : ((wr.alloc o).drew.drew.alloc O).heap.size = wr.heap.size + 2 := by simp
  have hmB := h.lt
  refine ⟨wr.heap.size + 1, cp, _, W3, hcv, r1, by omega, ?_, ?_, r2, h2, grown_trans h2 r3.grown⟩
  · have := r3.grown.size
    omega
  · intro i hi
    refine r3.grown.cell ?_ (by simp; omega)
    have e1 := World.cell?_alloc_mark (wr.alloc o).drew.drew (bytesRow s cp) 5 ((bytesRow s cp).size, (bytesRow s cp).size + 1) (0 + i)
    rw [← hO] at e1
    have e2 : (wr.alloc o).drew.drew.heap.size = wr.heap.size + 1 := by simp
    rw [e2] at e1
    rw [e1]
    simp [bytesRow, Array.getElem?_append, hi]
    rfl

theorem Holds.step {wr W3 : World} {B mB k : Nat} {ms : List Mem} {f : List UInt8 → Option Value} {m : Mem} {g cp : Nat} (h : Holds wr B ms k f) (hm : ms[k]? = some m) (hgr : wr.grownBy W3 (some mB)) (hmB : mB ≤ B) (hg : B < g)
    (hlt : g < W3.heap.size) (hby : Lib.Bytes W3 g 0 m.raw) : Holds W3 B ms (k + 1) (upd f m.nm.data.toList (.slice (some ⟨g, 0, none⟩) m.raw.size cp)) := by
  intro key
  have hk := h key
  simp only [foundTo, hm]
  by_cases e : m.nm.data.toList = key
  · rw [if_pos e]
    exact ⟨g, cp, by simp [upd, e], hby, hlt, hg⟩
  · rw [if_neg e]
    have e' : ¬ key = m.nm.data.toList := fun x => e x.symm
    cases hf : foundTo ms key k with
    | none => rw [hf] at hk; simp [upd, e', hk]
    | some s =>
      rw [hf] at hk
      obtain ⟨b, cap, h1, h2, h3, h4⟩ := hk
      exact ⟨b, cap, by simp [upd, e', h1], fun i hi => hgr.cell (h2 i hi) (by simp; omega), Nat.lt_of_lt_of_le h3 hgr.size, h4⟩

theorem Holds.alloc {wr : World} {B k : Nat} {ms : List Mem} {f : List UInt8 → Option Value} (h : Holds wr B ms k f) (o : Obj) : Holds (wr.alloc o) B ms k f := by
  intro key
  have hk := h key
  cases hf : foundTo ms key k with
  | none => rw [hf] at hk; exact hk
  | some s =>
    rw [hf] at hk
    obtain ⟨b, cap, h1, h2, h3, h4⟩ := hk
    exact ⟨b, cap, h1, bytes_alloc h2 h3 o, by simp; omega, h4⟩

theorem ta34 (a : Addr) (w : World) : (Instr.typeAssert (.iface 34 (.pointer (some a))) 32 34 true).run Ybaf.prog w = .ok (.tuple #[.pointer (some a), .bool true]) w := by kernel_rfl
attribute [local go_sem] ta34

set_option maxRecDepth 100000 in
set_option maxHeartbeats 400000 in
theorem law_some (F : Interp) (path name : ByteArray) (pick : Int) (b off cap : Nat) (ms : List Mem) (w : World) (hF : F.answers w.tape) (hb : b < w.heap.size)
    (hc : CellsAt w b off ms) (hlen : ms.length ≤ 1024) (hp0 : 0 ≤ pick) (hp1 : pick ≤ 255) (hpa : path.size < 4611686018427387903) (hna : name.size < 4611686018427387903) (hwf : ∀ (k : Nat) (m : Mem), ms[k]? = some m → 0 ≤ m.kd ∧ m.kd ≤ 255 ∧ m.nm.size < 4611686018427387903 ∧ m.tx.size < 4611686018427387903) :
    Calls Ybaf.prog 3 #[.string path, .slice (some ⟨b, off, none⟩) ms.length cap, .int .u8 pick, .string name] w fun e w' => e = .returned (.bool true) ∧ Below w.heap.size w w' := by
  have hmm := @run_makeMap Ybaf.prog
  have hl0 : ¬ (1024 : Int) < ms.length := by omega
  go_enter Ybaf.func3, Ybaf.ntmps3
  go_wp2
  go_loopw [10] (fun i wr => ∃ (k : Nat) (f : List UInt8 → Option Value), k ≤ ms.length ∧ i = .int .i64 k ∧ MapIs wr w.heap.size k f ∧ Holds wr (w.heap.size + 1) ms k f ∧ Below w.heap.size w wr ∧ w.heap.size + 2 ≤ wr.heap.size ∧ wr.cell? ⟨w.heap.size + 1, 0, none⟩ = some (.string path) ∧ wr.cell? ⟨w.heap.size + 1, 1, none⟩ = some (.map (some w.heap.size))) (fun i _ => ms.length - (intOf i).toNat)
  case atStart => exact ⟨0, _, Nat.zero_le _, rfl, (MapIs.made w).alloc _, fun _ => rfl, ((Below.refl _ w).alloc (Nat.le_refl _) _).alloc (by simp) _, by simp, by simp, by simp⟩
  case round =>
    obtain ⟨k, f, hk, rfl, hmap, hhold, hbel, hsz, hc0, hc1⟩ := hrel
    by_cases hlt : k < ms.length
    · obtain ⟨m, hm⟩ : ∃ m, ms[k]? = some m := ⟨ms[k], by simp [hlt]⟩
      obtain ⟨c0, c1, c2⟩ := hc k m hm
      have d0 : wr.cell? ⟨b, off + k * 3, none⟩ = some (.string m.nm) := by rw [hbel.cell (p := ⟨b, _, none⟩) hb]; exact c0
      have d1 : wr.cell? ⟨b, off + k * 3 + 1, none⟩ = some (.int .u8 m.kd) := by rw [hbel.cell (p := ⟨b, _, none⟩) hb]; exact c1
      have d2 : wr.cell? ⟨b, off + k * 3 + 2, none⟩ = some (.string m.tx) := by rw [hbel.cell (p := ⟨b, _, none⟩) hb]; exact c2
      clear c0 c1 c2
      have Hm := hide hm
      clear hm
      obtain ⟨wk0, wk1, wn, wt⟩ := hwf k m (unhide Hm)
      obtain ⟨g, cp, W2, W3, hcv, hup, hg1, hg2, hby, hmap3, hgr2, hgr3⟩ := store_step wr w.heap.size k f hmap (by unfold maxLen; omega) (.cells #[.string m.nm, .int .u8 m.kd, .string m.tx] 30) (rawS m.kd m.tx) m.nm (by unfold maxLen; omega)
      have hbne : b ≠ w.heap.size := by omega
      have t1 := hgr2.cell hc1 (by simp)
      have t2 := hgr2.cell d0 (by simp)
      have t3 := hgr2.cell d1 (by simp)
      have t4 := hgr2.cell d2 (by simp)
      have u0 := hgr3.cell hc0 (by simp)
      have u1 := hgr3.cell hc1 (by simp)
      have u2 := hgr3.cell d0 (by simpa using hbne)
      have u3 := hgr3.cell d1 (by simpa using hbne)
      have u4 := hgr3.cell d2 (by simpa using hbne)
      have hm3 := hide hmap3
      have hb3 := hide hby
      have hr3 := hide hgr3
      clear hmap3 hby hgr3 hgr2
      go_wp2
      go_region_held (fun w' => w'.cell? ⟨w.heap.size + 1, 1, none⟩ = some (.map (some w.heap.size)) ∧ w'.cell? ⟨b, off + k * 3, none⟩ = some (.string m.nm) ∧ w'.cell? ⟨b, off + k * 3 + 1, none⟩ = some (.int .u8 m.kd) ∧ w'.cell? ⟨b, off + k * 3 + 2, none⟩ = some (.string m.tx)) (go_keep) (first | (go_at_call 7; refine (raw_any m.nm m.tx m.kd _ wk0 wk1 (by omega)).mono ?_; rintro e w' ⟨rfl, rfl⟩))
      go_wp2
      refine ⟨⟨k + 1, _, by omega, by go_num, unhide hm3, hhold.step (unhide Hm) (unhide hr3) (by omega) (by omega) hg2 (unhide hb3), hbel.grown (unhide hr3) (by omega) (fun j hj => by cases hj; exact Nat.le_refl _), ?_, u0, u1⟩, by simp [intOf]; omega⟩
      have := (unhide hr3).size
      omega
    · have hkn : k = ms.length := by omega
      subst hkn
      by_cases hi : pick % (ms.length + 1) < ms.length
      · have hi0 : 0 ≤ pick % ((ms.length : Int) + 1) := Int.emod_nonneg _ (by omega)
        obtain ⟨m, hm⟩ : ∃ m, ms[(pick % ((ms.length : Int) + 1)).toNat]? = some m := ⟨ms[(pick % ((ms.length : Int) + 1)).toNat]'(by omega), by simp⟩
        have d0 : wr.cell? ⟨b, off + (pick % ((ms.length : Int) + 1)).toNat * 3, none⟩ = some (.string m.nm) := by rw [hbel.cell (p := ⟨b, _, none⟩) hb]; exact (hc _ m hm).1
        have wn := (hwf _ m hm).2.2.1
        clear hm
        obtain ⟨tgt, ht⟩ : ∃ t, t = m.nm := ⟨_, rfl⟩
        rw [← ht] at d0 wn
        clear ht m
        go_wp2
        go_loopw [13, 14, 15] (fun fd rw i wq => ∃ (k : Nat) (r : Option ByteArray), k ≤ ms.length ∧ i = .int .i64 k ∧ Hid (r = foundTo ms tgt.data.toList k) ∧ fd = .bool r.isSome ∧ rw = .string (r.getD ⟨#[]⟩) ∧ MapIs wq w.heap.size ms.length f ∧ Holds wq (w.heap.size + 1) ms ms.length f ∧ Below w.heap.size w wq ∧ w.heap.size + 2 ≤ wq.heap.size ∧ wq.cell? ⟨w.heap.size + 1, 0, none⟩ = some (.string path) ∧ wq.cell? ⟨w.heap.size + 1, 1, none⟩ = some (.map (some w.heap.size))) (fun _ _ i _ => ms.length - (intOf i).toNat)
        case atStart => exact ⟨0, none, Nat.zero_le _, rfl, rfl, rfl, rfl, hmap, hhold, hbel, hsz, hc0, hc1⟩
        case round =>
          clear hmap hhold hbel hsz hc0 hc1
          obtain ⟨k, r, hk, rfl, hr, rfl, rfl, hmap, hhold, hbel, hsz, hc0, hc1⟩ := hrel
          by_cases hlt : k < ms.length
          · obtain ⟨m, hm⟩ : ∃ m, ms[k]? = some m := ⟨ms[k], by simp [hlt]⟩
            obtain ⟨c0, c1, c2⟩ := hc k m hm
            have d0 : wr.cell? ⟨b, off + k * 3, none⟩ = some (.string m.nm) := by rw [hbel.cell (p := ⟨b, _, none⟩) hb]; exact c0
            have d1 : wr.cell? ⟨b, off + k * 3 + 1, none⟩ = some (.int .u8 m.kd) := by rw [hbel.cell (p := ⟨b, _, none⟩) hb]; exact c1
            have d2 : wr.cell? ⟨b, off + k * 3 + 2, none⟩ = some (.string m.tx) := by rw [hbel.cell (p := ⟨b, _, none⟩) hb]; exact c2
            clear c0 c1 c2
            have Hm := hide hm
            clear hm
            obtain ⟨wk0, wk1, wn, wt⟩ := hwf k m (unhide Hm)
            by_cases hq : (m.nm.toList == tgt.toList) = true
            · go_wp2_with (go_at_call 7; refine (raw_any m.nm m.tx m.kd _ wk0 wk1 (by omega)).mono ?_; rintro e w' ⟨rfl, rfl⟩)
              have hn1 : w.heap.size + 1 < wr.heap.size := by omega
              refine ⟨⟨k + 1, some m.raw, by omega, by go_num, ?_, rfl, rfl, hmap.alloc _, hhold.alloc _, hbel.alloc (by omega) _, by simp; omega, by rw [World.cell?_alloc_lt _ _ _ hn1]; exact hc0, by rw [World.cell?_alloc_lt _ _ _ hn1]; exact hc1⟩, by simp [intOf]; omega⟩
              exact (foundTo_hit (unhide Hm) (eq_of hq)).symm
            · have hq' : (m.nm.toList == tgt.toList) = false := by simpa using hq
              go_wp2
              refine ⟨⟨k + 1, r, by omega, by go_num, ?_, rfl, rfl, hmap, hhold, hbel, hsz, hc0, hc1⟩, by simp [intOf]; omega⟩
              exact (unhide hr).trans (foundTo_miss (unhide Hm) (neq_of hq')).symm
          · have hkn : k = ms.length := by omega
            subst hkn
            have hfd := hhold tgt.data.toList
            rw [← unhide hr] at hfd
            cases r with
            | none =>
              have hfd' : f tgt.data.toList = none := hfd
              clear hfd
              go_wp2_with (go_at_call 8; refine (opt_none path tgt w.heap.size ms.length f _ hmap (by unfold maxLen; omega) hfd').mono ?_; rintro e w' ⟨rfl, hb8⟩)
              go_ret
              exact ⟨rfl, hbel.trans (hb8.mono (by omega))⟩
            | some s =>
              obtain ⟨b', cap', e1, e2, e3, e4⟩ := hfd
              have hs : 0 < s.size := foundTo_pos (unhide hr).symm
              by_cases hnull : (s.toList == [110, 117, 108, 108]) = true
              · go_wp2_with (go_at_call 8; refine (opt_null path tgt s w.heap.size ms.length b' cap' f _ hmap (by unfold maxLen; omega) e1 e2 e3 hnull).mono ?_; rintro e w' ⟨rfl, hb8⟩)
                go_ret
                exact ⟨rfl, hbel.trans (hb8.mono (by omega))⟩
              · have hnull' : (s.toList == [110, 117, 108, 108]) = false := by simpa using hnull
                clear hnull
                by_cases h0 : s[0].toNat = 123
                · go_wp2_with (go_at_call 8; refine (opt_obj path tgt s w.heap.size ms.length b' cap' f _ hmap (by unfold maxLen; omega) e1 e2 e3 hnull' hs h0).mono ?_; rintro e w' ⟨rfl, hb8⟩)
                  go_ret
                  exact ⟨rfl, hbel.trans (hb8.mono (by omega))⟩
                · have hx : ((s[0].toNat : Int) != 123) = true := by rw [bne_iff_ne]; omega
                  have hx2 : ((s[0].toNat : Int) == 123) = false := by rw [beq_eq_false_iff_ne]; omega
                  clear h0
                  have hF8 : F.answers wr.tape := by rw [hbel.tape]; exact hF
                  go_wp2_with (go_at_call 8; refine (opt_bad F path tgt s w.heap.size ms.length b' cap' f _ hF8 hmap (by omega) (by omega) e1 e2 e3 hnull' hs _ rfl hx2).mono ?_; rintro e w' ⟨k8, rfl, hk8, hb8⟩)
                  go_ret
                  exact ⟨rfl, hbel.trans (hb8.mono (by omega))⟩
      · go_wp2
        go_loopw [13, 14, 15] (fun fd rw i wq => ∃ (k : Nat) (r : Option ByteArray), k ≤ ms.length ∧ i = .int .i64 k ∧ Hid (r = foundTo ms name.data.toList k) ∧ fd = .bool r.isSome ∧ rw = .string (r.getD ⟨#[]⟩) ∧ MapIs wq w.heap.size ms.length f ∧ Holds wq (w.heap.size + 1) ms ms.length f ∧ Below w.heap.size w wq ∧ w.heap.size + 2 ≤ wq.heap.size ∧ wq.cell? ⟨w.heap.size + 1, 0, none⟩ = some (.string path) ∧ wq.cell? ⟨w.heap.size + 1, 1, none⟩ = some (.map (some w.heap.size))) (fun _ _ i _ => ms.length - (intOf i).toNat)
        case atStart => exact ⟨0, none, Nat.zero_le _, rfl, rfl, rfl, rfl, hmap, hhold, hbel, hsz, hc0, hc1⟩
        case round =>
          clear hmap hhold hbel hsz hc0 hc1
          obtain ⟨k, r, hk, rfl, hr, rfl, rfl, hmap, hhold, hbel, hsz, hc0, hc1⟩ := hrel
          by_cases hlt : k < ms.length
          · obtain ⟨m, hm⟩ : ∃ m, ms[k]? = some m := ⟨ms[k], by simp [hlt]⟩
            obtain ⟨c0, c1, c2⟩ := hc k m hm
            have d0 : wr.cell? ⟨b, off + k * 3, none⟩ = some (.string m.nm) := by rw [hbel.cell (p := ⟨b, _, none⟩) hb]; exact c0
            have d1 : wr.cell? ⟨b, off + k * 3 + 1, none⟩ = some (.int .u8 m.kd) := by rw [hbel.cell (p := ⟨b, _, none⟩) hb]; exact c1
            have d2 : wr.cell? ⟨b, off + k * 3 + 2, none⟩ = some (.string m.tx) := by rw [hbel.cell (p := ⟨b, _, none⟩) hb]; exact c2
            clear c0 c1 c2
            have Hm := hide hm
            clear hm
            obtain ⟨wk0, wk1, wn, wt⟩ := hwf k m (unhide Hm)
            by_cases hq : (m.nm.toList == name.toList) = true
            · go_wp2_with (go_at_call 7; refine (raw_any m.nm m.tx m.kd _ wk0 wk1 (by omega)).mono ?_; rintro e w' ⟨rfl, rfl⟩)
              have hn1 : w.heap.size + 1 < wr.heap.size := by omega
              refine ⟨⟨k + 1, some m.raw, by omega, by go_num, ?_, rfl, rfl, hmap.alloc _, hhold.alloc _, hbel.alloc (by omega) _, by simp; omega, by rw [World.cell?_alloc_lt _ _ _ hn1]; exact hc0, by rw [World.cell?_alloc_lt _ _ _ hn1]; exact hc1⟩, by simp [intOf]; omega⟩
              exact (foundTo_hit (unhide Hm) (eq_of hq)).symm
            · have hq' : (m.nm.toList == name.toList) = false := by simpa using hq
              go_wp2
              refine ⟨⟨k + 1, r, by omega, by go_num, ?_, rfl, rfl, hmap, hhold, hbel, hsz, hc0, hc1⟩, by simp [intOf]; omega⟩
              exact (unhide hr).trans (foundTo_miss (unhide Hm) (neq_of hq')).symm
          · have hkn : k = ms.length := by omega
            subst hkn
            have hfd := hhold name.data.toList
            rw [← unhide hr] at hfd
            cases r with
            | none =>
              have hfd' : f name.data.toList = none := hfd
              clear hfd
              go_wp2_with (go_at_call 8; refine (opt_none path name w.heap.size ms.length f _ hmap (by unfold maxLen; omega) hfd').mono ?_; rintro e w' ⟨rfl, hb8⟩)
              go_ret
              exact ⟨rfl, hbel.trans (hb8.mono (by omega))⟩
            | some s =>
              obtain ⟨b', cap', e1, e2, e3, e4⟩ := hfd
              have hs : 0 < s.size := foundTo_pos (unhide hr).symm
              by_cases hnull : (s.toList == [110, 117, 108, 108]) = true
              · go_wp2_with (go_at_call 8; refine (opt_null path name s w.heap.size ms.length b' cap' f _ hmap (by unfold maxLen; omega) e1 e2 e3 hnull).mono ?_; rintro e w' ⟨rfl, hb8⟩)
                go_ret
                exact ⟨rfl, hbel.trans (hb8.mono (by omega))⟩
              · have hnull' : (s.toList == [110, 117, 108, 108]) = false := by simpa using hnull
                clear hnull
                by_cases h0 : s[0].toNat = 123
                · go_wp2_with (go_at_call 8; refine (opt_obj path name s w.heap.size ms.length b' cap' f _ hmap (by unfold maxLen; omega) e1 e2 e3 hnull' hs h0).mono ?_; rintro e w' ⟨rfl, hb8⟩)
                  go_ret
                  exact ⟨rfl, hbel.trans (hb8.mono (by omega))⟩
                · have hx : ((s[0].toNat : Int) != 123) = true := by rw [bne_iff_ne]; omega
                  have hx2 : ((s[0].toNat : Int) == 123) = false := by rw [beq_eq_false_iff_ne]; omega
                  clear h0
                  have hF8 : F.answers wr.tape := by rw [hbel.tape]; exact hF
                  go_wp2_with (go_at_call 8; refine (opt_bad F path name s w.heap.size ms.length b' cap' f _ hF8 hmap (by omega) (by omega) e1 e2 e3 hnull' hs _ rfl hx2).mono ?_; rintro e w' ⟨k8, rfl, hk8, hb8⟩)
                  go_ret
                  exact ⟨rfl, hbel.trans (hb8.mono (by omega))⟩

set_option maxHeartbeats 400000 in
theorem law_long (path name : ByteArray) (pick : Int) (a : Option Addr) (len cap : Nat) (w : World) (hl : (1024 : Int) < len) :
    Calls Ybaf.prog 3 #[.string path, .slice a len cap, .int .u8 pick, .string name] w fun e w' => e = .returned (.bool true) ∧ Below w.heap.size w w' := by
  go_enter Ybaf.func3, Ybaf.ntmps3
  go_wp2
  go_ret
  exact ⟨rfl, Below.refl _ _⟩

set_option maxRecDepth 100000 in
set_option maxHeartbeats 400000 in
theorem law_empty (path name : ByteArray) (pick : Int) (a : Option Addr) (cap : Nat) (w : World) (hna : name.size < 4611686018427387903) (hp0 : 0 ≤ pick) (hp1 : pick ≤ 255) :
    Calls Ybaf.prog 3 #[.string path, .slice a 0 cap, .int .u8 pick, .string name] w fun e w' => e = .returned (.bool true) ∧ Below w.heap.size w w' := by
  have hmm := @run_makeMap Ybaf.prog
  go_enter Ybaf.func3, Ybaf.ntmps3
  go_wp2
  go_loop [10] (fun i => i = .int .i64 0) (fun _ => 0)
  case atStart => rfl
  case round =>
    subst hrel
    go_wp2
    go_loop [13, 14, 15] (fun fd rw i => fd = .bool false ∧ rw = .string ⟨#[]⟩ ∧ i = .int .i64 0) (fun _ _ _ => 0)
    case atStart => exact ⟨rfl, rfl, rfl⟩
    case round =>
      obtain ⟨rfl, rfl, rfl⟩ := hrel
      go_wp2_with (go_at_call 8; refine (opt_none path name w.heap.size 0 (fun _ => none) _ ((MapIs.made w).alloc _) (by unfold maxLen; omega) rfl).mono ?_; rintro e w' ⟨rfl, hb8⟩)
      go_ret
      exact ⟨rfl, (((Below.refl _ w).alloc (Nat.le_refl _) _).alloc (by simp) _).trans (hb8.mono (by simp; omega))⟩

end Go.Proofs.YbulkdblgFmt
