/-
  THE SMALL FUNCTIONS ON THE ROAD OF 'server.LawS5141ARefuses': zzs5141araw, (jsonObject).at, badRequest, by their contracts.
-/
import Derived.Test.YbulkdblgFmtMaps
import Derived.WalkSpells
import Derived.WalkLawsBesides
import Derived.Deep.QuietTactic
import Derived.BigQuiet
import Derived.Lib.SlBytesRow
import Derived.Stop.CallBack
import Derived.Stop.IfaceNil
import GoSem.ClaimData
namespace Go.Proofs.YbulkdblgFmt
open Go.RowKit Go.Extern.Stop Go.Stop Go.Extern

/-- What zzs5141araw gives. -/
def rawS (k : Int) (tx : ByteArray) : ByteArray :=
  if k % 4 == 0 then ⟨#[110, 117, 108, 108]⟩ else if k % 4 == 1 then ⟨#[123]⟩ ++ tx else if k % 4 == 2 then ⟨#[91]⟩ ++ tx else if tx.toList.isEmpty then ⟨#[48]⟩ else tx

set_option maxHeartbeats 400000 in
theorem raw_any (nm tx : ByteArray) (k : Int) (w : World) (hk0 : 0 ≤ k) (hk : k ≤ 255) (ht : tx.size < 9223372036854775807) :
    Calls Ybaf.prog 7 #[.agg #[.string nm, .int .u8 k, .string tx]] w fun e w' => e = .returned (.string (rawS k tx)) ∧ w' = w.alloc (.cells #[.string nm, .int .u8 k, .string tx] 30) := by
  go_enter Ybaf.func7, Ybaf.ntmps7
  go_wp2
  all_goals (try omega)
  all_goals go_ret
  all_goals (refine ⟨?_, rfl⟩; simp_all [rawS])

-- fmt.Sprintf: function 17: a stop that calls its operands' methods
theorem call17 (args : Array Value) (w : World) : (callFunc 17 args).run Ybaf.prog w = (FmtCalls.sprintf #[9, 87] #[9] args).run Ybaf.prog w :=
  run_callFunc_next Ybaf.func17 (by kernel_rfl) (by kernel_rfl) (by kernel_rfl) args w
theorem guardF (name : String) (w : World) : (FmtStop.guard name).run Ybaf.prog w = .ok () w := by kernel_rfl
theorem nextTurns : Extern.next FmtCalls.turnsRow = some (FmtCalls.begun #[] #[]) := by kernel_rfl
theorem nextReturned : Extern.next FmtCalls.returnedRow = some (FmtCalls.returned #[] #[]) := by kernel_rfl
-- "%s must be a JSON object", 1 operand
theorem fmtObj : FmtStop.printed? ⟨#[37, 115, 32, 109, 117, 115, 116, 32, 98, 101, 32, 97, 32, 74, 83, 79, 78, 32, 111, 98, 106, 101, 99, 116]⟩ 1 = some [(0, 115, false)] := by kernel_rfl
def shape9 : List UInt8 := [12, 6, 0, 0, 0, 0, 0, 0, 0, 115, 116, 114, 105, 110, 103]
theorem op9_115 (name : String) (x : ByteArray) (w : World) : (FmtStop.operand name false 115 false (.iface 9 (.string x))).run Ybaf.prog w = .ok (shape9, FmtStop.pack x.data.toList) w := by kernel_rfl
theorem act9_115 (name : String) (x : Value) (w : World) : (FmtCalls.act name false 115 false (.iface 9 x)).run Ybaf.prog w = .ok (.closed false) w := by kernel_rfl
attribute [local go_sem] call17 guardF fmtObj op9_115 act9_115

set_option maxHeartbeats 400000 in
theorem bad_any (F : Interp) (b : Nat) (s : ByteArray) (w : World) (hF : F.answers w.tape) (hc : w.cell? ⟨b, 0, none⟩ = some (.iface 9 (.string s))) :
    Calls Ybaf.prog 13 #[.string ⟨#[37, 115, 32, 109, 117, 115, 116, 32, 98, 101, 32, 97, 32, 74, 83, 79, 78, 32, 111, 98, 106, 101, 99, 116]⟩, .slice (some ⟨b, 0, none⟩) 1 1] w fun e w' =>
      ∃ k, e = .returned (.iface 34 (.pointer (some ⟨k, 0, none⟩))) ∧ w'.cell? ⟨k, 0, none⟩ = some (.int .i64 400) ∧ Below w.heap.size w w' := by
  have hF' := answers_open hF
  go_enter Ybaf.func13, Ybaf.ntmps13
  go_wp2
  apply rows_value nextTurns
  case hr => go_simp; exact ⟨rfl, rfl⟩
  case h =>
    go_wp2
    go_ret
    exact ⟨w.heap.size, rfl, by simp, ((Below.refl _ w).alloc (Nat.le_refl _) _).drew⟩

theorem at_any (p nm : ByteArray) (m : Value) (w : World) (hp : p.size < 4611686018427387904) (hn : nm.size < 4611686018427387903) :
    Calls Ybaf.prog 14 #[.agg #[.string p, m], .string nm] w fun e w' => ∃ s, e = .returned (.string s) ∧ w' = w.alloc (.cells #[.string p, m] 25) := by
  go_enter Ybaf.func14, Ybaf.ntmps14
  go_wp2
  all_goals (try omega)
  all_goals go_ret
  all_goals exact ⟨_, rfl, rfl⟩

theorem zero27 (w : World) : (zeroValue 27).run Ybaf.prog w = .ok (.slice none 0 0) w := by kernel_rfl

set_option maxHeartbeats 400000 in
theorem given_none (p nm : ByteArray) (m n : Nat) (f : List UInt8 → Option Value) (w : World) (hm : MapIs w m n f) (hn : nm.size ≤ maxLen) (hf : f nm.data.toList = none) :
    Calls Ybaf.prog 12 #[.agg #[.string p, .map (some m)], .string nm] w fun e w' => e = .returned (.tuple #[.slice none 0 0, .bool false]) ∧ ∃ q, w' = (w.alloc (.cells #[.string p, .map (some m)] 25)).drewN q := by
  have hl := (hm.alloc (.cells #[.string p, .map (some m)] 25)).look Ybaf.underlying23 (zero27 _) nm hn
  simp only [hf, Option.getD_none, Option.isSome_none] at hl
  go_enter Ybaf.func12, Ybaf.ntmps12
  go_wp2
  go_quiet (fail)
  go_wp2
  go_ret2
  exact ⟨rfl, _, rfl⟩

set_option maxHeartbeats 400000 in
theorem given_some (p nm s : ByteArray) (m n b cap : Nat) (f : List UInt8 → Option Value) (w : World) (hm : MapIs w m n f) (hn : nm.size ≤ maxLen)
    (hf : f nm.data.toList = some (.slice (some ⟨b, 0, none⟩) s.size cap)) (hb : Lib.Bytes w b 0 s) (hlt : b < w.heap.size) :
    Calls Ybaf.prog 12 #[.agg #[.string p, .map (some m)], .string nm] w fun e w' => e = .returned (.tuple #[.slice (some ⟨b, 0, none⟩) s.size cap, .bool !s.toList == [110, 117, 108, 108]]) ∧ ∃ q, w' = (w.alloc (.cells #[.string p, .map (some m)] 25)).drewN q := by
  have hl := (hm.alloc (.cells #[.string p, .map (some m)] 25)).look Ybaf.underlying23 (zero27 _) nm hn
  simp only [hf, Option.getD_some, Option.isSome_some] at hl
  have hb' : ∀ q, Lib.Bytes ((w.alloc (.cells #[.string p, .map (some m)] 25)).drewN q) b 0 s := fun q i hi => by
    have := hb i hi
    have h2 : (w.alloc (.cells #[.string p, .map (some m)] 25)).cell? ⟨b, 0 + i, none⟩ = w.cell? ⟨b, 0 + i, none⟩ := World.cell?_alloc_lt _ _ _ hlt
    simp only [World.cell?_drewN, h2, this]
  have hcv := fun q => Lib.run_convert_whole (P := Ybaf.prog) ((w.alloc (.cells #[.string p, .map (some m)] 25)).drewN q) 27 5 9 Ybaf.underlying27 Ybaf.underlying5 Ybaf.underlying9 b 0 s (hb' q) cap
  go_enter Ybaf.func12, Ybaf.ntmps12
  go_wp2
  go_quiet (fail)
  go_wp2
  go_ret2
  exact ⟨rfl, _, rfl⟩

set_option maxHeartbeats 400000 in
theorem opt_none (p nm : ByteArray) (m n : Nat) (f : List UInt8 → Option Value) (w : World) (hm : MapIs w m n f) (hn : nm.size ≤ maxLen) (hf : f nm.data.toList = none) :
    Calls Ybaf.prog 8 #[.agg #[.string p, .map (some m)], .string nm] w fun e w' => e = .returned .nilIface ∧ Below w.heap.size w w' := by
  go_enter Ybaf.func8, Ybaf.ntmps8
  go_wp2_with (go_at_call 12; refine (given_none p nm m n f _ (hm.alloc _) hn hf).mono ?_; rintro e w' ⟨rfl, q, rfl⟩)
  go_ret
  exact ⟨rfl, below_drewN (((Below.refl _ w).alloc (Nat.le_refl _) _).alloc (by simp) _) _⟩

theorem bytes_alloc {w : World} {b : Nat} {s : ByteArray} (hb : Lib.Bytes w b 0 s) (hlt : b < w.heap.size) (o : Obj) : Lib.Bytes (w.alloc o) b 0 s := fun i hi => by
  rw [World.cell?_alloc_lt _ _ _ (by exact hlt)]
  exact hb i hi

set_option maxHeartbeats 400000 in
theorem opt_null (p nm s : ByteArray) (m n b cap : Nat) (f : List UInt8 → Option Value) (w : World) (hm : MapIs w m n f) (hn : nm.size ≤ maxLen)
    (hf : f nm.data.toList = some (.slice (some ⟨b, 0, none⟩) s.size cap)) (hb : Lib.Bytes w b 0 s) (hlt : b < w.heap.size) (hnull : (s.toList == [110, 117, 108, 108]) = true) :
    Calls Ybaf.prog 8 #[.agg #[.string p, .map (some m)], .string nm] w fun e w' => e = .returned .nilIface ∧ Below w.heap.size w w' := by
  go_enter Ybaf.func8, Ybaf.ntmps8
  go_wp2_with (go_at_call 12; refine (given_some p nm s m n b cap f _ (hm.alloc _) hn hf (bytes_alloc hb hlt _) (by simp; omega)).mono ?_; rintro e w' ⟨rfl, q, rfl⟩)
  go_ret
  exact ⟨rfl, below_drewN (((Below.refl _ w).alloc (Nat.le_refl _) _).alloc (by simp) _) _⟩

set_option maxHeartbeats 400000 in
theorem opt_obj (p nm s : ByteArray) (m n b cap : Nat) (f : List UInt8 → Option Value) (w : World) (hm : MapIs w m n f) (hn : nm.size ≤ maxLen)
    (hf : f nm.data.toList = some (.slice (some ⟨b, 0, none⟩) s.size cap)) (hb : Lib.Bytes w b 0 s) (hlt : b < w.heap.size) (hnull : (s.toList == [110, 117, 108, 108]) = false)
    (hs : 0 < s.size) (h0 : s[0].toNat = 123) :
    Calls Ybaf.prog 8 #[.agg #[.string p, .map (some m)], .string nm] w fun e w' => e = .returned .nilIface ∧ Below w.heap.size w w' := by
  have hc : w.cell? ⟨b, 0, none⟩ = some (.int .u8 123) := by have := hb 0 hs; rw [h0] at this; exact this
  have hlt1 : b < w.heap.size + 1 := by omega
  clear h0
  go_enter Ybaf.func8, Ybaf.ntmps8
  go_wp2_with (go_at_call 12; refine (given_some p nm s m n b cap f _ (hm.alloc _) hn hf (bytes_alloc hb hlt _) (by simp; omega)).mono ?_; rintro e w' ⟨rfl, q, rfl⟩)
  go_ret
  exact ⟨rfl, below_drewN (((Below.refl _ w).alloc (Nat.le_refl _) _).alloc (by simp) _) _⟩

set_option maxHeartbeats 400000 in
theorem opt_bad (F : Interp) (p nm s : ByteArray) (m n b cap : Nat) (f : List UInt8 → Option Value) (w : World) (hF : F.answers w.tape) (hm : MapIs w m n f) (hp : p.size < 4611686018427387904) (hn : nm.size < 4611686018427387903)
    (hf : f nm.data.toList = some (.slice (some ⟨b, 0, none⟩) s.size cap)) (hb : Lib.Bytes w b 0 s) (hlt : b < w.heap.size) (hnull : (s.toList == [110, 117, 108, 108]) = false)
    (hs : 0 < s.size) (c0 : Int) (hc0 : (s[0].toNat : Int) = c0) (h0 : (c0 == 123) = false) :
    Calls Ybaf.prog 8 #[.agg #[.string p, .map (some m)], .string nm] w fun e w' => ∃ k, e = .returned (.iface 34 (.pointer (some ⟨k, 0, none⟩))) ∧ w'.cell? ⟨k, 0, none⟩ = some (.int .i64 400) ∧ Below w.heap.size w w' := by
  have hc : w.cell? ⟨b, 0, none⟩ = some (.int .u8 c0) := by have := hb 0 hs; rw [hc0] at this; exact this
  have hlt1 : b < w.heap.size + 1 := by omega
  have hn' : nm.size ≤ maxLen := by unfold maxLen; omega
  clear hc0
  go_enter Ybaf.func8, Ybaf.ntmps8
  go_wp2_with (first | (go_at_call 12; refine (given_some p nm s m n b cap f _ (hm.alloc _) hn' hf (bytes_alloc hb hlt _) (by simp; omega)).mono ?_; rintro e w' ⟨rfl, q, rfl⟩) | (go_at_call 14; refine (at_any p nm _ _ hp hn).mono ?_; rintro e w' ⟨st, rfl, rfl⟩))
  refine (bad_any F _ st _ (by exact hF) ?_).mono ?_
  · rw [World.cell?_alloc_at _ _ _ _ (by simp)]; rfl
  rintro e w' ⟨k, rfl, hk, hbel⟩
  go_wp2
  go_ret
  refine ⟨k, rfl, hk, ?_⟩
  refine Below.trans ?_ (hbel.mono (by simp; omega))
  exact below_drewN ((((((Below.refl _ w).alloc (Nat.le_refl _) _).alloc (by simp) _).alloc (by simp; omega) _)).alloc (by simp; omega) _) _

end Go.Proofs.YbulkdblgFmt
