/-
  The texts of the error: fmt.Sprintf, dependency.String, strings.Join, fmt.Errorf.
-/
import Derived.Test.YbulkdblgFmtTm
import Derived.WalkSpells
import Derived.WalkLawsBesides
import Derived.Deep.QuietTactic
import Derived.BigQuiet
import Derived.Stop.CallBack
import Derived.Stop.IfaceNil
import Derived.Stop.Told
import Derived.Stop.FmtTextKit
import Derived.Stop.FmtQuoteTie
import Derived.RowsInLaws
import GoSem.ClaimData
namespace Go.Proofs.YbulkdblgFmt
open Go.RowKit Go.Extern.Stop Go.Stop Go.Extern

theorem call17 (args : Array Value) (w : World) : (callFunc 17 args).run Ybaf.prog w = (FmtCalls.sprintf #[9, 87] #[9] args).run Ybaf.prog w :=
  run_callFunc_next Ybaf.func17 (by kernel_rfl) (by kernel_rfl) (by kernel_rfl) args w
theorem guardF (name : String) (w : World) : (FmtStop.guard name).run Ybaf.prog w = .ok () w := by kernel_rfl
theorem nextTurns : Extern.next FmtCalls.turnsRow = some (FmtCalls.begun #[] #[]) := by kernel_rfl
def fmtA : ByteArray := ⟨#[37, 113, 32, 101, 120, 99, 108, 117, 100, 101, 115, 32, 37, 113]⟩
def fmtB : ByteArray := ⟨#[37, 113, 32, 37, 115, 32, 37, 113]⟩
theorem pA : FmtStop.printed? ⟨#[37, 113, 32, 101, 120, 99, 108, 117, 100, 101, 115, 32, 37, 113]⟩ 2 = some [(0, 113, false), (1, 113, false)] := by kernel_rfl
theorem pB : FmtStop.printed? ⟨#[37, 113, 32, 37, 115, 32, 37, 113]⟩ 3 = some [(0, 113, false), (1, 115, false), (2, 113, false)] := by kernel_rfl
def shape9 : List UInt8 := [12, 6, 0, 0, 0, 0, 0, 0, 0, 115, 116, 114, 105, 110, 103]
theorem op9_115 (name : String) (x : ByteArray) (w : World) : (FmtStop.operand name false 115 false (.iface 9 (.string x))).run Ybaf.prog w = .ok (shape9, FmtStop.pack x.data.toList) w := by kernel_rfl
theorem act9_115 (name : String) (x : Value) (w : World) : (FmtCalls.act name false 115 false (.iface 9 x)).run Ybaf.prog w = .ok (.closed false) w := by kernel_rfl
theorem op9_113 (name : String) (x : ByteArray) (w : World) : (FmtStop.operand name false 113 false (.iface 9 (.string x))).run Ybaf.prog w = .ok (shape9, FmtStop.pack x.data.toList) w := by kernel_rfl
theorem act9_113 (name : String) (x : Value) (w : World) : (FmtCalls.act name false 113 false (.iface 9 x)).run Ybaf.prog w = .ok (.closed false) w := by kernel_rfl
attribute [local go_sem] call17 guardF pA pB op9_115 act9_115 op9_113 act9_113

theorem told_len (F : Interp) {name : String} {reading : List (List UInt8)} {s : List UInt8} {N : Nat} (h : FmtText.text name reading = some s) (hl : s.length ≤ N) (hN : N < 2 ^ 63) : (FmtStop.textOf (F.told name reading 0)).size ≤ N := by
  have h1 := told_string F h (by omega)
  have e : (FmtStop.textOf (F.told name reading 0)).size = (F.told.string name reading 0).length := by simp [FmtStop.textOf, Interp.string, ByteArray.size]
  rw [e, h1]; exact hl
theorem parseB : (FmtText.parse [37, 113, 32, 37, 115, 32, 37, 113]).map FmtText.glue = some [.verb {} 113, .lit [32], .verb {} 115, .lit [32], .verb {} 113] := by kernel_rfl
theorem str9 (x : List UInt8) (hx : x.length < 2 ^ 64) : FmtText.operand shape9 (FmtStop.pack x) = some (.str [115, 116, 114, 105, 110, 103] x) := FmtText.operand_str_at (n := [6, 0, 0, 0, 0, 0, 0, 0, 115, 116, 114, 105, 110, 103]) rfl (by kernel_rfl) x hx
theorem nm_len (k : Fin 26) : (nm k).data.toList.length = 1 := rfl

theorem textB (a b : Fin 26) (v : List UInt8) (hv : v.length ≤ 8) : ∃ s, FmtText.text "fmt.Sprintf" [[37, 113, 32, 37, 115, 32, 37, 113], shape9, FmtStop.pack (nm a).data.toList, shape9, FmtStop.pack v, shape9, FmtStop.pack (nm b).data.toList] = some s ∧ s.length ≤ 200 := by
  have h1 := nm_len a
  have h2 := nm_len b
  have q1 := FmtText.quote_length_le (nm a).data.toList
  have q2 := FmtText.quote_length_le (nm b).data.toList
  rw [FmtText.text_sprintf_glued parseB (FmtText.operands_cons (str9 _ (by omega)) (FmtText.operands_cons (str9 _ (by omega)) (FmtText.operands_cons (str9 _ (by omega)) FmtText.operands_nil)))]
  simp only [FmtText.render, FmtText.printArg_q_str, FmtText.printArg_s_str]
  refine ⟨_, rfl, ?_⟩
  simp
  omega

theorem lenB (F : Interp) (a b : Fin 26) (v : List UInt8) (hv : v.length ≤ 8) : (FmtStop.textOf (F.told "fmt.Sprintf" [[37, 113, 32, 37, 115, 32, 37, 113], shape9, FmtStop.pack (nm a).data.toList, shape9, FmtStop.pack v, shape9, FmtStop.pack (nm b).data.toList] 0)).size ≤ 200 := by
  obtain ⟨s, h1, h2⟩ := textB a b v hv
  exact told_len F h1 h2 (by omega)

def shape53 : List UInt8 := [12, 18, 0, 0, 0, 0, 0, 0, 0, 97, 117, 116, 104, 122, 46, 99, 111, 109, 112, 117, 116, 101, 100, 84, 101, 114, 109]
theorem op53_113 (name : String) (x : ByteArray) (w : World) : (FmtStop.operand name false 113 false (.iface 53 (.string x))).run Ybaf.prog w = .ok (shape53, FmtStop.pack x.data.toList) w := by kernel_rfl
theorem act53_113 (name : String) (x : Value) (w : World) : (FmtCalls.act name false 113 false (.iface 53 x)).run Ybaf.prog w = .ok (.closed false) w := by kernel_rfl
theorem str53 (x : List UInt8) (hx : x.length < 2 ^ 64) : FmtText.operand shape53 (FmtStop.pack x) = some (.str [97, 117, 116, 104, 122, 46, 99, 111, 109, 112, 117, 116, 101, 100, 84, 101, 114, 109] x) := FmtText.operand_str_at (n := [18, 0, 0, 0, 0, 0, 0, 0, 97, 117, 116, 104, 122, 46, 99, 111, 109, 112, 117, 116, 101, 100, 84, 101, 114, 109]) rfl (by kernel_rfl) x hx
theorem parseA : (FmtText.parse [37, 113, 32, 101, 120, 99, 108, 117, 100, 101, 115, 32, 37, 113]).map FmtText.glue = some [.verb {} 113, .lit [32, 101, 120, 99, 108, 117, 100, 101, 115, 32], .verb {} 113] := by kernel_rfl
theorem textA (a b : Fin 26) : ∃ s, FmtText.text "fmt.Sprintf" [[37, 113, 32, 101, 120, 99, 108, 117, 100, 101, 115, 32, 37, 113], shape9, FmtStop.pack (nm a).data.toList, shape53, FmtStop.pack (nm b).data.toList] = some s ∧ s.length ≤ 200 := by
  have h1 := nm_len a
  have h2 := nm_len b
  have q1 := FmtText.quote_length_le (nm a).data.toList
  have q2 := FmtText.quote_length_le (nm b).data.toList
  rw [FmtText.text_sprintf_glued parseA (FmtText.operands_cons (str9 _ (by omega)) (FmtText.operands_cons (str53 _ (by omega)) FmtText.operands_nil))]
  simp only [FmtText.render, FmtText.printArg_q_str]
  refine ⟨_, rfl, ?_⟩
  simp
  omega
theorem lenA (F : Interp) (a b : Fin 26) : (FmtStop.textOf (F.told "fmt.Sprintf" [[37, 113, 32, 101, 120, 99, 108, 117, 100, 101, 115, 32, 37, 113], shape9, FmtStop.pack (nm a).data.toList, shape53, FmtStop.pack (nm b).data.toList] 0)).size ≤ 200 := by
  obtain ⟨s, h1, h2⟩ := textA a b
  exact told_len F h1 h2 (by omega)

set_option maxHeartbeats 400000 in
theorem string_any (F : Interp) (a b : Fin 26) (e : Bool) (w : World) (hF : F.told.answers w.tape) :
    Calls Ybaf.prog 18 #[.agg #[.string (nm a), .string (nm b), .bool e]] w fun r w' => ∃ s : ByteArray, r = .returned (.string s) ∧ s.size ≤ 200 ∧ Below w.heap.size w w' := by
  have hF' := answers_open hF
  cases e
  all_goals
    go_enter Ybaf.func18, Ybaf.ntmps18
    go_wp2
    apply rows_value nextTurns
    case hr => go_simp; exact ⟨rfl, rfl⟩
    case h =>
      go_wp2
      go_ret
      exact ⟨_, rfl, lenB F a b _ (by decide), (((Below.refl _ w).alloc (Nat.le_refl _) _).alloc (by simp) _).drew⟩

theorem call24 (args : Array Value) (w : World) : (callFunc 24 args).run Ybaf.prog w = ((FmtStop.errorf #[9, 87] #[32] args).run Ybaf.prog w).andThen fun v w => .ok (.value v) w :=
  run_callFunc_extern Ybaf.func24 (by kernel_rfl) (by kernel_rfl) (by kernel_rfl) (by kernel_rfl) args w
theorem ptrE (w : World) : (FmtStop.ptrTo "errors.errorString").run Ybaf.prog w = .ok 101 w := by kernel_rfl
theorem elemE (w : World) : (elemOf 101).run Ybaf.prog w = .ok 103 w := by kernel_rfl
theorem pE (w : World) : (FmtDoors.printed ⟨#[114, 101, 108, 97, 116, 105, 111, 110, 32, 37, 113, 32, 100, 101, 112, 101, 110, 100, 115, 32, 111, 110, 32, 105, 116, 115, 101, 108, 102, 32, 116, 104, 114, 111, 117, 103, 104, 32, 34, 98, 117, 116, 32, 110, 111, 116, 34, 58, 32, 37, 115]⟩ 2).run Ybaf.prog w = .ok [(0, 113, false), (1, 115, false)] w := by kernel_rfl
theorem op9_115w (name : String) (x : ByteArray) (w : World) : (FmtStop.operand name true 115 false (.iface 9 (.string x))).run Ybaf.prog w = .ok (shape9, FmtStop.pack x.data.toList) w := by kernel_rfl
theorem op9_113w (name : String) (x : ByteArray) (w : World) : (FmtStop.operand name true 113 false (.iface 9 (.string x))).run Ybaf.prog w = .ok (shape9, FmtStop.pack x.data.toList) w := by kernel_rfl
attribute [local go_sem] call24 pE op9_115w op9_113w ptrE elemE

set_option maxHeartbeats 400000 in
theorem errorf_any (F : Interp) (b : Nat) (x y : ByteArray) (w : World) (hF : F.answers w.tape) (h0 : w.cell? ⟨b, 0, none⟩ = some (.iface 9 (.string x))) (h1 : w.cell? ⟨b, 1, none⟩ = some (.iface 9 (.string y))) :
    Calls Ybaf.prog 19 #[.string ⟨#[114, 101, 108, 97, 116, 105, 111, 110, 32, 37, 113, 32, 100, 101, 112, 101, 110, 100, 115, 32, 111, 110, 32, 105, 116, 115, 101, 108, 102, 32, 116, 104, 114, 111, 117, 103, 104, 32, 34, 98, 117, 116, 32, 110, 111, 116, 34, 58, 32, 37, 115]⟩, .slice (some ⟨b, 0, none⟩) 2 2] w fun r w' => (∃ t v, r = .returned (.iface t v)) ∧ Below w.heap.size w w' := by
  have hF' := answers_open hF
  go_enter Ybaf.func19, Ybaf.ntmps19
  go_wp2
  go_ret
  exact ⟨⟨_, _, rfl⟩, ((Below.refl _ w).alloc (Nat.le_refl _) _).drew⟩
end Go.Proofs.YbulkdblgFmt
