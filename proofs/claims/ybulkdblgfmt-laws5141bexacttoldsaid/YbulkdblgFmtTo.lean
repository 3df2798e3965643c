/-
  A region that draws its order, in a round: brought out of the round.
-/
import Derived.Test.YbulkdblgFmtTp
import Derived.Deep.RegionWith
namespace Go.Proofs.YbulkdblgFmt
open Go.RowKit Go.Shelf

def noDefer (o : Oper) : Bool := match o.op with
  | .defer _ => false
  | _ => true
theorem noDefer_ne {o : Oper} (h : noDefer o = true) : ∀ c, o.op ≠ .defer c := fun c e => by
  simp [noDefer, e] at h

theorem operRound {F : Fence} {n : Nat} {P : Program} {o : Oper} {a : Act} {w : World} {K : Act → World → Prop} {Q : Exit → Act → World → Prop} (l : Nat) (hnd : ∀ c, o.op ≠ .defer c) (h : o.wpIn F n P a w K Q) : o.wpIn (F.inRound l) n P a w K Q := by
  unfold Oper.wpIn at *
  refine ⟨h.1, ?_⟩
  rw [Oper.semAt_eq _ _ _ hnd] at h ⊢
  exact h.2

theorem anyRound {F : Fence} {n : Nat} {P : Program} {md : Region.Mode} {ops : Array Oper} {Q : Exit → Act → World → Prop} (l : Nat) (hnd : ops.toList.all noDefer = true) :
    ∀ (fuel : Nat) (listed : Array Bool) (a : Act) (w : World), wpAnyIn F n P md ops Q fuel listed a w → wpAnyIn (F.inRound l) n P md ops Q fuel listed a w
  | 0, _, _, _, h => h
  | fuel + 1, listed, a, w, h => ⟨h.1, fun i hi => by
      have h2 := h.2 i hi
      unfold wpOpIn at *
      cases ho : ops[i]? with
      | none => rw [ho] at h2; exact anyRound l hnd fuel _ a w h2
      | some o =>
        rw [ho] at h2
        have hm : o ∈ ops.toList := by
          have := Array.mem_of_getElem? ho
          simpa using this
        have hn := noDefer_ne (List.all_eq_true.1 hnd o hm)
        simp only at h2 ⊢
        split
        · rename_i hw
          rw [if_pos hw] at h2
          exact Oper.wpIn_mono (fun a' w' h' => anyRound l hnd fuel _ a' w' h') (operRound l hn h2)
        · rename_i hw
          rw [if_neg hw] at h2
          exact ⟨h2.1, anyRound l hnd fuel _ _ _ h2.2⟩⟩

theorem region_round {F : Fence} {n : Nat} {P : Program} {ops : Array Oper} {Q : Exit → Act → World → Prop} {id l : Nat} {a : Act} {w : World} (hm : P.follows .mixedOrders = true) (hnd : ops.toList.all noDefer = true)
    (h : wpAnyIn F n P .any ops Q ops.size (Array.replicate ops.size false) a w.drew) : (Code.region id ops true).wpIn (F.inRound l) n P Q a w :=
  wpIn_region_any hm (anyRound l hnd _ _ _ _ h)
end Go.Proofs.YbulkdblgFmt
