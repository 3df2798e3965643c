/-
  dependsOn.
-/
import Derived.Test.YbulkdblgFmtTv
namespace Go.Proofs.YbulkdblgFmt
open Go.RowKit Go.Shelf
attribute [local go_sem] Oper.semAt_some

theorem str_beq : ∀ a b : Fin 26, ((nm a).toList == (nm b).toList) = decide (a = b) := by decide +kernel
theorem Graph.closed {n0 : Nat} {w : World} {tb : Nat} {R : Fin 26 → Prop} {L : Fin 26 → List Leaf} (h : Graph n0 w tb R L) {a b : Fin 26} (ha : R a) (hr : Reach L a b) : R b := by
  obtain ⟨mb, n, f, rb, h1, h2, h3, h4, h5⟩ := h
  obtain ⟨n, hn⟩ := hr
  induction n generalizing b with
  | zero => have : a = b := hn; rw [← this]; exact ha
  | succ n ih =>
    obtain ⟨c, hc, st, he⟩ := hn
    exact (h5 c (ih hc)).2.2.2.2 b st he
theorem cells3_new (W : World) (a b c : Value) : ∀ (j : Nat) (u : Value), ([a, b, c] : List Value)[j]? = some u → (W.alloc (.cells #[a, b, c] 84)).cell? (Addr.add ⟨W.heap.size, 0, none⟩ j) = some u := fun j u hu => by
  rw [WideShapes.add_plain, Nat.zero_add, World.cell?_alloc_at (w := W) _ _ W.heap.size j rfl]
  simpa using hu
theorem field84 (a b c : Value) (W : World) : (Instr.field 84 (.agg #[a, b, c]) 0).run Ybaf.prog W = .ok a W := by kernel_rfl
theorem cutP {G P : Prop} (k : P → G) (h : P) : G := k h
theorem wpListIn_append_run {F : Fence} {n : Nat} {P : Program} {w : World} {ops : Array Oper} {rest : List Oper} {o : Oper} {a : Act} {Q : Exit → Act → World → Prop} (hgd : o.guard = none) (s x : Operand) (t tx : TypeId)
    (ho : o.op = .call { callee := .builtin .append, args := #[s, x], argTypes := #[t, tx] }) (v xv : Value) (hs : a.eval s = v) (hx : a.eval x = xv) (v' : Value) (w' : World)
    (hrun : ∀ ty, (Builtin.append_ #[t, tx] ty #[v, xv]).run P w = .ok v' w') (h : wpListIn F n P ops Q rest (a.put o.dst v') w') : wpListIn F n P ops Q (o :: rest) a w := by
  refine wpListIn_plain hgd fun K hK => ?_
  unfold Oper.wpIn
  refine ⟨?_, ?_⟩
  · simp [Oper.about, ho, resolve, Target.leads, Sem.run_pure]
  · rw [Oper.semAt_plain F _ _ (by rw [ho]; intro c hc'; cases hc')]
    simp [execOp, ho, resolve, invoke, builtin, hs, hx, hrun, Result.andThen]
    exact hK _ _ h
theorem assert53_some (k : Fin 26) (W : World) : (Instr.typeAssert (tv (some k)) 57 53 true).run Ybaf.prog W = .ok (.tuple #[.string (nm k), .bool true]) W := by kernel_rfl
theorem assert53_none (W : World) : (Instr.typeAssert (tv none) 57 53 true).run Ybaf.prog W = .ok (.tuple #[.string ⟨#[]⟩, .bool false]) W := by kernel_rfl
theorem Kp.putObj {n0 l : Nat} {W : World} {o o' : Obj} (hl : n0 ≤ l) (ho : W.heap[l]? = some o) (hc : o.isCells = false) : Kp n0 W (W.putObj l o') := by
  have hlt := (Array.getElem?_eq_some_iff.1 ho).1
  refine ⟨(Below.refl _ W).grown (grownBy_putObj' W l o') (by omega) (fun j e => by cases e; exact hl), fun b C hC => ?_⟩
  have : b ≠ l := fun e => by rw [e, ho] at hC; cases hC; cases hc
  exact ((grownBy_putObj' W l o').block b (Array.getElem?_eq_some_iff.1 hC).1 (fun e => this (by cases e; rfl))).trans hC
theorem zero61 (W : World) : (zeroValue 61).run Ybaf.prog W = .ok (.pointer none) W := by kernel_rfl
theorem zero84 (W : World) : (zeroValue 84).run Ybaf.prog W = .ok dep0 W := by kernel_rfl

set_option maxRecDepth 100000 in
set_option maxHeartbeats 1000000 in
theorem depends_in (n : Nat) (hn : 3 ≤ n) (tb : Nat) (R : Fin 26 → Prop) (L : Fin 26 → List Leaf) (fr on : Fin 26) (w : World)
    (hG : Graph w.heap.size w tb R L) (hfr : R fr) :
    CallsIn Fence.wide n Ybaf.prog 16 #[.pointer (some ⟨tb, 0, none⟩), .string (nm fr), .string (nm on)] w fun e w' => Below w.heap.size w w' ∧ ((¬ Reach L fr on ∧ e = .returned (.slice none 0 0)) ∨ (Reach L fr on ∧ ∃ g cap PD, e = .returned (.slice (some ⟨g, 0, none⟩) (List.length PD) cap) ∧ g < w'.heap.size ∧ Triples w' g PD ∧ List.length PD ≤ 26)) := by
  have hdd : ∀ k : Nat, (Fence.wide.depth.isSome = true → 1 ≤ k) := fun k h => by cases h
  have hmm := @run_makeMap Ybaf.prog
  obtain ⟨wm, hup, hM, hturn⟩ := (MapIs.made w).update (t := 90) Ybaf.underlying90 (by decide) (nm fr) (nm_size fr) dep0
  refine callsIn_of_wp_marks Ybaf.func16 rfl trivial ?_ rfl
  simp only [Ybaf.ntmps16, List.size_toArray, List.length_cons, List.length_nil, Nat.reduceAdd, Nat.reduceSub, Array.replicate_succ, Array.replicate_zero, List.push_toArray, List.append_toArray, List.nil_append, List.cons_append]
  gi_wp2
  refine wpIn_loop_ghost (fun g a W => ∃ (ds : List Deferred) (us : Nat → Value) (V : List (Fin 26)) (h : Nat) (qv : Value) (f : List UInt8 → Option Value), a = { tmps := #[.pointer (some ⟨tb, 0, none⟩), .string (nm fr), .string (nm on), undef, undef, undef, .slice none 0 0, .pointer (some ⟨wm.heap.size, 0, none⟩), .pointer (some ⟨wm.heap.size + 1 + 1, 0, none⟩), us 9, us 10, us 11, us 12, us 13, us 14, us 15, us 16, us 17, .map (some w.heap.size), .string (nm fr), .agg #[.string ⟨#[]⟩, .string ⟨#[]⟩, .bool false], .map (some w.heap.size), .string (nm fr), .slice (some ⟨wm.heap.size + 1, 0, none⟩) 1 1, us 24, us 25, us 26, us 27, us 28, us 29, us 30, us 31, us 32, us 33, us 34, us 35, us 36, us 37, us 38, us 39, us 40, us 41, us 42, us 43, us 44, us 45, us 46, us 47, us 48, us 49, us 50, us 51, us 52, us 53, us 54, us 55, us 56, us 57, us 58, us 59, us 60, us 61, us 62, us 63, us 64, us 65, us 66, us 67, us 68, us 69, us 70, us 71, us 72, us 73, us 74, us 75, us 76, us 77, us 78, us 79, us 80, undef, undef, undef, undef, undef, undef, undef, undef, undef, undef, undef, undef, undef, undef, undef, undef, undef, undef, undef, undef, undef], defers := ds } ∧ g = 26 - h ∧ Marks (w.heap.size + 1) W ds ∧ Search L fr on V h ∧ St fr w wm.heap.size (wm.heap.size + 1 + 1) V (V.drop h) f qv W) 26 ?h0 ?round
  case h0 =>
    exact ⟨[], fun _ => undef, [fr], 0, _, _, rfl, rfl, trivial, Search.start L fr on, St.start fr hM hturn⟩
  case round =>
    rintro g a W ⟨ds, us, V, h, qv, f, rfl, rfl, hds, hS, hst⟩
    have hstr : ∀ a b : Fin 26, ((nm a).toList == (nm b).toList) = decide (a = b) := str_beq
    have c7 := hst.box7.cell
    have c8 := hst.box8.cell
    have f8 := hst.box8.frozen
    have hbel := hst.bel
    have hQ := hst.que
    have hG1 := hG.below hbel
    cases hdrop : V.drop h with
    | nil =>
      rw [hdrop] at hQ
      obtain ⟨g1, off1, cap1, rfl, q1, q2, q3, q4, q5⟩ := hQ
      have hend : h = V.length := by have := congrArg List.length hdrop; simp at this; have := hS.le; omega
      gi_wp2
      refine leaves_marks (v := .slice none 0 0) (B := w.heap.size) ds W hbel.size (hds.mono (by omega)) (fun W' hW' _ => ⟨results_tmp (t := 6) rfl _ _ _, hbel.trans hW', .inl ⟨hS.empty hend, rfl⟩⟩)
    | cons r rest =>
      rw [hdrop] at hQ hst
      obtain ⟨g1, off1, cap1, rfl, q1, q2, q3, q4, q5⟩ := hQ
      obtain ⟨_, _, q0, o2, c2, hsl, hst2⟩ := hst.pop
      by_cases hro' : r = on
      · subst hro'
        have hneq : ((nm r).toList == (nm r).toList) = true := by rw [hstr]; simp
        obtain ⟨i0, hi, hz0, hz1, hz2⟩ := info_parts info84
        have hrV : r ∈ V := List.mem_of_mem_drop (by rw [hdrop]; exact List.mem_cons_self)
        have hl26 := hS.len
        have hon : Reach L fr r := hS.reach r hrV
        have hfrV : fr ∈ V := List.mem_of_getElem? hS.first
        have hix := List.idxOf_lt_length_iff.2 hrV
        have hp0 := Path.start hst.map hst.box7 hds hbel (Nat.lt_trans hst.hq hst.box8.lt)
        have hdeps := hideT hst.deps
        have Hp0 := hideT hp0
        have Hhas := hideT hst.has
        clear hst hst2 hp0 hds hG hG1 q4 q5 hM hS
        gi_wp2
        gi_loopg [16, 17] (V.idxOf r) (fun k pv rv wr => ∃ (PD : List Dep) (x : Fin 26), rv = .string (nm x) ∧ x ∈ V ∧ k = V.idxOf x ∧ PD.length + k ≤ 26 ∧ Path w wm.heap.size V f ds PD pv wr)
        case atStart => exact ⟨[], r, rfl, hrV, rfl, by simp; omega, unhideT Hp0⟩
        case round =>
          obtain ⟨PD, x, rfl, hxV, rfl, hle, hP⟩ := hrel
          have e7 := hP.box7.cell
          have y7 := hP.box7.lt
          by_cases hxf : x = fr
          · subst hxf
            have hxx : ((nm x).toList == (nm x).toList) = true := by rw [hstr]; simp
            obtain ⟨gp, cp, cur, rfl, hgp, hbp, hcp, hTp⟩ := hP.opened
            have hrev := hideT ((callsIn_wide (n := n - 1)).2 (reverse_any gp cp PD cur wr hbp hcp (by omega) hTp))
            have HP := hideT hP
            have Hbp := hideT hbp
            clear hTp hbp hP
            gi_wp2_with (first | ((try refine ⟨trivial, hdd _, ?_⟩); gi_at_call 23; refine (unhideT hrev).mono ?_; clear hrev; rintro e W2 ⟨⟨v, rfl⟩, hg2, ⟨C2, hC2⟩, PD2, hl2, hT2⟩))
            have hP := unhideT HP
            have hbp : wr.heap[gp]? = some (.cells cur 84 (0, 0)) := unhideT Hbp
            have hb2 : Below w.heap.size w W2 := hP.bel.grown hg2 hP.bel.size (fun k e => by cases e; omega)
            have hm2 : Marks (w.heap.size + 1) W2 ds := hP.marks.keep ((KeepsOthers.of_grownBy hg2 (fun j o e ho => by cases e; rw [hbp] at ho; cases ho; rfl)).from _)
            refine leaves_marks (v := .slice (some ⟨gp, 0, none⟩) PD.length cp) (B := w.heap.size) ds W2 hb2.size (hm2.mono (by omega)) (fun W' hW' hsc => ⟨results_tmp (t := 6) rfl _ _ _, hb2.trans hW', .inr ⟨hon, gp, cp, PD2, by rw [hl2], ?_, hT2.same hC2 (hsc _ _ _ _ hC2), by omega⟩⟩)
            exact (Array.getElem?_eq_some_iff.1 (hsc _ _ _ _ hC2)).1
          · have hxx : ((nm x).toList == (nm fr).toList) = false := by rw [hstr]; simpa using hxf
            rcases unhideT hdeps x hxV with ⟨e, _⟩ | ⟨p, e, hfx, hpV, hpi⟩
            · exact absurd e hxf
            have hlk := fun (W' : World) (hb' : W'.heap[w.heap.size]? = wr.heap[w.heap.size]?) => (hP.map.of_block hb').look1 Ybaf.underlying90 (zero84 _) (nm x) (nm_size x)
            simp only [hfx, Option.getD_some, depV] at hlk
            have hl0 := hlk wr rfl
            have hlk2 := hideT hlk
            have Hrow := hideT hP.row
            have HP := hideT hP
            clear hlk hP
            gi_wp2_with (gi_at_builtin; refine wpListIn_append_own _ rfl _ _ 79 rfl (w.heap.size + 1) 84 i0 dep0 3 40 Ybaf.underlying79 hi hz0 hz1 hz2 rfl (by decide) _ _ _ rfl ((unhideT Hrow).alloc _) ⟨wr.heap.size, 0, none⟩ 1 1 [.string (nm p), .string (nm x), .bool e] rfl rfl ?hc ?h1 ?b1 ?b2 ?b3 ?nxt)
            case hc => exact cells3_new wr _ _ _
            case h1 => simp [Value.oneCell']
            case b1 => unfold maxLen; omega
            case b2 => omega
            case b3 => have := (unhideT HP).map.lt; simp; omega
            case nxt =>
              intro v' w1 hown hgrow hnil
              have hP2 := (unhideT HP).push (d := (p, x, e)) hown hgrow hnil
              have e72 := hP2.box7.cell
              have hl2 := hP2.map.look1 Ybaf.underlying90 (zero84 _) (nm x) (nm_size x)
              simp only [hfx, Option.getD_some, depV] at hl2
              have HP2 := hideT hP2
              have hfld := field84
              clear hP2 hown hgrow hnil
              gi_wp2
              gi_roundg (V.idxOf p)
              case rel => exact ⟨PD ++ [(p, x, e)], p, rfl, hpV, rfl, by simp; omega, unhideT HP2⟩
              case measure => exact hpi
      · have hneq : ((nm r).toList == (nm on).toList) = false := by rw [hstr]; simpa using hro'
        obtain ⟨mb, nmb, fG, rb, g1', g2, g3, g4, g5⟩ := hG1
        have hrR : R r := hG.closed hfr (hS.reach r (List.mem_of_mem_drop (by rw [hdrop]; exact List.mem_cons_self)))
        obtain ⟨r1, r2, r3, ⟨tv0, th, r4, r5⟩, r6⟩ := g5 r hrR
        have hl := fun W' (hb' : Below W.heap.size W W') => (g4.of_block (hb'.block mb (by have := hbel.size; omega))).look1 Ybaf.underlying44 (zero61 _) (nm r) (nm_size r)
        simp only [r1, Option.getD_some] at hl
        have z1 : g1 < W.heap.size := by obtain ⟨C, sp, q2⟩ := q2; exact (Array.getElem?_eq_some_iff.1 q2).1
        have z2 : tb < W.heap.size := Nat.lt_of_lt_of_le g1' hbel.size
        have z3 : rb r < W.heap.size := Nat.lt_of_lt_of_le r2 hbel.size
        have z4 := hst.box7.lt
        have z5 := hst.box8.lt
        have hl0 := hl W.drew (Below.refl _ _).drew
        have hl1 := hl (W.alloc (.cells #[.pointer none] 61)).drew ((Below.refl _ _).alloc (Nat.le_refl _) _).drew
        have hsz : w.heap.size + 1 ≤ wm.heap.size := by have := (World.mapTurned.grown hturn).size; simpa using this
        have z6 : rb r ≠ wm.heap.size + 1 + 1 := by omega
        have z7 : W.heap.size ≠ wm.heap.size + 1 + 1 := by omega
        have Hst := hideT hst
        have Hst2 := hideT hst2
        clear hst hst2
        have hlv := hideT (leaves_in Fence.wide (n - 1) trivial rfl tv0 r5.iface)
        gi_wp2
        apply cutP
        · intro X
          gi_region
          all_goals exact X
        · gi_wp2_with (first | ((try refine ⟨trivial, hdd _, ?_⟩); gi_at_call 15; refine (unhideT hlv _).mono ?_; clear hlv; rintro e W2 ⟨rfl, rfl⟩))
          obtain ⟨W3, hW3⟩ : ∃ W3, (((W.setCell ⟨wm.heap.size + 1 + 1, 0, none⟩ (.slice (some ⟨g1, o2, none⟩) rest.length c2)).alloc (.cells #[.pointer (some ⟨rb r, 0, none⟩)] 61)).alloc (.cells #[tv0] 57)).drew = W3 := ⟨_, rfl⟩
          rw [hW3]
          have hS3 : St fr w wm.heap.size (wm.heap.size + 1 + 1) V rest f (.slice (some ⟨g1, o2, none⟩) rest.length c2) W3 := by rw [← hW3]; exact (((unhideT Hst2).alloc _).alloc _).drew
          have hb9 : Boxed W3 W.heap.size 61 (.pointer (some ⟨rb r, 0, none⟩)) := by
            rw [← hW3]
            have := (Boxed.new (W.setCell ⟨wm.heap.size + 1 + 1, 0, none⟩ (.slice (some ⟨g1, o2, none⟩) rest.length c2)) 61 (.pointer (some ⟨rb r, 0, none⟩))).alloc (.cells #[tv0] 57)
            rw [World.size_setCell] at this
            exact this
          have hbt : W3.cell? ⟨W.heap.size + 1, 0, none⟩ = some tv0 := by
            rw [← hW3]
            have := (Boxed.new ((W.setCell ⟨wm.heap.size + 1 + 1, 0, none⟩ (.slice (some ⟨g1, o2, none⟩) rest.length c2)).alloc (.cells #[.pointer (some ⟨rb r, 0, none⟩)] 61)) 57 tv0).cell
            simpa using this
          have hs3 : W3.heap.size = W.heap.size + 1 + 1 := by rw [← hW3]; simp
          have hko : KeepsOthers W W3 := by rw [← hW3]; exact (((KeepsOthers.setCell _ _ _).trans (KeepsOthers.alloc _ _)).trans (KeepsOthers.alloc _ _)).trans (KeepsOthers.drew _)
          have hT3 : IsTm w.heap.size W3 th tv0 (L r) := by
            have hbz := hbel.size
            rw [← hW3]; exact r5.below ((((Below.refl _ W).setCell (p := ⟨wm.heap.size + 1 + 1, 0, none⟩) (by show w.heap.size ≤ wm.heap.size + 1 + 1; omega) _).alloc (by simp; omega) _).alloc (by simp; omega) _).drew
          have hn3 : w.heap.size < W3.heap.size := by have := hbel.size; omega
          have hrV : r ∈ V := List.mem_of_mem_drop (by rw [hdrop]; exact List.mem_cons_self)
          have hVn := hS.nodup
          have hhl : h + 1 ≤ V.length := by have := congrArg List.length hdrop; simp at this; omega
          have hdr : V.drop (h + 1) = rest := by rw [← List.drop_drop, hdrop]; rfl
          clear hW3 Hst2
          refine wpIn_rangeFunc_ownG (α := Leaf) rfl (by omega) (gf := 21) (lb := #[.pointer (some ⟨W.heap.size + 1, 0, none⟩)]) rfl trivial (enters_of Ybaf.func21 (by kernel_rfl) rfl)
            (leaves_stops Fence.wide rfl (n - 1) trivial trivial rfl (W.heap.size + 1) w.heap.size th tv0 (L r) W3 (by omega) (by omega) hbt hT3) Kp.trans ?hKb (Below.refl _ _) (fun _ => rfl)
            (Bd fr w wm.heap.size (wm.heap.size + 1 + 1) V h W.heap.size (rb r) W3) (fun _ _ _ => False) (Bd.own hn3) (fun _ _ _ _ _ hs _ _ => hs) ⟨f, _, by rw [List.foldl_nil, hdr]; exact hS3, hb9, KeepsFrom.refl _ _⟩
            (fun x => { tmps := #[.pointer (some ⟨tb, 0, none⟩), .string (nm fr), .string (nm on), undef, undef, undef, .slice none 0 0, .pointer (some ⟨wm.heap.size, 0, none⟩), .pointer (some ⟨wm.heap.size + 1 + 1, 0, none⟩), .pointer (some ⟨W.heap.size, 0, none⟩), tv x.1, .int .u8 (x.2 : Int), us 12, us 13, us 14, us 15, us 16, us 17, .map (some w.heap.size), .string (nm fr), .agg #[.string ⟨#[]⟩, .string ⟨#[]⟩, .bool false], .map (some w.heap.size), .string (nm fr), .slice (some ⟨wm.heap.size + 1, 0, none⟩) 1 1, .slice (some ⟨g1, off1, none⟩) (rest.length + 1) cap1, .int .i64 ((rest.length : Int) + 1), .bool true, .bool true, .slice (some ⟨g1, off1, none⟩) (rest.length + 1) cap1, .pointer (some ⟨g1, off1, none⟩), .string (nm r), .string (nm on), .bool true, .bool true, .pointer (some ⟨tb, 0, none⟩), .pointer (some ⟨tb, 0, none⟩), .pointer (some ⟨tb, 2, none⟩), .map (some mb), .slice (some ⟨g1, off1, none⟩) (rest.length + 1) cap1, .pointer (some ⟨g1, off1, none⟩), .string (nm r), .pointer (some ⟨rb r, 0, none⟩), .slice (some ⟨g1, off1, none⟩) (rest.length + 1) cap1, .slice (some ⟨g1, o2, none⟩) rest.length c2, .pointer (some ⟨rb r, 0, none⟩), .pointer (some ⟨rb r, 0, none⟩), .pointer (some ⟨rb r, 2, none⟩), tv0, .func (.func 21) #[] #[.pointer (some ⟨W.heap.size + 1, 0, none⟩)], tv x.1, .int .u8 (x.2 : Int), us 51, us 52, us 53, us 54, us 55, us 56, us 57, us 58, us 59, us 60, us 61, us 62, us 63, us 64, us 65, us 66, us 67, us 68, us 69, us 70, us 71, us 72, us 73, us 74, us 75, us 76, us 77, us 78, us 79, us 80, undef, undef, undef, undef, undef, undef, undef, undef, undef, undef, undef, undef, undef, undef, undef, undef, undef, undef, undef, undef, undef], defers := [] }) ?assign ?body ?done ?stop
          case hKb => exact fun W l o o' hl ho hc _ => Kp.putObj (by omega) ho hc
          case assign =>
            intro l x W K hK
            gi_wp2
            exact hK
          case body =>
            rintro l pre ⟨ox, st⟩ W' hBd hlen
            obtain ⟨f', qv', h1, h2, h3⟩ := hBd
            have d7 := h1.box7.cell
            have d8 := h1.box8.cell
            have e8 := h1.box8.frozen
            have d9 := h2.cell
            have y7 := h1.box7.lt
            have y8 := h1.box8.lt
            have y9 := h2.lt
            have hlk := fun s hs => h1.map.look Ybaf.underlying90 (zero84 _) s hs
            cases ox with
            | none =>
              have hl0 := hlk ⟨#[]⟩ (by decide)
              have := h1.emp
              simp only [this, Option.getD_none, Option.isSome_none] at hl0
              have has := assert53_none
              gi_wp2
              exact Bd.stay rfl ⟨f', qv', h1, h2, h3⟩ _
            | some k =>
              have has := assert53_some k
              have hl0 := hlk (nm k) (nm_size k)
              have hhas := h1.has k
              by_cases hk : k ∈ pre.foldl visit V
              · obtain ⟨da, db, de, hfk⟩ : ∃ a b e, f' (nb k) = some (.agg #[.string a, .string b, .bool e]) := by
                  rcases h1.deps k hk with ⟨_, b⟩ | ⟨p, e, b, _⟩
                  · exact ⟨_, _, _, b⟩
                  · exact ⟨_, _, _, b⟩
                simp only [hfk, Option.getD_some, Option.isSome_some] at hl0
                clear hfk hhas hlk
                have Hk := hideT hk
                have H1 := hideT h1
                have H2 := hideT h2
                have H3 := hideT h3
                clear hk h1 h2 h3
                gi_wp2
                exact Bd.stay (by simp [visit, unhideT Hk]) ⟨f', qv', unhideT H1, unhideT H2, unhideT H3⟩ _
              · have hfk : f' (nb k) = none := by simpa [hk] using hhas
                simp only [hfk, Option.getD_none, Option.isSome_none] at hl0
                have dr : W'.cell? ⟨rb r, 0, none⟩ = some (.string (nm r)) := (h1.bel.cell (p := ⟨rb r, 0, none⟩) r2).trans ((hbel.cell (p := ⟨rb r, 0, none⟩) r2).symm.trans r3)
                have yr : rb r < W'.heap.size := Nat.lt_of_lt_of_le r2 h1.bel.size
                obtain ⟨W4, v', W6, hup4, c4, l4, happ, ⟨g', n', l', c', rfl⟩, c6, f6, fin⟩ := Bd.new (st := st) (B := W3.heap.size) hVn hhl hrV hk hn3 h1 h2 h3 ((st : Int) == 2)
                have Fin' := hideT fin
                have Happ := hideT happ
                clear fin happ hk h1 h2 h3 hlk hhas hfk
                gi_wp2
                refine region_round (F := Fence.wide) (by kernel_rfl) (by kernel_rfl) ?_
                apply cutP
                · intro X
                  refine wpAnyIn_take (i := 1) (v := .string (nm k)) rfl rfl (by kernel_rfl) (by kernel_rfl) (by kernel_rfl) (fun _ _ _ h => h) ⟨Or.inl ⟨by rfl, fun w => by go_simp⟩, fun _ => rfl⟩ ?_
                  refine wpAnyIn_take (i := 6) (v := .string (nm k)) rfl rfl (by kernel_rfl) (by kernel_rfl) (by kernel_rfl) (fun _ _ _ h => h) ⟨Or.inl ⟨by rfl, fun w => by go_simp⟩, fun _ => rfl⟩ ?_
                  refine wpAnyIn_take (i := 7) (v := .int .u8 (st : Int)) rfl rfl (by kernel_rfl) (by kernel_rfl) (by kernel_rfl) (fun _ _ _ h => h) ⟨Or.inl ⟨by rfl, fun w => by go_simp⟩, fun _ => rfl⟩ ?_
                  refine wpAnyIn_take (i := 8) (v := .bool ((st : Int) == 2)) rfl rfl (by kernel_rfl) (by kernel_rfl) (by kernel_rfl) (fun _ _ _ h => h) ⟨Or.inl ⟨by rfl, fun w => by go_simp⟩, fun _ => rfl⟩ ?_
                  refine wpAnyIn_ready (rs := [0, 2]) (by kernel_rfl) (by simp) ?_
                  refine AllReadyIn.cons rfl (fun K hK => ?_) ?_
                  · go_simp
                    refine hK _ _ ?_
                    clear hK K
                    refine wpAnyIn_ready (rs := [2]) (by kernel_rfl) (by simp) ?_
                    refine AllReadyIn.cons rfl (fun K hK => ?_) ?_
                    · go_simp
                      refine hK _ _ ?_
                      clear hK K
                      refine wpAnyIn_ready (rs := [3]) (by kernel_rfl) (by simp) ?_
                      refine AllReadyIn.cons rfl (fun K hK => ?_) ?_
                      · go_simp
                        refine hK _ _ ?_
                        clear hK K
                        refine wpAnyIn_take (i := 4) (v := .pointer (some ⟨rb r, 0, none⟩)) rfl rfl (by kernel_rfl) (by kernel_rfl) (by kernel_rfl) (fun _ _ _ h => h) ⟨Or.inl ⟨by rfl, fun w => by go_simp⟩, fun _ => rfl⟩ ?_
                        refine wpAnyIn_ready (rs := [5]) (by kernel_rfl) (by simp) ?_
                        refine AllReadyIn.cons rfl (fun K hK => ?_) ?_
                        · go_simp
                          refine hK _ _ ?_
                          clear hK K
                          refine wpAnyIn_take (i := 9) (v := .agg #[.string (nm r), .string (nm k), .bool ((st : Int) == 2)]) rfl rfl (by kernel_rfl) (by kernel_rfl) (by kernel_rfl) (fun _ _ _ h => h) ⟨Or.inl ⟨by rfl, fun w => by go_simp⟩, fun _ => rfl⟩ ?_
                          refine wpAnyIn_ready (rs := [10]) (by kernel_rfl) (by simp) ?_
                          refine AllReadyIn.cons rfl (fun K hK => ?_) ?_
                          · go_simp
                            refine hK _ _ ?_
                            clear hK K
                            exact wpAnyIn_done (by kernel_rfl) X _
                          exact AllReadyIn.nil
                        exact AllReadyIn.nil
                      exact AllReadyIn.nil
                    exact AllReadyIn.nil
                  refine AllReadyIn.cons rfl (fun K hK => ?_) ?_
                  · go_simp
                    refine hK _ _ ?_
                    clear hK K
                    refine wpAnyIn_ready (rs := [0, 3]) (by kernel_rfl) (by simp) ?_
                    refine AllReadyIn.cons rfl (fun K hK => ?_) ?_
                    · go_simp
                      refine hK _ _ ?_
                      clear hK K
                      refine wpAnyIn_ready (rs := [3]) (by kernel_rfl) (by simp) ?_
                      refine AllReadyIn.cons rfl (fun K hK => ?_) ?_
                      · go_simp
                        refine hK _ _ ?_
                        clear hK K
                        refine wpAnyIn_take (i := 4) (v := .pointer (some ⟨rb r, 0, none⟩)) rfl rfl (by kernel_rfl) (by kernel_rfl) (by kernel_rfl) (fun _ _ _ h => h) ⟨Or.inl ⟨by rfl, fun w => by go_simp⟩, fun _ => rfl⟩ ?_
                        refine wpAnyIn_ready (rs := [5]) (by kernel_rfl) (by simp) ?_
                        refine AllReadyIn.cons rfl (fun K hK => ?_) ?_
                        · go_simp
                          refine hK _ _ ?_
                          clear hK K
                          refine wpAnyIn_take (i := 9) (v := .agg #[.string (nm r), .string (nm k), .bool ((st : Int) == 2)]) rfl rfl (by kernel_rfl) (by kernel_rfl) (by kernel_rfl) (fun _ _ _ h => h) ⟨Or.inl ⟨by rfl, fun w => by go_simp⟩, fun _ => rfl⟩ ?_
                          refine wpAnyIn_ready (rs := [10]) (by kernel_rfl) (by simp) ?_
                          refine AllReadyIn.cons rfl (fun K hK => ?_) ?_
                          · go_simp
                            refine hK _ _ ?_
                            clear hK K
                            exact wpAnyIn_done (by kernel_rfl) X _
                          exact AllReadyIn.nil
                        exact AllReadyIn.nil
                      exact AllReadyIn.nil
                    refine AllReadyIn.cons rfl (fun K hK => ?_) ?_
                    · go_simp
                      refine hK _ _ ?_
                      clear hK K
                      refine wpAnyIn_take (i := 4) (v := .pointer (some ⟨rb r, 0, none⟩)) rfl rfl (by kernel_rfl) (by kernel_rfl) (by kernel_rfl) (fun _ _ _ h => h) ⟨Or.inl ⟨by rfl, fun w => by go_simp⟩, fun _ => rfl⟩ ?_
                      refine wpAnyIn_ready (rs := [0, 5]) (by kernel_rfl) (by simp) ?_
                      refine AllReadyIn.cons rfl (fun K hK => ?_) ?_
                      · go_simp
                        refine hK _ _ ?_
                        clear hK K
                        refine wpAnyIn_ready (rs := [5]) (by kernel_rfl) (by simp) ?_
                        refine AllReadyIn.cons rfl (fun K hK => ?_) ?_
                        · go_simp
                          refine hK _ _ ?_
                          clear hK K
                          refine wpAnyIn_take (i := 9) (v := .agg #[.string (nm r), .string (nm k), .bool ((st : Int) == 2)]) rfl rfl (by kernel_rfl) (by kernel_rfl) (by kernel_rfl) (fun _ _ _ h => h) ⟨Or.inl ⟨by rfl, fun w => by go_simp⟩, fun _ => rfl⟩ ?_
                          refine wpAnyIn_ready (rs := [10]) (by kernel_rfl) (by simp) ?_
                          refine AllReadyIn.cons rfl (fun K hK => ?_) ?_
                          · go_simp
                            refine hK _ _ ?_
                            clear hK K
                            exact wpAnyIn_done (by kernel_rfl) X _
                          exact AllReadyIn.nil
                        exact AllReadyIn.nil
                      refine AllReadyIn.cons rfl (fun K hK => ?_) ?_
                      · go_simp
                        refine hK _ _ ?_
                        clear hK K
                        refine wpAnyIn_take (i := 9) (v := .agg #[.string (nm r), .string (nm k), .bool ((st : Int) == 2)]) rfl rfl (by kernel_rfl) (by kernel_rfl) (by kernel_rfl) (fun _ _ _ h => h) ⟨Or.inl ⟨by rfl, fun w => by go_simp⟩, fun _ => rfl⟩ ?_
                        refine wpAnyIn_ready (rs := [0]) (by kernel_rfl) (by simp) ?_
                        refine AllReadyIn.cons rfl (fun K hK => ?_) ?_
                        · go_simp
                          refine hK _ _ ?_
                          clear hK K
                          refine wpAnyIn_ready (rs := [10]) (by kernel_rfl) (by simp) ?_
                          refine AllReadyIn.cons rfl (fun K hK => ?_) ?_
                          · go_simp
                            refine hK _ _ ?_
                            clear hK K
                            exact wpAnyIn_done (by kernel_rfl) X _
                          exact AllReadyIn.nil
                        exact AllReadyIn.nil
                      exact AllReadyIn.nil
                    exact AllReadyIn.nil
                  exact AllReadyIn.nil
                · gi_wp2_with (gi_at_builtin; refine wpListIn_append_run rfl _ _ 82 82 rfl _ _ rfl rfl _ _ (unhideT Happ) ?_)
                  exact unhideT Fin'
          case done =>
            rintro D ys W4 hD rfl hBd hK
            obtain ⟨f', qv', h1, h2, h3⟩ := hBd
            have hVh : V[h]? = some r := by
              have := congrArg (fun l => l[0]?) hdrop
              simpa using this
            have hl26 := hS.len
            have hmk : Marks (w.heap.size + 1) W4 ({ target := .collected D, args := #[] } :: ds) := ⟨⟨D, rfl, by omega, hK, hds.lt (by omega)⟩, hds.keep ((hko.from _).trans h3)⟩
            have Hmk := hideT hmk
            have H1 := hideT h1
            have hSr := hS.round hVh hro'
            gi_wp2
            refine ⟨26 - (h + 1), by omega, _, fun i => ([.pointer (some ⟨W.heap.size, 0, none⟩), us 10, us 11, us 12, us 13, us 14, us 15, us 16, us 17, .map (some w.heap.size), .string (nm fr), .agg #[.string ⟨#[]⟩, .string ⟨#[]⟩, .bool false], .map (some w.heap.size), .string (nm fr), .slice (some ⟨wm.heap.size + 1, 0, none⟩) 1 1, .slice (some ⟨g1, off1, none⟩) (rest.length + 1) cap1, .int .i64 ((rest.length : Int) + 1), .bool true, .bool true, .slice (some ⟨g1, off1, none⟩) (rest.length + 1) cap1, .pointer (some ⟨g1, off1, none⟩), .string (nm r), .string (nm on), .bool true, .bool true, .pointer (some ⟨tb, 0, none⟩), .pointer (some ⟨tb, 0, none⟩), .pointer (some ⟨tb, 2, none⟩), .map (some mb), .slice (some ⟨g1, off1, none⟩) (rest.length + 1) cap1, .pointer (some ⟨g1, off1, none⟩), .string (nm r), .pointer (some ⟨rb r, 0, none⟩), .slice (some ⟨g1, off1, none⟩) (rest.length + 1) cap1, .slice (some ⟨g1, o2, none⟩) rest.length c2, .pointer (some ⟨rb r, 0, none⟩), .pointer (some ⟨rb r, 0, none⟩), .pointer (some ⟨rb r, 2, none⟩), tv0, .func (.func 21) #[] #[.pointer (some ⟨W.heap.size + 1, 0, none⟩)], us 49, us 50, us 51, us 52, us 53, us 54, us 55, us 56, us 57, us 58, us 59, us 60, us 61, us 62, us 63, us 64, us 65, us 66, us 67, us 68, us 69, us 70, us 71, us 72, us 73, us 74, us 75, us 76, us 77, us 78, us 79, us 80] : List Value).getD (i - 9) undef, (L r).foldl visit V, h + 1, qv', f', rfl, rfl, unhideT Hmk, hSr, unhideT H1⟩
          case stop =>
            rintro D c pre W _ _ h _
            exact h.elim
end Go.Proofs.YbulkdblgFmt
