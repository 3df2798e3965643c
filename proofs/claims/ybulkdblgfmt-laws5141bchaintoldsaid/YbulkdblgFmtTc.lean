/-
  The law of the chain.
-/
import Derived.Test.YbulkdblgFmtTw
import Derived.Deep.RegionWith
namespace Go.Proofs.YbulkdblgFmt
open Go.RowKit Go.Shelf Go.Stop

structure Grow (w0 W X : World) : Prop where
  kept : CellsKept W X
  size : W.heap.size ≤ X.heap.size
  bel : Below w0.heap.size w0 X
theorem Grow.refl {w0 W : World} (h : Below w0.heap.size w0 W) : Grow w0 W W := ⟨CellsKept.refl _, Nat.le_refl _, h⟩
theorem Grow.alloc {w0 W X : World} (h : Grow w0 W X) (o : Obj) : Grow w0 W (X.alloc o) := ⟨h.kept.trans (CellsKept.alloc X o), Nat.le_trans h.size (by simp), h.bel.alloc h.bel.size o⟩
theorem Grow.drew {w0 W X : World} (h : Grow w0 W X) : Grow w0 W X.drew := ⟨h.kept, h.size, h.bel.drew⟩

theorem Pre.step {w0 W X W' : World} {tb mb h r : Nat} {L : Fin 26 → List Leaf} {f : List UInt8 → Option Value} {rb : Fin 26 → Nat} {k : Fin 26} {v : Value} (hP : Pre w0 tb mb L k.val W)
    (hrels : ∀ j : Fin 26, j.val < k.val → f (nb j) = some (.pointer (some ⟨rb j, 0, none⟩)) ∧ rb j < W.heap.size ∧ W.cell? ⟨rb j, 0, none⟩ = some (.string (nm j)) ∧ ∃ v h, W.cell? ⟨rb j, 2, none⟩ = some v ∧ IsTm W.heap.size W h v (L j))
    (hX : Grow w0 W X) (hm : MapIs W' mb (k.val + 1) (upd f (nb k) (.pointer (some ⟨r, 0, none⟩)))) (ht : X.mapTurned W' mb) (hr : r < X.heap.size) (h0 : X.cell? ⟨r, 0, none⟩ = some (.string (nm k))) (h2 : X.cell? ⟨r, 2, none⟩ = some v) (hT : IsTm X.heap.size X h v (L k)) : Pre w0 tb mb L (k.val + 1) W' := by
  refine Pre.add (hX.kept _ _ hP.cell) (Nat.lt_of_lt_of_le hP.htb hX.size) (Nat.lt_of_lt_of_le hP.hmb hX.size) hP.new hX.bel (f := f) (rb := rb) (r := r) (h := h) (v := v) (fun j hj => ?_) hm ht hr h0 h2 hT
  obtain ⟨a1, a2, a3, v', h', a4, a5⟩ := hrels j hj
  exact ⟨a1, Nat.lt_of_lt_of_le a2 hX.size, hX.kept _ _ a3, v', h', hX.kept _ _ a4, (a5.kept hX.kept).mono hX.size⟩

theorem Pre.stepN {w0 W X W' : World} {tb mb h r i : Nat} {L : Fin 26 → List Leaf} {f : List UInt8 → Option Value} {rb : Fin 26 → Nat} (k : Fin 26) {v : Value} {G : List Leaf} (hki : k.val = i) (hP : Pre w0 tb mb L i W)
    (hrels : ∀ j : Fin 26, j.val < i → f (nb j) = some (.pointer (some ⟨rb j, 0, none⟩)) ∧ rb j < W.heap.size ∧ W.cell? ⟨rb j, 0, none⟩ = some (.string (nm j)) ∧ ∃ v h, W.cell? ⟨rb j, 2, none⟩ = some v ∧ IsTm W.heap.size W h v (L j)) (hL : L k = G)
    (hX : Grow w0 W X) (hm : MapIs W' mb (i + 1) (upd f (nb k) (.pointer (some ⟨r, 0, none⟩)))) (ht : X.mapTurned W' mb) (hr : r < X.heap.size) (h0 : X.cell? ⟨r, 0, none⟩ = some (.string (nm k))) (h2 : X.cell? ⟨r, 2, none⟩ = some v) (hT : IsTm X.heap.size X h v G) : Pre w0 tb mb L (i + 1) W' := by
  subst hki hL
  exact Pre.step hP hrels hX hm ht hr h0 h2 hT

def chainL (K : Nat) (closed : Bool) (ex : Nat → Bool) (k : Fin 26) : List Leaf :=
  if k.val = 0 then [(none, 1), (some (fn 1), 2)]
  else if k.val < K then (if ex k.val then [(none, 1), (some (fn (k.val + 1)), 2)] else [(none, 0), (some (fn (k.val + 1)), 0)])
  else if closed then [(some (fn 0), 0)] else [(none, 0)]

theorem chain_names {K : Nat} {closed : Bool} {ex : Nat → Bool} (hK1 : 1 ≤ K) (hK2 : K ≤ 20) (k : Fin 26) : ∀ o st, (some o, st) ∈ chainL K closed ex k → o.val < K + 1 := by
  intro o st h
  unfold chainL at h
  split at h
  · simp at h
    rw [h.1, fn_val (by omega)]; omega
  · split at h
    · split at h
      · simp at h
        rw [h.1, fn_val (by omega)]; omega
      · simp at h
        rw [h.1, fn_val (by omega)]; omega
    · split at h
      · simp at h
        rw [h.1, fn_val (by omega)]; omega
      · simp at h

theorem chain_next {K : Nat} {closed : Bool} {ex : Nat → Bool} {i : Nat} (hi : i < 26) (h1 : 1 ≤ i) (h2 : i < K) : Edge (chainL K closed ex) (fn i) (fn (i + 1)) := by
  have hv := fn_val hi
  have h0 : ¬ i = 0 := by omega
  unfold Edge chainL
  rw [hv]
  simp only [h0, h2, if_true, if_false]
  cases ex i
  · exact ⟨0, by simp⟩
  · exact ⟨2, by simp⟩

theorem chain_bad {K : Nat} {closed : Bool} {ex : Nat → Bool} (hK1 : 1 ≤ K) (hK2 : K ≤ 20) : Bad (chainL K closed ex) (fn 0) (chainL K closed ex (fn 0)) ↔ closed = true := by
  have h00 : chainL K closed ex (fn 0) = [(none, 1), (some (fn 1), 2)] := rfl
  constructor
  · rintro ⟨k, hk, hr⟩
    rw [h00] at hk
    simp at hk
    subst hk
    cases closed with
    | true => rfl
    | false =>
      obtain ⟨n, hn⟩ := hr
      have hall : ∀ n b, ReachN (chainL K false ex) n (fn 1) b → 1 ≤ b.val ∧ b.val ≤ K := by
        intro n
        induction n with
        | zero => intro b hb; have : fn 1 = b := hb; subst this; rw [fn_val (by omega)]; omega
        | succ n ih =>
          rintro b ⟨c, hc, st, he⟩
          obtain ⟨c1, c2⟩ := ih c hc
          unfold chainL at he
          have c0 : ¬ c.val = 0 := by omega
          simp only [c0, if_false] at he
          split at he
          · split at he
            · simp at he
              rw [he.1, fn_val (by omega)]; omega
            · simp at he
              rw [he.1, fn_val (by omega)]; omega
          · simp at he
      have := (hall n _ hn).1
      rw [fn_val (by omega)] at this
      omega
  · intro hc
    subst hc
    refine ⟨fn 1, by rw [h00]; simp, ?_⟩
    have hup : ∀ j, 1 ≤ j → j ≤ K → Reach (chainL K true ex) (fn 1) (fn j) := by
      intro j
      induction j with
      | zero => intro h; omega
      | succ j ih =>
        intro h1 h2
        by_cases hj : j = 0
        · subst hj; exact Reach.refl _ _
        · exact (ih (by omega) (by omega)).step (chain_next (by omega) (by omega) (by omega))
    refine (hup K hK1 (Nat.le_refl _)).step ⟨0, ?_⟩
    have h0 : ¬ K = 0 := by omega
    unfold chainL
    rw [fn_val (by omega)]
    simp [h0]

set_option maxRecDepth 100000 in
set_option maxHeartbeats 1000000 in
theorem chain_any (FI : Interp) (k0 : Int) (hk0 : 0 ≤ k0) (hk1 : k0 ≤ 255) (closed : Bool) (a0 : Option Addr) (len cap : Nat) (ex : Nat → Bool) (w : World) (hF : FI.told.answers w.tape)
    (hex : ∀ i, i < len → ∃ b off, a0 = some ⟨b, off, none⟩ ∧ b < w.heap.size ∧ w.cell? ⟨b, off + i, none⟩ = some (.bool (ex i))) (hex0 : ∀ i, ¬ i < len → ex i = false) :
    Calls Ybaf.prog 6 #[.int .u8 k0, .bool closed, .slice a0 len cap] w fun e w' => e = .returned (.bool true) ∧ Below w.heap.size w w' := by
  obtain ⟨K, hK⟩ : ∃ K : Nat, k0 % 20 + 1 = (K : Int) := ⟨(k0 % 20 + 1).toNat, by omega⟩
  have hK1 : 1 ≤ K := by omega
  have hK2 : K ≤ 20 := by omega
  have hmm := @run_makeMap Ybaf.prog
  go_enter Ybaf.func6, Ybaf.ntmps6
  go_wp2
  go_loopw [9] (fun s9 wr => ∃ i : Nat, i ≤ K + 1 ∧ s9 = .int .i64 i ∧ Pre w (w.heap.size + 1) w.heap.size (chainL K closed ex) i wr) (fun s9 _ => 100 - (intOf s9).toNat)
  case atStart =>
    refine ⟨0, Nat.zero_le _, rfl, ?_, by simp, by simp; omega, Nat.le_refl _, ((Below.refl _ w).alloc (Nat.le_refl _) _).alloc (by simp) _, fun _ => none, fun _ => 0, (MapIs.made w).alloc _, fun k hk => absurd hk (Nat.not_lt_zero _)⟩
    rw [World.cell?_alloc_at (w := w.alloc (.map #[] 0)) _ _ (w.heap.size + 1) 2 (by simp)]
    rfl
  case round =>
    obtain ⟨i, hi, rfl, hP⟩ := hrel
    obtain ⟨f, rb, hmap, hrels⟩ := hP.rels
    have hbel := hP.bel
    have ctb := hP.cell
    have ltb := hP.htb
    have ltb1 : w.heap.size + 1 < wr.heap.size + 1 := by omega
    have ltb2 : w.heap.size + 1 < wr.heap.size + 1 + 1 := by omega
    have ltb3 : w.heap.size + 1 < wr.heap.size + 1 + 1 + 1 := by omega
    by_cases hle : i ≤ K
    · have hi26 : i < 26 := by omega
      have hifn : (fn i).val = i := fn_val hi26
      by_cases h0 : i = 0
      · subst h0
        have hn1 : Hid (∀ w, Calls Ybaf.prog 9 #[.int .i64 1] w fun e w' => e = .returned (.string (nm (fn 1))) ∧ w' = w) := name_any 1 (by omega)
        have hn0 := hideT (name_any 0 (by omega))
        go_wp2
        apply cutP
        · intro X
          go_region_with (go_at_call 9; refine (unhideT hn1 _).mono ?_; rintro e w' ⟨rfl, rfl⟩)
          all_goals exact X
        · go_wp2_with (first | (go_at_call 9; refine (unhideT hn0 _).mono ?_; rintro e w' ⟨rfl, rfl⟩) | (at_mapUpdate; refine wpList_mapUpdate_is rfl _ _ _ 44 61 rfl Ybaf.underlying44 w.heap.size 0 f rfl ?hown ?hn (nm (fn 0)) _ rfl rfl (nm_size _) ?nxt))
          case hown => repeat (first | exact hmap | apply MapIs.drew | apply MapIs.alloc)
          case hn => decide
          case nxt =>
            intro w' hm' ht'
            have hPn : Pre w (w.heap.size + 1) w.heap.size (chainL K closed ex) 1 w' := by
              refine Pre.step (k := fn 0) (h := 1) hP hrels (by repeat (first | exact Grow.refl hbel | apply Grow.drew | apply Grow.alloc)) hm' ht' (by simp) (by go_simp) (by go_simp; rfl) ?_
              exact isTm_two (op := 2) (o0 := none) (o1 := some (fn 1)) (by simp) (by simp) (by go_simp; rfl) (by go_simp; rfl)
            have HPn := hideT hPn
            clear hPn hm' ht'
            go_wp2
            exact ⟨⟨1, by omega, rfl, unhideT HPn⟩, by simp [intOf]⟩
      · have hi0 : ((i : Int) == 0) = false := by simp; omega
        have hni := hideT (name_any i hi26)
        by_cases hlt : i < K
        · have hnS : Hid (∀ w, Calls Ybaf.prog 9 #[.int .i64 ((i : Int) + 1)] w fun e w' => e = .returned (.string (nm (fn (i + 1)))) ∧ w' = w) := name_any (i + 1) (by omega)
          by_cases hlen' : i < len
          · obtain ⟨b, off, rfl, hb, hcell⟩ := hex i hlen'
            have hcell' : wr.cell? ⟨b, off + i, none⟩ = some (.bool (ex i)) := (hbel.cell (p := ⟨b, off + i, none⟩) hb).trans hcell
            have hb' : b < wr.heap.size := Nat.lt_of_lt_of_le hb hbel.size
            have hin : ¬ (i : Int) < 0 := by omega
            cases hexi : ex i with
            | true =>
              rw [hexi] at hcell'
              have hL : chainL K closed ex (fn i) = [(none, 1), (some (fn (i + 1)), 2)] := by simp [chainL, hifn, h0, hlt, hexi]
              clear hcell hex
              go_wp2_with (first | (go_at_call 9; refine (unhideT hnS _).mono ?_; clear hnS; rintro e w' ⟨rfl, rfl⟩) | (go_at_call 9; refine (unhideT hni _).mono ?_; rintro e w' ⟨rfl, rfl⟩) | (at_mapUpdate; refine wpList_mapUpdate_is rfl _ _ _ 44 61 rfl Ybaf.underlying44 w.heap.size i f rfl ?hown ?hn (nm (fn i)) _ rfl rfl (nm_size _) ?nxt))
              case hown => repeat (first | exact hmap | apply MapIs.drew | apply MapIs.alloc)
              case hn => unfold maxLen; omega
              case nxt =>
                intro w' hm' ht'
                have hPn : Pre w (w.heap.size + 1) w.heap.size (chainL K closed ex) (i + 1) w' := by
                  refine Pre.stepN (fn i) (h := 1) hifn hP hrels hL (by repeat (first | exact Grow.refl hbel | apply Grow.drew | apply Grow.alloc)) hm' ht' (by simp) (by go_simp) (by go_simp; rfl) ?_
                  exact isTm_two (op := 2) (o0 := none) (o1 := some (fn (i + 1))) (by simp) (by simp) (by go_simp; rfl) (by go_simp; rfl)
                have HPn := hideT hPn
                clear hPn hm' ht'
                go_wp2
                exact ⟨⟨i + 1, by omega, rfl, unhideT HPn⟩, by simp [intOf]; omega⟩
            | false =>
              rw [hexi] at hcell'
              have hL : chainL K closed ex (fn i) = [(none, 0), (some (fn (i + 1)), 0)] := by simp [chainL, hifn, h0, hlt, hexi]
              clear hcell hex
              go_wp2_with (first | (go_at_call 9; refine (unhideT hnS _).mono ?_; clear hnS; rintro e w' ⟨rfl, rfl⟩) | (go_at_call 9; refine (unhideT hni _).mono ?_; rintro e w' ⟨rfl, rfl⟩) | (at_mapUpdate; refine wpList_mapUpdate_is rfl _ _ _ 44 61 rfl Ybaf.underlying44 w.heap.size i f rfl ?hown ?hn (nm (fn i)) _ rfl rfl (nm_size _) ?nxt))
              case hown => repeat (first | exact hmap | apply MapIs.drew | apply MapIs.alloc)
              case hn => unfold maxLen; omega
              case nxt =>
                intro w' hm' ht'
                have hPn : Pre w (w.heap.size + 1) w.heap.size (chainL K closed ex) (i + 1) w' := by
                  refine Pre.stepN (fn i) (h := 1) hifn hP hrels hL (by repeat (first | exact Grow.refl hbel | apply Grow.drew | apply Grow.alloc)) hm' ht' (by simp) (by go_simp) (by go_simp; rfl) ?_
                  exact isTm_two (op := 0) (o0 := none) (o1 := some (fn (i + 1))) (by simp) (by simp) (by go_simp; rfl) (by go_simp; rfl)
                have HPn := hideT hPn
                clear hPn hm' ht'
                go_wp2
                exact ⟨⟨i + 1, by omega, rfl, unhideT HPn⟩, by simp [intOf]; omega⟩
          · have hL : chainL K closed ex (fn i) = [(none, 0), (some (fn (i + 1)), 0)] := by simp [chainL, hifn, h0, hlt, hex0 i hlen']
            clear hex
            go_wp2_with (first | (go_at_call 9; refine (unhideT hnS _).mono ?_; clear hnS; rintro e w' ⟨rfl, rfl⟩) | (go_at_call 9; refine (unhideT hni _).mono ?_; rintro e w' ⟨rfl, rfl⟩) | (at_mapUpdate; refine wpList_mapUpdate_is rfl _ _ _ 44 61 rfl Ybaf.underlying44 w.heap.size i f rfl ?hown ?hn (nm (fn i)) _ rfl rfl (nm_size _) ?nxt))
            case hown => repeat (first | exact hmap | apply MapIs.drew | apply MapIs.alloc)
            case hn => unfold maxLen; omega
            case nxt =>
              intro w' hm' ht'
              have hPn : Pre w (w.heap.size + 1) w.heap.size (chainL K closed ex) (i + 1) w' := by
                refine Pre.stepN (fn i) (h := 1) hifn hP hrels hL (by repeat (first | exact Grow.refl hbel | apply Grow.drew | apply Grow.alloc)) hm' ht' (by simp) (by go_simp) (by go_simp; rfl) ?_
                exact isTm_two (op := 0) (o0 := none) (o1 := some (fn (i + 1))) (by simp) (by simp) (by go_simp; rfl) (by go_simp; rfl)
              have HPn := hideT hPn
              clear hPn hm' ht'
              go_wp2
              exact ⟨⟨i + 1, by omega, rfl, unhideT HPn⟩, by simp [intOf]; omega⟩
        · have hn0 : Hid (∀ w, Calls Ybaf.prog 9 #[.int .i64 0] w fun e w' => e = .returned (.string (nm (fn 0))) ∧ w' = w) := name_any 0 (by omega)
          clear hex
          cases closed with
          | true =>
            have hL : chainL K true ex (fn i) = [(some (fn 0), 0)] := by simp [chainL, hifn, h0, hlt]
            go_wp2_with (first | (go_at_call 9; refine (unhideT hn0 _).mono ?_; clear hn0; rintro e w' ⟨rfl, rfl⟩) | (go_at_call 9; refine (unhideT hni _).mono ?_; rintro e w' ⟨rfl, rfl⟩) | (at_mapUpdate; refine wpList_mapUpdate_is rfl _ _ _ 44 61 rfl Ybaf.underlying44 w.heap.size i f rfl ?hown ?hn (nm (fn i)) _ rfl rfl (nm_size _) ?nxt))
            case hown => repeat (first | exact hmap | apply MapIs.drew | apply MapIs.alloc)
            case hn => unfold maxLen; omega
            case nxt =>
              intro w' hm' ht'
              have hPn : Pre w (w.heap.size + 1) w.heap.size (chainL K true ex) (i + 1) w' := by
                refine Pre.stepN (fn i) (h := 0) hifn hP hrels hL (by repeat (first | exact Grow.refl hbel | apply Grow.drew | apply Grow.alloc)) hm' ht' (by simp) (by go_simp) (by go_simp; rfl) ?_
                exact Or.inr ⟨some (fn 0), rfl, rfl⟩
              have HPn := hideT hPn
              clear hPn hm' ht'
              go_wp2
              exact ⟨⟨i + 1, by omega, rfl, unhideT HPn⟩, by simp [intOf]; omega⟩
          | false =>
            have hL : chainL K false ex (fn i) = [(none, 0)] := by simp [chainL, hifn, h0, hlt]
            clear hn0
            go_wp2_with (first | (go_at_call 9; refine (unhideT hn0 _).mono ?_; clear hn0; rintro e w' ⟨rfl, rfl⟩) | (go_at_call 9; refine (unhideT hni _).mono ?_; rintro e w' ⟨rfl, rfl⟩) | (at_mapUpdate; refine wpList_mapUpdate_is rfl _ _ _ 44 61 rfl Ybaf.underlying44 w.heap.size i f rfl ?hown ?hn (nm (fn i)) _ rfl rfl (nm_size _) ?nxt))
            case hown => repeat (first | exact hmap | apply MapIs.drew | apply MapIs.alloc)
            case hn => unfold maxLen; omega
            case nxt =>
              intro w' hm' ht'
              have hPn : Pre w (w.heap.size + 1) w.heap.size (chainL K false ex) (i + 1) w' := by
                refine Pre.stepN (fn i) (h := 0) hifn hP hrels hL (by repeat (first | exact Grow.refl hbel | apply Grow.drew | apply Grow.alloc)) hm' ht' (by simp) (by go_simp) (by go_simp; rfl) ?_
                exact Or.inr ⟨none, rfl, rfl⟩
              have HPn := hideT hPn
              clear hPn hm' ht'
              go_wp2
              exact ⟨⟨i + 1, by omega, rfl, unhideT HPn⟩, by simp [intOf]; omega⟩
    · obtain rfl : i = K + 1 := by omega
      obtain ⟨r1, r2, r3, tv0, th, r4, r5⟩ := hrels (fn 0) (by rw [fn_val (by omega)]; omega)
      have hg : Graph wr.drew.heap.size wr.drew (w.heap.size + 1) (fun k => decide (k.val < K + 1) = true) (chainL K closed ex) := hP.drew.graph (fun k _ => chain_names hK1 hK2 k)
      have hchk := check_in FI 10 (by omega) (w.heap.size + 1) (rb (fn 0)) (fun k => decide (k.val < K + 1)) (chainL K closed ex) (fn 0) wr.drew (by have := hbel.tape; rw [show wr.drew.tape = w.tape from this]; exact hF) hg r2 r3 tv0 th r4 (r5.kept (CellsKept.drew wr))
        (fun x hx k hk => by obtain ⟨o, st⟩ := x; cases hk; exact decide_eq_true (chain_names hK1 hK2 (fn 0) k st hx))
      have hlook := hmap.drew.look1 Ybaf.underlying44 (zero61 _) (nm (fn 0)) (nm_size _)
      simp only [r1, Option.getD_some] at hlook
      have hn0 : Hid (∀ w, Calls Ybaf.prog 9 #[.int .i64 0] w fun e w' => e = .returned (.string (nm (fn 0))) ∧ w' = w) := name_any 0 (by omega)
      have hcb := chain_bad (closed := closed) (ex := ex) hK1 hK2
      have Hbel := hideT hbel
      clear hg hrels r5 hex hP hmap
      cases closed with
      | true =>
        have hc2 := hideT ((callsIn_wide.1 hchk).mono (R' := fun e w' => (∃ t v, e = .returned (.iface t v)) ∧ Below wr.drew.heap.size wr.drew w') (fun e w' ⟨hb, h⟩ => by
          rcases h with ⟨hnb, _⟩ | ⟨_, h⟩
          · exact absurd (hcb.2 rfl) hnb
          · exact ⟨h, hb⟩))
        clear hchk hcb
        go_wp2
        go_region_with (first | (go_at_call 9; refine (unhideT hn0 _).mono ?_; rintro e w' ⟨rfl, rfl⟩) | (go_at_call 11; refine (unhideT hc2).mono ?_; rintro e w' ⟨⟨t, v, rfl⟩, hb⟩))
        all_goals go_wp2
        all_goals go_ret
        all_goals exact ⟨rfl, (unhideT Hbel).drew.trans (hb.mono (unhideT Hbel).size)⟩
      | false =>
        have hc2 := hideT ((callsIn_wide.1 hchk).mono (R' := fun e w' => e = .returned .nilIface ∧ Below wr.drew.heap.size wr.drew w') (fun e w' ⟨hb, h⟩ => by
          rcases h with ⟨_, h⟩ | ⟨hbad, _⟩
          · exact ⟨h, hb⟩
          · exact absurd (hcb.1 hbad) (by decide)))
        clear hchk hcb
        go_wp2
        go_region_with (first | (go_at_call 9; refine (unhideT hn0 _).mono ?_; rintro e w' ⟨rfl, rfl⟩) | (go_at_call 11; refine (unhideT hc2).mono ?_; rintro e w' ⟨rfl, hb⟩))
        all_goals go_wp2
        all_goals go_ret
        all_goals exact ⟨rfl, (unhideT Hbel).drew.trans (hb.mono (unhideT Hbel).size)⟩
end Go.Proofs.YbulkdblgFmt
