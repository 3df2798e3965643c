/-
  LawS5141BExact: the building.
-/
import Derived.Test.YbulkdblgFmtTj
namespace Go.Proofs.YbulkdblgFmt
open Go.RowKit Go.Shelf Go.Stop

/-- That block of the code. -/
def atB (id : Nat) : Code → Option Code
  | .block k c => if k == id then some (.block k c) else none
  | .seq a b => match atB id a with
    | some c => some c
    | none => atB id b
  | _ => none

set_option maxRecDepth 100000 in
set_option maxHeartbeats 8000000 in
theorem exact_build (n : Nat) (hnp : 1 ≤ n) (hn6 : n ≤ 6) (a0 : Option Addr) (len : Nat) (oB : Nat → Int) (kV eV : Nat → Value) (kS eS : Nat → List Int) (w W : World) (mb : Nat) (hG : Given w a0 len oB kV eV kS eS) (hsm : ∀ j, j < n → (kS j).length ≤ 256 ∧ (eS j).length ≤ 256) (hst : Bld w mb n oB kV eV kS eS 0 W)
    (c0 c1 c2 c3 c4 c5 c6 c9 c10 c15 c16 c17 c18 c19 c20 c21 c22 c23 c24 c25 c26 c27 c28 c29 c30 c31 c32 c33 c34 c35 c36 c37 c38 c39 c40 c41 c42 c43 c44 c45 c46 c47 c48 c49 c50 c51 c52 c53 c54 c55 c56 c57 c58 c59 c60 c61 c62 c63 c64 c65 c66 c67 c68 c69 c70 c71 c72 c73 c74 c75 c76 c77 c78 c79 c80 c81 c82 c83 c84 c85 c86 c87 c88 c89 c90 c91 c92 c93 c94 c95 c96 c97 c98 c99 c100 c101 c102 c103 c104 c105 c106 c107 c108 c109 c110 c111 c112 c113 c114 c115 c116 c117 c118 c119 c120 c121 c122 c123 c124 c125 c126 c127 c128 c129 c130 c131 c132 c133 c134 c135 c136 c137 c138 c139 c140 c141 c142 c143 c144 c145 c146 c147 c148 c149 c150 c151 c152 c153 c154 c155 c156 c157 c158 c159 c160 c161 c162 c163 c164 c165 c166 c167 c168 c169 c170 c171 c172 c173 c174 c175 c176 c177 c178 c179 c180 c181 c182 c183 c184 c185 c186 c187 c188 c189 c190 c191 c192 c193 c194 c195 c196 c197 c198 c199 c200 c201 c202 c203 c204 c205 c206 c207 c208 c209 c210 c211 c212 c213 c214 c215 c216 c217 c218 c219 c220 c221 c222 c223 c224 c225 c226 c227 c228 c229 c230 c231 c232 c233 c234 c235 c236 c237 c238 c239 c240 c241 c242 c243 c244 c245 c246 c247 c248 c249 c250 c251 c252 c253 c254 c255 c256 c257 c258 c259 c260 c261 c262 c263 c264 c265 c266 c267 c268 c269 c270 c271 c272 c273 c274 c275 c276 c277 c278 c279 c280 c281 c282 : Value) (K : Act → World → Prop) (Q0 : Exit → Act → World → Prop)
    (hK : ∀ (d14 d15 d17 d18 d19 d21 d22 d23 d24 d25 d84 d85 d86 d87 d88 d89 d90 d91 d92 d93 d94 d95 d96 d97 d98 d99 d100 d101 d102 d103 d104 d105 d106 d107 d108 d109 d110 d111 d112 d113 d114 d115 d116 d117 d118 d119 d120 d121 d122 d123 d124 d125 d126 d127 d128 d129 d130 d131 d132 d133 d134 d135 d136 d137 d138 d139 d140 d141 d142 d143 d144 d145 d146 d147 d148 d149 d150 d151 d152 d153 d154 d155 d156 d157 d158 d159 d160 d161 d162 d163 d164 d165 d166 d167 d168 d169 d170 d171 d172 d173 d174 d175 d176 d177 d178 d179 d180 d181 d182 d183 d184 d185 d186 d187 d188 d189 d190 d191 d192 d193 : Value) (wx : World), Bld w mb n oB kV eV kS eS n wx → K { tmps := #[c0, c1, c2, c3, c4, c5, c6, .int .i64 n, .slice (some ⟨w.heap.size, 0, none⟩) n n, c9, c10, .pointer (some ⟨mb + 1, 0, none⟩), .pointer (some ⟨mb + 1 + 1, 0, none⟩), .pointer (some ⟨mb + 1 + 1 + 1, 0, none⟩), d14, d15, c16, d17, d18, d19, c20, d21, d22, d23, d24, d25, c26, c27, c28, c29, c30, c31, c32, c33, c34, c35, c36, c37, c38, c39, c40, c41, c42, c43, c44, c45, c46, c47, c48, c49, c50, c51, c52, c53, c54, c55, c56, c57, c58, c59, c60, c61, c62, c63, c64, c65, c66, c67, c68, c69, c70, c71, c72, c73, c74, c75, c76, c77, c78, c79, c80, c81, c82, c83, d84, d85, d86, d87, d88, d89, d90, d91, d92, d93, d94, d95, d96, d97, d98, d99, d100, d101, d102, d103, d104, d105, d106, d107, d108, d109, d110, d111, d112, d113, d114, d115, d116, d117, d118, d119, d120, d121, d122, d123, d124, d125, d126, d127, d128, d129, d130, d131, d132, d133, d134, d135, d136, d137, d138, d139, d140, d141, d142, d143, d144, d145, d146, d147, d148, d149, d150, d151, d152, d153, d154, d155, d156, d157, d158, d159, d160, d161, d162, d163, d164, d165, d166, d167, d168, d169, d170, d171, d172, d173, d174, d175, d176, d177, d178, d179, d180, d181, d182, d183, d184, d185, d186, d187, d188, d189, d190, d191, d192, d193, c194, c195, c196, c197, c198, c199, c200, c201, c202, c203, c204, c205, c206, c207, c208, c209, c210, c211, c212, c213, c214, c215, c216, c217, c218, c219, c220, c221, c222, c223, c224, c225, c226, c227, c228, c229, c230, c231, c232, c233, c234, c235, c236, c237, c238, c239, c240, c241, c242, c243, c244, c245, c246, c247, c248, c249, c250, c251, c252, c253, c254, c255, c256, c257, c258, c259, c260, c261, c262, c263, c264, c265, c266, c267, c268, c269, c270, c271, c272, c273, c274, c275, c276, c277, c278, c279, c280, c281, c282], defers := [] } wx) :
    Code.wp Ybaf.prog ((Ybaf.f5.body.bind (atB 4)).getD .skip) (Exit.then K Q0) { tmps := #[c0, c1, c2, c3, c4, c5, c6, .int .i64 n, .slice (some ⟨w.heap.size, 0, none⟩) n n, c9, c10, .pointer (some ⟨mb + 1, 0, none⟩), .pointer (some ⟨mb + 1 + 1, 0, none⟩), .pointer (some ⟨mb + 1 + 1 + 1, 0, none⟩), .int .i64 0, c15, c16, c17, c18, c19, c20, c21, c22, c23, c24, c25, c26, c27, c28, c29, c30, c31, c32, c33, c34, c35, c36, c37, c38, c39, c40, c41, c42, c43, c44, c45, c46, c47, c48, c49, c50, c51, c52, c53, c54, c55, c56, c57, c58, c59, c60, c61, c62, c63, c64, c65, c66, c67, c68, c69, c70, c71, c72, c73, c74, c75, c76, c77, c78, c79, c80, c81, c82, c83, c84, c85, c86, c87, c88, c89, c90, c91, c92, c93, c94, c95, c96, c97, c98, c99, c100, c101, c102, c103, c104, c105, c106, c107, c108, c109, c110, c111, c112, c113, c114, c115, c116, c117, c118, c119, c120, c121, c122, c123, c124, c125, c126, c127, c128, c129, c130, c131, c132, c133, c134, c135, c136, c137, c138, c139, c140, c141, c142, c143, c144, c145, c146, c147, c148, c149, c150, c151, c152, c153, c154, c155, c156, c157, c158, c159, c160, c161, c162, c163, c164, c165, c166, c167, c168, c169, c170, c171, c172, c173, c174, c175, c176, c177, c178, c179, c180, c181, c182, c183, c184, c185, c186, c187, c188, c189, c190, c191, c192, c193, c194, c195, c196, c197, c198, c199, c200, c201, c202, c203, c204, c205, c206, c207, c208, c209, c210, c211, c212, c213, c214, c215, c216, c217, c218, c219, c220, c221, c222, c223, c224, c225, c226, c227, c228, c229, c230, c231, c232, c233, c234, c235, c236, c237, c238, c239, c240, c241, c242, c243, c244, c245, c246, c247, c248, c249, c250, c251, c252, c253, c254, c255, c256, c257, c258, c259, c260, c261, c262, c263, c264, c265, c266, c267, c268, c269, c270, c271, c272, c273, c274, c275, c276, c277, c278, c279, c280, c281, c282], defers := [] } W := by
  have hnk : ∀ j, notBool (kV j) := fun j => (hG.ke j).notBool
  have hne : ∀ j, notBool (eV j) := fun j => (hG.ex j).notBool
  obtain ⟨i1, ji, jz0, jz1, jz2⟩ := info_parts info57
  conv => arg 2; whnf
  go_wp2_with fail
  go_loopw [14] (fun s14 wr => ∃ i : Nat, i ≤ n ∧ s14 = .int .i64 i ∧ Bld w mb n oB kV eV kS eS i wr) (fun s14 _ => 100 - (intOf s14).toNat)
  case atStart => exact ⟨0, Nat.zero_le _, rfl, hst⟩
  case round =>
    obtain ⟨i, hi', rfl, hB⟩ := hrel
    by_cases hin : i < n
    · obtain ⟨S, hSeq⟩ : ∃ S, S = wr := ⟨_, rfl⟩
      subst hSeq
      obtain ⟨e0, e1, e2⟩ := hB.rws i hin
      obtain ⟨ka, kc, hkv, hkel⟩ := hG.ke i
      obtain ⟨ea, ec, hev, heel⟩ := hG.ex i
      rw [hkv] at e1
      rw [hev] at e2
      have hneg : ¬ (i : Int) < 0 := by omega
      have hmb := hB.pre.hmb
      have hws := hB.pre.bel.size
      have hlA := hB.mA.lt
      have hlE := hB.mE.lt
      have hnew := hB.new
      have hsb : w.heap.size < S.heap.size := by omega
      have hK0 := hideT (Kin.start (mb := mb) hB.pre.bel hmb hB.mA hB.mE)
      have hsmi := hsm i hin
      go_upto_block 6 with fail
      go_cut [15, 17, 18] from 96 to 123 (fun s15 _ _ wx => Kin w S mb (mb + 1 + 1) (mb + 1 + 1 + 1) n (withRow (lowA n kS eS i) n i (kS i)) (lowE n eS i) (kS i) s15 wx)
      case first =>
        go_wp2_with fail
        go_loopw [15, 96] (fun s15 s96 wx => ∃ j : Nat, j ≤ (kS i).length ∧ s96 = .int .i64 j ∧ Kin w S mb (mb + 1 + 1) (mb + 1 + 1 + 1) n (withRow (lowA n kS eS i) n i ((kS i).take j)) (lowE n eS i) ((kS i).take j) s15 wx) (fun _ s96 _ => 1000 - (intOf s96).toNat)
        case atStart => exact ⟨0, Nat.zero_le _, rfl, by rw [List.take_zero]; exact (unhideT hK0).ext (fun a b _ _ => withRow_nil _ n i a b) (fun _ _ _ _ => rfl)⟩
        case round =>
          clear hK0
          obtain ⟨j, hj', rfl, hK⟩ := hrel
          by_cases hjl : j < (kS i).length
          · obtain ⟨c, hc⟩ : ∃ c, (kS i)[j]? = some c := ⟨(kS i)[j], by simp [hjl]⟩
            obtain ⟨hc0, hc1, b, off, rfl, hb, hcell⟩ := hkel j c hc
            have htk : (kS i).take (j + 1) = (kS i).take j ++ [c] := by rw [List.take_add_one, hc]; rfl
            have hcx := (hK.gr.bel.cell (p := ⟨b, off + j, none⟩) hb).trans hcell
            have hjneg : ¬ (j : Int) < 0 := by omega
            have hm0 : 0 ≤ c % ((n : Int) + 1) := Int.emod_nonneg _ (by omega)
            have hm1 : c % ((n : Int) + 1) < (n : Int) + 1 := Int.emod_lt_of_pos _ (by omega)
            obtain ⟨kk, hkk⟩ : ∃ kk : Nat, c % ((n : Int) + 1) = kk := ⟨(c % ((n : Int) + 1)).toNat, by omega⟩
            have hlt0 : ((kS i).take j).length = j := by simp; omega
            have hszx := hK.gr.size
            have HK := hideT hK
            have Hrow := hideT hK.row
            clear hK hcell hc
            by_cases hkn : kk = n
            · have hbn : ((kk : Int) == n) = true := by simp [hkn]
              have hkkn : c % ((n : Int) + 1) = n := by rw [hkk, hkn]
              go_wp2_with (at_builtin; refine wpList_append_own _ rfl _ _ 50 rfl S.heap.size 57 i1 .nilIface 1 16 Ybaf.underlying50 ji jz0 jz1 jz2 rfl (by decide) _ _ _ rfl ((unhideT Hrow).alloc _) ⟨_, 0, none⟩ 1 1 [.iface 52 (.agg #[.string ⟨#[112]⟩, .string ⟨#[113]⟩])] rfl rfl ?hc_1 ?h1_1 ?b1_1 ?b2_1 ?b3_1 ?nxt_1)
              try (case hc_1 => exact cells57_new _ _)
              case h1_1 => simp [Value.oneCell']
              case b1_1 => unfold maxLen; omega
              case b2_1 => omega
              case b3_1 => first | omega | (simp; omega)
              case nxt_1 =>
                intro v' w1 hown hgrow hnil
                have hK2 := hideT (((unhideT HK).push (c := c) hmb hws hlA hlE (tv_none hkkn) (by rw [hlt0, List.map_take]; exact hown) hgrow hnil).ext (fun a b _ hb => withRow_miss hkkn hb) (fun _ _ _ _ => rfl))
                clear hown hgrow hnil
                go_wp2
                exact ⟨⟨j + 1, by omega, rfl, by rw [htk]; exact unhideT hK2⟩, by simp [intOf]; omega⟩
            · have hbn : ((kk : Int) == n) = false := by simp; omega
              have hkn' : kk < n := by omega
              have hnk' := hideT (name_any kk (by omega))
              go_wp2_with (first | (go_at_call 9; refine (unhideT hnk' _).mono ?_; rintro e w' ⟨rfl, rfl⟩) | (at_builtin; refine wpList_append_own _ rfl _ _ 50 rfl S.heap.size 57 i1 .nilIface 1 16 Ybaf.underlying50 ji jz0 jz1 jz2 rfl (by decide) _ _ _ rfl ((unhideT Hrow).alloc _) ⟨_, 0, none⟩ 1 1 [.iface 53 (.string (nm (fn kk)))] rfl rfl ?hc_2 ?h1_2 ?b1_2 ?b2_2 ?b3_2 ?nxt_2))
              try (case hc_2 => exact cells57_new _ _)
              case h1_2 => simp [Value.oneCell']
              case b1_2 => unfold maxLen; omega
              case b2_2 => omega
              case b3_2 => first | omega | (simp; omega)
              case nxt_2 =>
                intro v' w1 hown hgrow hnil
                have hK2 := (unhideT HK).push (c := c) hmb hws hlA hlE (tv_some hn6 hkn' hkk) (by rw [hlt0, List.map_take]; exact hown) hgrow hnil
                have cA := hK2.mA.cel i kk hin hkn'
                have fA := hK2.mA.frozen (i * 6 + kk)
                have hK3 := hideT (hK2.setA (M' := withRow (lowA n kS eS i) n i ((kS i).take j ++ [c])) hn6 hin hkn' (by omega) (by omega) (by omega) hlA (fun a b _ _ => withRow_hit hkk a b))
                have hkneg : ¬ (kk : Int) < 0 := by omega
                have hi6 : (i : Int) < 6 := by omega
                have hk6 : (kk : Int) < 6 := by omega
                clear hown hgrow hnil hK2
                go_wp2
                exact ⟨⟨j + 1, by omega, rfl, by rw [htk]; exact unhideT hK3⟩, by simp [intOf]; omega⟩
          · obtain rfl : j = (kS i).length := by omega
            rw [List.take_length] at hK
            have HK := hideT hK
            clear hK
            go_wp2
            go_meet
            exact unhideT HK
      case rest =>
        obtain ⟨X4, hX4⟩ : ∃ X4, X4 = wc := ⟨_, rfl⟩
        subst hX4
        have hK4 := hcut
        clear hcut hK0
        have hmb4 : mb < X4.heap.size := Nat.lt_of_lt_of_le hmb hK4.gr.size
        have hws4 := hK4.gr.bel.size
        have hlA4 := hK4.mA.lt
        have hlE4 := hK4.mE.lt
        have hK5 := hideT (Kin.start (mb := mb) hK4.gr.bel hmb4 hK4.mA hK4.mE)
        have e2' : X4.cell? ⟨w.heap.size, i * 3 + 2, none⟩ = some (.slice ea (eS i).length ec) := hK4.gr.kept ⟨w.heap.size, i * 3 + 2, none⟩ _ hsb (fun b e => by cases e) e2
        have e0' : X4.cell? ⟨w.heap.size, i * 3, none⟩ = some (.int .u8 (oB i)) := hK4.gr.kept ⟨w.heap.size, i * 3, none⟩ _ hsb (fun b e => by cases e) e0
        have hsb4 : w.heap.size < X4.heap.size := by omega
        have hAE : mb + 1 + 1 + 1 ≠ mb + 1 + 1 := by omega
        have HK4 := hideT hK4
        clear hK4
        go_upto_block 8 with fail
        go_cut [19, 21, 22] from 131 to 162 (fun s19 _ _ wx => Kin w X4 mb (mb + 1 + 1) (mb + 1 + 1 + 1) n (withRow (lowA n kS eS i) n i (kS i ++ eS i)) (withRow (lowE n eS i) n i (eS i)) (eS i) s19 wx)
        case first =>
          go_wp2_with fail
          go_loopw [19, 131] (fun s19 s131 wx => ∃ j : Nat, j ≤ (eS i).length ∧ s131 = .int .i64 j ∧ Kin w X4 mb (mb + 1 + 1) (mb + 1 + 1 + 1) n (withRow (withRow (lowA n kS eS i) n i (kS i)) n i ((eS i).take j)) (withRow (lowE n eS i) n i ((eS i).take j)) ((eS i).take j) s19 wx) (fun _ s131 _ => 1000 - (intOf s131).toNat)
          case atStart => exact ⟨0, Nat.zero_le _, rfl, by rw [List.take_zero]; exact (unhideT hK5).ext (fun a b _ _ => withRow_nil _ n i a b) (fun a b _ _ => withRow_nil _ n i a b)⟩
          case round =>
            clear hK5
            obtain ⟨j, hj', rfl, hK⟩ := hrel
            by_cases hjl : j < (eS i).length
            · obtain ⟨c, hc⟩ : ∃ c, (eS i)[j]? = some c := ⟨(eS i)[j], by simp [hjl]⟩
              obtain ⟨hc0, hc1, b, off, rfl, hb, hcell⟩ := heel j c hc
              have htk : (eS i).take (j + 1) = (eS i).take j ++ [c] := by rw [List.take_add_one, hc]; rfl
              have hcx := (hK.gr.bel.cell (p := ⟨b, off + j, none⟩) hb).trans hcell
              have hjneg : ¬ (j : Int) < 0 := by omega
              have hm0 : 0 ≤ c % ((n : Int) + 1) := Int.emod_nonneg _ (by omega)
              have hm1 : c % ((n : Int) + 1) < (n : Int) + 1 := Int.emod_lt_of_pos _ (by omega)
              obtain ⟨kk, hkk⟩ : ∃ kk : Nat, c % ((n : Int) + 1) = kk := ⟨(c % ((n : Int) + 1)).toNat, by omega⟩
              have hlt0 : ((eS i).take j).length = j := by simp; omega
              have hszx := hK.gr.size
              have HK := hideT hK
              have Hrow := hideT hK.row
              clear hK hcell hc
              by_cases hkn : kk = n
              · have hbn : ((kk : Int) == n) = true := by simp [hkn]
                have hkkn : c % ((n : Int) + 1) = n := by rw [hkk, hkn]
                go_wp2_with (at_builtin; refine wpList_append_own _ rfl _ _ 50 rfl X4.heap.size 57 i1 .nilIface 1 16 Ybaf.underlying50 ji jz0 jz1 jz2 rfl (by decide) _ _ _ rfl ((unhideT Hrow).alloc _) ⟨_, 0, none⟩ 1 1 [.iface 52 (.agg #[.string ⟨#[112]⟩, .string ⟨#[113]⟩])] rfl rfl ?hc_3 ?h1_3 ?b1_3 ?b2_3 ?b3_3 ?nxt_3)
                try (case hc_3 => exact cells57_new _ _)
                case h1_3 => simp [Value.oneCell']
                case b1_3 => unfold maxLen; omega
                case b2_3 => omega
                case b3_3 => first | omega | (simp; omega)
                case nxt_3 =>
                  intro v' w1 hown hgrow hnil
                  have hK2 := hideT (((unhideT HK).push (c := c) hmb4 hws4 hlA4 hlE4 (tv_none hkkn) (by rw [hlt0, List.map_take]; exact hown) hgrow hnil).ext (fun a b _ hb => withRow_miss hkkn hb) (fun a b _ hb => withRow_miss hkkn hb))
                  clear hown hgrow hnil
                  go_wp2
                  exact ⟨⟨j + 1, by omega, rfl, by rw [htk]; exact unhideT hK2⟩, by simp [intOf]; omega⟩
              · have hbn : ((kk : Int) == n) = false := by simp; omega
                have hkn' : kk < n := by omega
                have hnk' := hideT (name_any kk (by omega))
                go_wp2_with (first | (go_at_call 9; refine (unhideT hnk' _).mono ?_; rintro e w' ⟨rfl, rfl⟩) | (at_builtin; refine wpList_append_own _ rfl _ _ 50 rfl X4.heap.size 57 i1 .nilIface 1 16 Ybaf.underlying50 ji jz0 jz1 jz2 rfl (by decide) _ _ _ rfl ((unhideT Hrow).alloc _) ⟨_, 0, none⟩ 1 1 [.iface 53 (.string (nm (fn kk)))] rfl rfl ?hc_4 ?h1_4 ?b1_4 ?b2_4 ?b3_4 ?nxt_4))
                try (case hc_4 => exact cells57_new _ _)
                case h1_4 => simp [Value.oneCell']
                case b1_4 => unfold maxLen; omega
                case b2_4 => omega
                case b3_4 => first | omega | (simp; omega)
                case nxt_4 =>
                  intro v' w1 hown hgrow hnil
                  have hK2 := (unhideT HK).push (c := c) hmb4 hws4 hlA4 hlE4 (tv_some hn6 hkn' hkk) (by rw [hlt0, List.map_take]; exact hown) hgrow hnil
                  have cA := hK2.mA.cel i kk hin hkn'
                  have fA := hK2.mA.frozen (i * 6 + kk)
                  have cE := hK2.mE.cel i kk hin hkn'
                  have fE := hK2.mE.frozen (i * 6 + kk)
                  have hK3 := hideT ((hK2.setA (M' := withRow (withRow (lowA n kS eS i) n i (kS i)) n i ((eS i).take j ++ [c])) hn6 hin hkn' (by omega) (by omega) (by omega) hlA4 (fun a b _ _ => withRow_hit hkk a b)).setE (M' := withRow (lowE n eS i) n i ((eS i).take j ++ [c])) hn6 hin hkn' (by omega) (by omega) (by omega) hlE4 (fun a b _ _ => withRow_hit hkk a b))
                  have hkneg : ¬ (kk : Int) < 0 := by omega
                  have hi6 : (i : Int) < 6 := by omega
                  have hk6 : (kk : Int) < 6 := by omega
                  clear hown hgrow hnil hK2
                  go_wp2
                  exact ⟨⟨j + 1, by omega, rfl, by rw [htk]; exact unhideT hK3⟩, by simp [intOf]; omega⟩
            · obtain rfl : j = (eS i).length := by omega
              rw [List.take_length] at hK
              have HK := hideT (hK.ext (fun a b _ _ => (withRow_app (lowA n kS eS i) n i (kS i) (eS i) a b).symm) (fun _ _ _ _ => rfl))
              clear hK
              go_wp2
              go_meet
              exact unhideT HK
        case rest =>
          obtain ⟨X5, hX5⟩ : ∃ X5, X5 = wc := ⟨_, rfl⟩
          subst hX5
          have hK6 := hcut
          clear hcut hK5
          have hK4 := unhideT HK4
          obtain ⟨gk, ck, rfl, hgk1, hgk2, hgk3⟩ := hK4.opened
          obtain ⟨ge, ce, rfl, hge1, hge2, hge3⟩ := hK6.opened
          obtain ⟨f, rb, hmap, hrels⟩ := hB.pre.rels
          have hGr := hK4.gr.trans hK6.gr
          have hk5 : ∀ j c, (kS i)[j]? = some c → X5.cell? ⟨gk, j, none⟩ = some (tv (lf n c)) := fun j c hc => hK6.gr.kept ⟨gk, j, none⟩ _ hgk2 (fun b e => by obtain ⟨t, x, h⟩ := tv_iface (lf n c); rw [h] at e; cases e) (hgk3 j c hc)
          have e0'' : X5.cell? ⟨w.heap.size, i * 3, none⟩ = some (.int .u8 (oB i)) := hK6.gr.kept ⟨w.heap.size, i * 3, none⟩ _ hsb4 (fun b e => by cases e) e0'
          have hmX := hmap.of_block hGr.map
          have ctb : X5.cell? ⟨mb + 1, 2, none⟩ = some (.map (some mb)) := hGr.kept _ _ hB.pre.htb (fun b e => by cases e) hB.pre.cell
          have htb := hB.pre.htb
          have ltb0 : mb + 1 < X5.heap.size := by have := hGr.size; omega
          have ltb1 : mb + 1 < X5.heap.size + 1 := by omega
          have ltb2 : mb + 1 < X5.heap.size + 1 + 1 := by omega
          have mA5 := hK6.mA.ext (fun a b _ _ => withRow_lowA n i kS eS a b)
          have mE5 := hK6.mE.ext (fun a b _ _ => withRow_lowE n i eS a b)
          have hi26 : i < 26 := by omega
          have hni := hideT (name_any i hi26)
          have hobi := hG.ob i
          have hjj1 := fun op hop => join_any n op hop (kS i) gk ck X5 hk5 (Nat.lt_of_lt_of_le hgk2 hK6.gr.size) hsmi.1
          have hjj2 := fun op hop => join_any n op hop (eS i) ge ce X5 hge3 hge2 hsmi.2
          have HmX := hideT hmX
          have HGr := hideT hGr
          have HA5 := hideT mA5
          have HE5 := hideT mE5
          have HB := hideT hB
          have Hrels := hideT hrels
          clear hmX hGr mA5 mE5 hB hrels hmap hK6 hK4 HK4 hk5 hgk3 hge3 hkel heel
          by_cases hpar : oB i % 2 = 1
          · have hop : opN oB i = 1 := by simp [opN, hpar]
            have hparb : ((oB i % 2) == 1) = true := by simp [hpar]
            have hj1 : Hid (Calls Ybaf.prog 10 #[.int .i64 1, .slice (some ⟨gk, 0, none⟩) (kS i).length ck] X5 fun e w' => w' = X5 ∧ ∃ v, e = .returned v ∧ ((kS i = [] ∧ v = .nilIface) ∨ (∃ t x, v = .iface t x)) ∧ IsTm X5.heap.size X5 1 v (joinL n 1 (kS i))) := hjj1 1 (by omega)
            by_cases hel : eS i = []
            · have hel0 : (eS i).length = 0 := by rw [hel]; rfl
              have hexp : exprL n (opN oB i) (kS i) (eS i) = joinL n 1 (kS i) := by rw [hop, hel]; rfl
              clear hjj1 hjj2
              go_wp2_with (first | (go_at_call 10; refine (unhideT hj1).mono ?_; clear hj1; rintro e w' ⟨hw', v1, rfl, (⟨hks, rfl⟩ | ⟨t1, x1, rfl⟩), ht1⟩ <;> obtain rfl := hw'.symm) | (go_at_call 9; refine (unhideT hni _).mono ?_; rintro e w' ⟨rfl, hw'⟩; obtain rfl := hw'.symm) | (at_mapUpdate; refine wpList_mapUpdate_is rfl _ _ _ 44 61 rfl Ybaf.underlying44 mb i f rfl ?_ ?_ (nm (fn i)) _ rfl rfl (nm_size _) ?_))
              all_goals first
                | ((repeat (first | exact unhideT HmX | apply MapIs.drew | apply MapIs.alloc)); done)
                | (unfold maxLen; omega)
                | (intro w' hm' ht'
                   have hBn : Bld w mb n oB kV eV kS eS (i + 1) w' := by
                     refine Bld.step (h := 1) (unhideT HB) hi26 hnk hne (unhideT Hrels) (by repeat (first | exact unhideT HGr | apply Gr.drew | (refine Gr.alloc ?_ hmb _))) (by repeat (first | exact unhideT HA5 | apply Mat.drew | apply Mat.alloc)) (by repeat (first | exact unhideT HE5 | apply Mat.drew | apply Mat.alloc)) hm' ht' (by simp) (by go_simp) (by go_simp; try rfl) ?_
                     rw [hexp]
                     exact (ht1.kept (CellsKept.alloc X5 _)).mono (by simp)
                   have HBn := hideT hBn
                   clear hBn hm' ht'
                   go_wp2
                   exact ⟨⟨i + 1, by omega, rfl, unhideT HBn⟩, by simp [intOf]; omega⟩)
            · have help : (0 : Int) < (eS i).length := by
                have := List.length_pos_iff.2 hel
                omega
              have hexp : exprL n (opN oB i) (kS i) (eS i) = weak 1 (joinL n 1 (kS i)) ++ weak 2 (joinL n 1 (eS i)) := by
                rw [hop]
                cases hh : eS i with
                | nil => exact absurd hh hel
                | cons x r => rfl
              have hj2 : Hid (Calls Ybaf.prog 10 #[.int .i64 1, .slice (some ⟨ge, 0, none⟩) (eS i).length ce] X5 fun e w' => w' = X5 ∧ ∃ v, e = .returned v ∧ (∃ t x, v = .iface t x) ∧ IsTm X5.heap.size X5 1 v (joinL n 1 (eS i))) := (hjj2 1 (by omega)).mono fun e w' ⟨h1, v, h2, h3, h4⟩ => ⟨h1, v, h2, h3.elim (fun h => absurd h.1 hel) id, h4⟩
              clear hjj1 hjj2
              go_wp2_with (first | (go_at_call 10; refine (unhideT hj1).mono ?_; clear hj1; rintro e w' ⟨hw', v1, rfl, (⟨hks, rfl⟩ | ⟨t1, x1, rfl⟩), ht1⟩ <;> obtain rfl := hw'.symm) | (go_at_call 10; refine (unhideT hj2).mono ?_; clear hj2; rintro e w' ⟨hw', v2, rfl, ⟨t2, x2, rfl⟩, ht2⟩; obtain rfl := hw'.symm) | (go_at_call 9; refine (unhideT hni _).mono ?_; rintro e w' ⟨rfl, hw'⟩; obtain rfl := hw'.symm) | (at_mapUpdate; refine wpList_mapUpdate_is rfl _ _ _ 44 61 rfl Ybaf.underlying44 mb i f rfl ?_ ?_ (nm (fn i)) _ rfl rfl (nm_size _) ?_))
              all_goals first
                | ((repeat (first | exact unhideT HmX | apply MapIs.drew | apply MapIs.alloc)); done)
                | (unfold maxLen; omega)
                | (intro w' hm' ht'
                   have hBn : Bld w mb n oB kV eV kS eS (i + 1) w' := by
                     refine Bld.step (h := 2) (unhideT HB) hi26 hnk hne (unhideT Hrels) (by repeat (first | exact unhideT HGr | apply Gr.drew | (refine Gr.alloc ?_ hmb _))) (by repeat (first | exact unhideT HA5 | apply Mat.drew | apply Mat.alloc)) (by repeat (first | exact unhideT HE5 | apply Mat.drew | apply Mat.alloc)) hm' ht' (by simp) (by go_simp) (by go_simp; try rfl) ?_
                     rw [hexp]
                     exact isTm_butnot (b := X5.heap.size) (by simp <;> omega) (by go_simp; try rfl) (by go_simp; try rfl) ((ht1.kept ((CellsKept.alloc X5 _).trans (CellsKept.alloc _ _))).mono (by simp <;> omega)) ((ht2.kept ((CellsKept.alloc X5 _).trans (CellsKept.alloc _ _))).mono (by simp <;> omega))
                   have HBn := hideT hBn
                   clear hBn hm' ht'
                   go_wp2
                   exact ⟨⟨i + 1, by omega, rfl, unhideT HBn⟩, by simp [intOf]; omega⟩)
          · have hop : opN oB i = 0 := by simp [opN, hpar]
            have hparb : ((oB i % 2) == 1) = false := by simp; omega
            have hj1 : Hid (Calls Ybaf.prog 10 #[.int .i64 0, .slice (some ⟨gk, 0, none⟩) (kS i).length ck] X5 fun e w' => w' = X5 ∧ ∃ v, e = .returned v ∧ ((kS i = [] ∧ v = .nilIface) ∨ (∃ t x, v = .iface t x)) ∧ IsTm X5.heap.size X5 1 v (joinL n 0 (kS i))) := hjj1 0 (by omega)
            by_cases hel : eS i = []
            · have hel0 : (eS i).length = 0 := by rw [hel]; rfl
              have hexp : exprL n (opN oB i) (kS i) (eS i) = joinL n 0 (kS i) := by rw [hop, hel]; rfl
              clear hjj1 hjj2
              go_wp2_with (first | (go_at_call 10; refine (unhideT hj1).mono ?_; clear hj1; rintro e w' ⟨hw', v1, rfl, (⟨hks, rfl⟩ | ⟨t1, x1, rfl⟩), ht1⟩ <;> obtain rfl := hw'.symm) | (go_at_call 9; refine (unhideT hni _).mono ?_; rintro e w' ⟨rfl, hw'⟩; obtain rfl := hw'.symm) | (at_mapUpdate; refine wpList_mapUpdate_is rfl _ _ _ 44 61 rfl Ybaf.underlying44 mb i f rfl ?_ ?_ (nm (fn i)) _ rfl rfl (nm_size _) ?_))
              all_goals first
                | ((repeat (first | exact unhideT HmX | apply MapIs.drew | apply MapIs.alloc)); done)
                | (unfold maxLen; omega)
                | (intro w' hm' ht'
                   have hBn : Bld w mb n oB kV eV kS eS (i + 1) w' := by
                     refine Bld.step (h := 1) (unhideT HB) hi26 hnk hne (unhideT Hrels) (by repeat (first | exact unhideT HGr | apply Gr.drew | (refine Gr.alloc ?_ hmb _))) (by repeat (first | exact unhideT HA5 | apply Mat.drew | apply Mat.alloc)) (by repeat (first | exact unhideT HE5 | apply Mat.drew | apply Mat.alloc)) hm' ht' (by simp) (by go_simp) (by go_simp; try rfl) ?_
                     rw [hexp]
                     exact (ht1.kept (CellsKept.alloc X5 _)).mono (by simp)
                   have HBn := hideT hBn
                   clear hBn hm' ht'
                   go_wp2
                   exact ⟨⟨i + 1, by omega, rfl, unhideT HBn⟩, by simp [intOf]; omega⟩)
            · have help : (0 : Int) < (eS i).length := by
                have := List.length_pos_iff.2 hel
                omega
              have hexp : exprL n (opN oB i) (kS i) (eS i) = weak 1 (joinL n 0 (kS i)) ++ weak 2 (joinL n 0 (eS i)) := by
                rw [hop]
                cases hh : eS i with
                | nil => exact absurd hh hel
                | cons x r => rfl
              have hj2 : Hid (Calls Ybaf.prog 10 #[.int .i64 0, .slice (some ⟨ge, 0, none⟩) (eS i).length ce] X5 fun e w' => w' = X5 ∧ ∃ v, e = .returned v ∧ (∃ t x, v = .iface t x) ∧ IsTm X5.heap.size X5 1 v (joinL n 0 (eS i))) := (hjj2 0 (by omega)).mono fun e w' ⟨h1, v, h2, h3, h4⟩ => ⟨h1, v, h2, h3.elim (fun h => absurd h.1 hel) id, h4⟩
              clear hjj1 hjj2
              go_wp2_with (first | (go_at_call 10; refine (unhideT hj1).mono ?_; clear hj1; rintro e w' ⟨hw', v1, rfl, (⟨hks, rfl⟩ | ⟨t1, x1, rfl⟩), ht1⟩ <;> obtain rfl := hw'.symm) | (go_at_call 10; refine (unhideT hj2).mono ?_; clear hj2; rintro e w' ⟨hw', v2, rfl, ⟨t2, x2, rfl⟩, ht2⟩; obtain rfl := hw'.symm) | (go_at_call 9; refine (unhideT hni _).mono ?_; rintro e w' ⟨rfl, hw'⟩; obtain rfl := hw'.symm) | (at_mapUpdate; refine wpList_mapUpdate_is rfl _ _ _ 44 61 rfl Ybaf.underlying44 mb i f rfl ?_ ?_ (nm (fn i)) _ rfl rfl (nm_size _) ?_))
              all_goals first
                | ((repeat (first | exact unhideT HmX | apply MapIs.drew | apply MapIs.alloc)); done)
                | (unfold maxLen; omega)
                | (intro w' hm' ht'
                   have hBn : Bld w mb n oB kV eV kS eS (i + 1) w' := by
                     refine Bld.step (h := 2) (unhideT HB) hi26 hnk hne (unhideT Hrels) (by repeat (first | exact unhideT HGr | apply Gr.drew | (refine Gr.alloc ?_ hmb _))) (by repeat (first | exact unhideT HA5 | apply Mat.drew | apply Mat.alloc)) (by repeat (first | exact unhideT HE5 | apply Mat.drew | apply Mat.alloc)) hm' ht' (by simp) (by go_simp) (by go_simp; try rfl) ?_
                     rw [hexp]
                     exact isTm_butnot (b := X5.heap.size) (by simp <;> omega) (by go_simp; try rfl) (by go_simp; try rfl) ((ht1.kept ((CellsKept.alloc X5 _).trans (CellsKept.alloc _ _))).mono (by simp <;> omega)) ((ht2.kept ((CellsKept.alloc X5 _).trans (CellsKept.alloc _ _))).mono (by simp <;> omega))
                   have HBn := hideT hBn
                   clear hBn hm' ht'
                   go_wp2
                   exact ⟨⟨i + 1, by omega, rfl, unhideT HBn⟩, by simp [intOf]; omega⟩)
    · obtain rfl : i = n := by omega
      have HB := hideT hB
      clear hB
      go_wp2
      first | exact unhideT HB | exact hK _ _ _ _ _ _ _ _ _ _ _ _ _ _ _ _ _ _ _ _ _ _ _ _ _ _ _ _ _ _ _ _ _ _ _ _ _ _ _ _ _ _ _ _ _ _ _ _ _ _ _ _ _ _ _ _ _ _ _ _ _ _ _ _ _ _ _ _ _ _ _ _ _ _ _ _ _ _ _ _ _ _ _ _ _ _ _ _ _ _ _ _ _ _ _ _ _ _ _ _ _ _ _ _ _ _ _ _ _ _ _ _ _ _ _ _ _ _ _ _ _ (unhideT HB)
end Go.Proofs.YbulkdblgFmt
