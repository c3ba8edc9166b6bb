/- The light parser's read: the exponent, a part of the walk. -/
import Derived.Test.YtdfbokmjipdolaaGreatDoorE5P
import Derived.Outline
set_option linter.unusedVariables false
set_option linter.unusedSimpArgs false
namespace Go.Proofs.YtdfbokmjipdolaaGreatDoor
open Go.RowKit

/-- the branch on slot n -/
def fCond (n : Nat) : Code → Option Code
  | .cond (.tmp m) a b => if m = n then some (.cond (.tmp m) a b) else match fCond n a with
    | some c => some c
    | none => fCond n b
  | .seq a b => match fCond n a with
    | some c => some c
    | none => fCond n b
  | .block _ c => fCond n c
  | .loop c => fCond n c
  | .scope c => fCond n c
  | _ => none
noncomputable def expC : Code := ((Tryz.f53.body.bind (fCond 143)).getD .skip)
set_option maxRecDepth 1000000 in
set_option maxHeartbeats 8000000 in
theorem expL (hex : Bool) (S t : ByteArray) (w wc : World) (k : Nat) (x : Int) (MK : Bool) (c1 c2 c3 c4 c6 c7 c8 c9 c12 c13 c14 c15 c16 c17 c18 c19 c20 c21 c22 c23 c24 c25 c26 c27 c28 c29 c30 c31 c32 c33 c34 c35 c36 c37 c38 c39 c40 c41 c42 c43 c44 c45 c46 c47 c48 c49 c50 c51 c52 c53 c54 c55 c56 c57 c58 c59 c60 c61 c62 c63 c64 c65 c66 c67 c68 c69 c70 c71 c72 c73 c74 c75 c76 c77 c78 c79 c80 c81 c82 c83 c84 c85 c86 c87 c88 c89 c90 c91 c92 c93 c94 c95 c96 c97 c98 c99 c100 c101 c102 c103 c104 c105 c106 c107 c108 c109 c110 c111 c112 c113 c114 c115 c116 c117 c118 c119 c120 c121 c122 c123 c124 c125 c126 c127 c128 c129 c130 c131 c132 c133 c134 c135 c136 c137 c138 c139 c140 c141 c142 c144 c145 c146 c147 c148 c149 c150 c151 c152 c153 c154 c155 c156 c157 c158 c159 c160 c161 c162 c163 c164 c165 c166 c167 c168 c169 c170 c171 c172 c173 c174 c175 c176 c177 c178 c179 c180 c181 c182 c183 c184 c185 c186 c187 c188 c189 c190 c191 c192 c193 c194 c195 c196 c197 c198 c199 c200 c201 c202 c203 c204 c205 c206 c207 c208 c209 c210 c211 c212 c213 c214 c215 c216 c217 c218 c219 c220 c221 c222 c223 c224 c225 c226 c227 c228 c229 c230 c231 c232 c233 c234 c235 c236 c237 c238 c239 c240 c241 c242 c243 c244 c245 c246 c247 c248 c249 c250 c251 c252 c253 c254 c255 c256 c257 c258 c259 c260 c261 c262 c263 c264 c265 c266 : Value)
    (J K' : Act → World → Prop) (hts : t.size ≤ 400) (hk : k ≤ t.size) (bx1 : -2000 ≤ x ∧ x ≤ 2000) (HMK : Hid (MK = mkAt hex (bsN t) k)) (HNO : Hid (lXe hex ((bsN t).drop k) = none → lread (bsN S) = none)) (HBel : Hid (Below w.heap.size w wc))
    (hK : ∀ a' w2, Met J a' w2 → K' a' w2)
    (hJ : ∀ a' w2, (∃ u2 u3 u10 u11 u14 u15 u17 u18 u19 u20 u21 u22 u23 u24 u25 u26 u27 u28 u29 u30 u31 u32 u33 u34 u35 u36 u37 u38 u39 u40 u41 u42 u44 u45 u47 u48 u49 u50 u51 u52 u54 u55 u56 u57 u58 u59 u60 u61 u63 u64 u65 u66 u67 u68 u69 u70 u71 u72 u73 u74 u75 u76 u77 u78 u79 u80 u81 u82 u83 u84 u85 u86 u87 u88 u89 u90 u91 u92 u93 u94 u95 u96 u97 u98 u99 u100 u101 u102 u103 u104 u106 u107 u108 u109 u110 u111 u112 u113 u114 u115 u116 u117 u118 u119 u121 u122 u123 u124 u125 u126 u127 u128 u129 u130 u131 u132 u133 u134 u135 u136 u137 u138 u139 u140 u141 u142 u143 u144 u145 u146 u147 u148 u149 u150 u151 u152 u153 u154 u155 u156 u157 u158 u159 u160 u161 u162 u163 u164 u165 u166 u167 u168 u169 u170 u171 u172 u173 u174 u175 u176 u177 u178 u179 u180 u181 u182 u183 u184 u185 u186 u187 u188 u189 u190 u191 u192 u193 u194 u195 u196 u197 u198 u199 u200 u201 u202 u203 u204 u205 u206 u207 u208 u209 u210 u211 u212 u213 u214 u215 u216 u217 u218 u219 u220 u221 u222 u223 u224 u225 u226 u227 u228 u229 u230 u231 u232 u233 u234 u235 u236 u237 u238 u239 u240 u241 u242 u243 u244 u245 u246 u247 u248 u249 u250 u252 u253 u254 u255 u256 u257 u258 u259 u261 u262 u263 u264 u265 u266 : Value, (∃ (i : Nat) (e : Int), i ≤ t.size ∧ u11 = .int .i64 i ∧ u10 = .int .i64 (x + e) ∧ -100000 ≤ e ∧ e ≤ 100000 ∧ lXe hex ((bsN t).drop k) = (if i = t.size then some e else none) ∧ w2 = wc) ∧ a' = ⟨#[.string t, c1, u2, u3, c4, .bool hex, c6, c7, c8, c9, u10, u11, c12, c13, u14, u15, c16, u17, u18, u19, u20, u21, u22, u23, u24, u25, u26, u27, u28, u29, u30, u31, u32, u33, u34, u35, u36, u37, u38, u39, u40, u41, u42, c43, u44, u45, c46, u47, u48, u49, u50, u51, u52, c53, u54, u55, u56, u57, u58, u59, u60, u61, c62, u63, u64, u65, u66, u67, u68, u69, u70, u71, u72, u73, u74, u75, u76, u77, u78, u79, u80, u81, u82, u83, u84, u85, u86, u87, u88, u89, u90, u91, u92, u93, u94, u95, u96, u97, u98, u99, u100, u101, u102, u103, u104, c105, u106, u107, u108, u109, u110, u111, u112, u113, u114, u115, u116, u117, u118, u119, c120, u121, u122, u123, u124, u125, u126, u127, u128, u129, u130, u131, u132, u133, u134, u135, u136, u137, u138, u139, u140, u141, u142, u143, u144, u145, u146, u147, u148, u149, u150, u151, u152, u153, u154, u155, u156, u157, u158, u159, u160, u161, u162, u163, u164, u165, u166, u167, u168, u169, u170, u171, u172, u173, u174, u175, u176, u177, u178, u179, u180, u181, u182, u183, u184, u185, u186, u187, u188, u189, u190, u191, u192, u193, u194, u195, u196, u197, u198, u199, u200, u201, u202, u203, u204, u205, u206, u207, u208, u209, u210, u211, u212, u213, u214, u215, u216, u217, u218, u219, u220, u221, u222, u223, u224, u225, u226, u227, u228, u229, u230, u231, u232, u233, u234, u235, u236, u237, u238, u239, u240, u241, u242, u243, u244, u245, u246, u247, u248, u249, u250, c251, u252, u253, u254, u255, u256, u257, u258, u259, c260, u261, u262, u263, u264, u265, u266], []⟩) → J a' w2) :
    Code.wp Tryz.prog expC (Exit.then K' (bodyPost Tryz.prog Tryz.f53 (RDPost (bsN S) w))) ⟨#[.string t, c1, c2, c3, c4, .bool hex, c6, c7, c8, c9, .int .i64 x, .int .i64 k, c12, c13, c14, c15, c16, c17, c18, c19, c20, c21, c22, c23, c24, c25, c26, c27, c28, c29, c30, c31, c32, c33, c34, c35, c36, c37, c38, c39, c40, c41, c42, c43, c44, c45, c46, c47, c48, c49, c50, c51, c52, c53, c54, c55, c56, c57, c58, c59, c60, c61, c62, c63, c64, c65, c66, c67, c68, c69, c70, c71, c72, c73, c74, c75, c76, c77, c78, c79, c80, c81, c82, c83, c84, c85, c86, c87, c88, c89, c90, c91, c92, c93, c94, c95, c96, c97, c98, c99, c100, c101, c102, c103, c104, c105, c106, c107, c108, c109, c110, c111, c112, c113, c114, c115, c116, c117, c118, c119, c120, c121, c122, c123, c124, c125, c126, c127, c128, c129, c130, c131, c132, c133, c134, c135, c136, c137, c138, c139, c140, c141, c142, .bool MK, c144, c145, c146, c147, c148, c149, c150, c151, c152, c153, c154, c155, c156, c157, c158, c159, c160, c161, c162, c163, c164, c165, c166, c167, c168, c169, c170, c171, c172, c173, c174, c175, c176, c177, c178, c179, c180, c181, c182, c183, c184, c185, c186, c187, c188, c189, c190, c191, c192, c193, c194, c195, c196, c197, c198, c199, c200, c201, c202, c203, c204, c205, c206, c207, c208, c209, c210, c211, c212, c213, c214, c215, c216, c217, c218, c219, c220, c221, c222, c223, c224, c225, c226, c227, c228, c229, c230, c231, c232, c233, c234, c235, c236, c237, c238, c239, c240, c241, c242, c243, c244, c245, c246, c247, c248, c249, c250, c251, c252, c253, c254, c255, c256, c257, c258, c259, c260, c261, c262, c263, c264, c265, c266], []⟩ wc := by
  conv => arg 2; whnf
  cases MK
  · as_aux_lemma =>
      cases hex
      · go_wp2_with fail
        go_meet
        refine ⟨k, 0, hk, rfl, vi (by omega), by omega, by omega, ?_, rfl⟩
        unfold lXe
        rw [mkAt_zero, ← HMK.out, if_neg (by decide), if_neg (by decide)]
        by_cases he : k = t.size
        · rw [if_pos he, if_pos (bsN_drop_end t k (by omega))]
        · rw [if_neg he, if_neg (by rw [bsN_drop t k (by omega)]; simp)]
      · have Hn := Lib.hid (HNO.out (show lXe true ((bsN t).drop k) = none by unfold lXe; rw [mkAt_zero, ← HMK.out, if_neg (by decide), if_pos rfl]))
        go_wp2_with fail
        go_ret2
        exact RDPost.no Hn.out HBel.out rfl
  · have hk1 : k < t.size := by
      refine Decidable.byContradiction fun h => ?_
      have := HMK.out; rw [mkAt_end (by omega)] at this; cases this
    have Hsx2 := Lib.hid (show lXe hex ((bsN t).drop k) = match xr1 (xSg ((bsN t).drop (k + 1))) (xRest ((bsN t).drop (k + 1))) with
        | some ((e, _), []) => some e
        | _ => none by unfold lXe; rw [mkAt_zero, ← HMK.out, if_pos rfl, List.tail_drop, xRead_eq] <;> rfl)
    obtain ⟨SG, hSG⟩ : ∃ SG, SG = xSg ((bsN t).drop (k + 1)) := ⟨_, rfl⟩
    have hSG2 := xSg_or ((bsN t).drop (k + 1))
    obtain ⟨DW, hDW⟩ : ∃ DW, DW = decide (xSg ((bsN t).drop (k + 1)) = -1) := ⟨_, rfl⟩
    have HDW := Lib.hid hDW
    have HSG := Lib.hid hSG
    rw [← hSG] at hSG2 Hsx2
    have HDS := Lib.hid (show (DW = true → SG = -1) ∧ (DW = false → SG = 1) by
      rw [hDW, ← hSG]
      constructor
      · intro h; simpa using h
      · intro h
        have : ¬ SG = -1 := by simpa using h
        rcases hSG2 with h | h
        · exact h
        · exact absurd h this)
    clear hDW hSG hSG2
    go_upto_region 39 with fail
    go_cut [14] (fun s14 w2 => s14 = .bool DW ∧ w2 = wc)
    case first =>
      as_aux_lemma =>
        by_cases h1 : k + 1 < t.size
        · have Hd := Lib.hid (bsN_drop t (k + 1) h1)
          go_wp2_with fail
          go_meet
          exact ⟨vb (by rw [HDW.out, Hd.out]; unfold xSg; rw [Bool.eq_iff_iff]; simp; omega), rfl⟩
        · go_wp2_with fail
          go_meet
          exact ⟨vb (by rw [HDW.out, bsN_drop_end t (k + 1) (by omega)]; rfl), rfl⟩
    case rest =>
      obtain ⟨rfl, rfl⟩ := hcut
      go_upto_region 40 with fail
      obtain ⟨PM, hPM⟩ : ∃ PM, PM = (((bsN t).drop (k + 1)).head? == some 45 || ((bsN t).drop (k + 1)).head? == some 43) := ⟨_, rfl⟩
      have HPM := Lib.hid hPM
      clear hPM
      go_cut [171] (fun v w2 => v = .bool PM ∧ w2 = wc)
      case first =>
        as_aux_lemma =>
          by_cases h1 : k + 1 < t.size
          · have Hd := Lib.hid (bsN_drop t (k + 1) h1)
            go_wp2_with fail
            all_goals
              go_meet
              exact ⟨vb (by rw [HPM.out, Hd.out, Bool.eq_iff_iff]; simp; omega), rfl⟩
          · go_wp2_with fail
            go_meet
            exact ⟨vb (by rw [HPM.out, bsN_drop_end t (k + 1) (by omega)]; rfl), rfl⟩
      case rest =>
        obtain ⟨rfl, rfl⟩ := hcut
        go_upto_if 171 with fail
        go_cut [11] (fun s11 w2 => ∃ i2 : Nat, s11 = .int .i64 i2 ∧ k + 1 ≤ i2 ∧ i2 ≤ k + 2 ∧ i2 ≤ t.size ∧ (bsN t).drop i2 = xRest ((bsN t).drop (k + 1)) ∧ w2 = wc)
        case first =>
          as_aux_lemma =>
            have Hpr := Lib.hid (show (PM = true → k + 1 < t.size ∧ xRest ((bsN t).drop (k + 1)) = (bsN t).drop (k + 2)) ∧ (PM = false → xRest ((bsN t).drop (k + 1)) = (bsN t).drop (k + 1)) by
              rw [HPM.out]
              constructor
              · intro h
                have hlt : k + 1 < t.size := by
                  refine Decidable.byContradiction fun hc => ?_
                  rw [bsN_drop_end t (k + 1) (by omega)] at h; simp at h
                refine ⟨hlt, ?_⟩
                unfold xRest
                rw [if_pos (by simpa using h), List.tail_drop]
              · intro h
                unfold xRest
                rw [if_neg (by simpa using h)])
            cases PM
            · go_wp2_with fail
              go_meet
              exact ⟨k + 1, by go_num, by omega, by omega, by omega, (Hpr.out.2 (by first | rfl | trivial)).symm, rfl⟩
            · have hh := Hpr.out.1 rfl
              have hl1 := hh.1
              have Hh := Lib.hid hh.2
              clear hh
              go_wp2_with fail
              go_meet
              exact ⟨k + 2, by go_num, by omega, by omega, by omega, Hh.out.symm, rfl⟩
        case rest =>
          obtain ⟨i2, rfl, c1, c2, c3, hx2, rfl⟩ := hcut
          have Hsx3 := Lib.hid (show lXe hex ((bsN t).drop k) = match xr1 SG ((bsN t).drop i2) with
              | some ((e, _), []) => some e
              | _ => none by rw [Hsx2.out, ← hx2])
          clear hx2
          obtain ⟨BD, hBD⟩ : ∃ BD, BD = badFront ((bsN t).drop i2) := ⟨_, rfl⟩
          have HBD := Lib.hid hBD
          clear hBD
          go_upto_region 42 with fail
          go_cut [189] (fun v w2 => v = .bool BD ∧ w2 = wc)
          case first =>
            as_aux_lemma =>
              by_cases h2 : i2 < t.size
              · have Hq := Lib.hid (badF_in h2)
                go_wp2_with fail
                all_goals
                  go_meet
                  refine ⟨vb (by rw [HBD.out, Hq.out, Bool.eq_iff_iff]; simp; omega), rfl⟩
              · go_wp2_with fail
                go_meet
                exact ⟨vb (by rw [HBD.out, badF_end (by omega)]), rfl⟩
          case rest =>
            obtain ⟨rfl, rfl⟩ := hcut
            cases BD
            · have Hsx4 := Lib.hid (show lXe hex ((bsN t).drop k) = match (eRun ((bsN t).drop i2) 0 false).2 with
                  | [] => some (((eRun ((bsN t).drop i2) 0 false).1.1 : Int) * SG)
                  | _ => none by
                rw [Hsx3.out, xr1_okF _ _ HBD.out.symm]
                generalize eRun ((bsN t).drop i2) 0 false = R
                obtain ⟨⟨e, u⟩, r⟩ := R
                cases r <;> rfl)
              go_upto_block 4 with fail
              go_cut [11, 15] (fun s11 s15 w2 => ∃ (j e : Nat) (u : Bool), j ≤ t.size ∧ s11 = .int .i64 j ∧ s15 = .int .i64 e ∧ e ≤ 99999 ∧ eRun ((bsN t).drop i2) 0 false = ((e, u), (bsN t).drop j) ∧ w2 = wc)
              case first =>
                as_aux_lemma =>
                  go_wp2_with fail
                  go_loopg [11, 15] (t.size - i2) (fun g s11 s15 w2 => ∃ (j e : Nat) (u : Bool), j ≤ t.size ∧ g = t.size - j ∧ s11 = .int .i64 j ∧ s15 = .int .i64 e ∧ e ≤ 99999 ∧ Hid (eRun ((bsN t).drop j) e u = eRun ((bsN t).drop i2) 0 false) ∧ w2 = wc)
                  case atStart => exact ⟨i2, 0, false, c3, rfl, rfl, rfl, by omega, Lib.hid rfl, rfl⟩
                  case round =>
                    obtain ⟨j, e, u, hj, hg, rfl, rfl, he, HR, rfl⟩ := hrel
                    have Hg := Lib.hid hg
                    clear hg
                    by_cases hlt : j < t.size
                    · have Hd := Lib.hid (bsN_drop t j hlt)
                      have hc : t[j].toNat < 256 := UInt8.toNat_lt _
                      by_cases h95 : t[j].toNat = 95
                      · have q : (t[j].toNat : Int) = 95 := by omega
                        go_wp2_with fail
                        go_roundg (t.size - (j + 1))
                        case measure => have := Hg.out; omega
                        case rel => exact ⟨j + 1, e, true, by omega, rfl, by go_num, rfl, he, Lib.hid (by rw [← HR.out, Hd.out, eRun_us _ _ _ _ h95]), rfl⟩
                      · have q0 : ((t[j].toNat : Int) == 95) = false := by rw [beq_eq_false_iff_ne]; omega
                        have q1 : ((t[j].toNat : Int) != 95) = true := by rw [bne_iff_ne]; omega
                        have Hq := Lib.hid h95
                        clear h95
                        by_cases hd : 48 ≤ t[j].toNat ∧ t[j].toNat ≤ 57
                        · obtain ⟨d1, d2⟩ := hd
                          by_cases hE : e < 10000
                          · go_wp2_with fail
                            go_roundg (t.size - (j + 1))
                            case measure => have := Hg.out; omega
                            case rel => exact ⟨j + 1, e * 10 + (t[j].toNat - 48), u, by omega, rfl, by go_num, vi (by omega), by omega, Lib.hid (by rw [← HR.out, Hd.out, eRun_dig _ _ _ _ d1 d2, if_pos hE]), rfl⟩
                          · go_wp2_with fail
                            go_roundg (t.size - (j + 1))
                            case measure => have := Hg.out; omega
                            case rel => exact ⟨j + 1, e, u, by omega, rfl, by go_num, rfl, he, Lib.hid (by rw [← HR.out, Hd.out, eRun_dig _ _ _ _ d1 d2, if_neg hE]), rfl⟩
                        · have Hend := Lib.hid (show eRun ((bsN t).drop i2) 0 false = ((e, u), (bsN t).drop j) by rw [← HR.out, Hd.out, eRun_stop _ _ _ _ Hq.out hd])
                          by_cases d1 : t[j].toNat < 48
                          · clear hd
                            go_wp2_with fail
                            go_meet
                            exact ⟨j, e, u, hj, rfl, rfl, he, Hend.out, rfl⟩
                          · have d2 : 57 < t[j].toNat := by omega
                            clear hd
                            go_wp2_with fail
                            go_meet
                            exact ⟨j, e, u, hj, rfl, rfl, he, Hend.out, rfl⟩
                    · go_wp2_with fail
                      go_meet
                      exact ⟨j, e, u, hj, rfl, rfl, he, by rw [← HR.out, bsN_drop_end t j (by omega), eRun_nil], rfl⟩
              case rest =>
                obtain ⟨j, e, u, hj, rfl, rfl, he, hrun, rfl⟩ := hcut
                have Hsx5 := Lib.hid (show lXe hex ((bsN t).drop k) = if j = t.size then some ((e : Int) * SG) else none by
                  rw [Hsx4.out, hrun]
                  by_cases he : j = t.size
                  · rw [if_pos he, bsN_drop_end t j (by omega)]
                  · rw [if_neg he, bsN_drop t j (by omega)])
                clear hrun
                have hds := HDS.out
                cases DW
                · as_aux_lemma =>
                    have hsg : SG = 1 := hds.2 rfl
                    have Hsg := Lib.hid hsg
                    clear hds hsg
                    go_wp2_with fail
                    go_meet
                    exact ⟨j, e, hj, rfl, vi (by omega), by omega, by omega, by rw [Hsx5.out, Hsg.out, Int.mul_one], rfl⟩
                · as_aux_lemma =>
                    have hsg : SG = -1 := hds.1 rfl
                    have Hsg := Lib.hid hsg
                    clear hds hsg
                    go_wp2_with fail
                    go_meet
                    exact ⟨j, -(e : Int), hj, rfl, vi (by omega), by omega, by omega, by rw [Hsx5.out, Hsg.out]; congr 2; omega, rfl⟩
            · as_aux_lemma =>
                have Hn := Lib.hid (HNO.out (show lXe hex ((bsN t).drop k) = none by rw [Hsx3.out, xr1_badF _ _ HBD.out.symm]))
                go_wp2_with fail
                go_ret2
                exact RDPost.no Hn.out HBel.out rfl
end Go.Proofs.YtdfbokmjipdolaaGreatDoor
