/- decimal.set of Go's own strconv: the walk. -/
import Derived.Test.YtdfbokmjipdolaaGreatDoorQ13
set_option linter.unusedVariables false
set_option linter.unusedSimpArgs false
namespace Go.Proofs.YtdfbokmjipdolaaGreatDoor
open Go.RowKit

set_option maxRecDepth 100000 in
set_option maxHeartbeats 4000000 in
theorem set_any (s : ByteArray) (w : World) (b : Nat) (t : TypeId) (d : Array Nat) (ng tr : Bool) (hs : s.size ≤ 400) (h0 : 0 < s.size) (hb : b < w.heap.size) (hd : d.size = 800) :
    Calls Tryz.prog 73 #[.pointer (some ⟨b, 0, none⟩), .string s] (wD w b t d 0 0 ng tr) (SetPost w b t (bsN s)) := by
  have Hc := Lib.hid (bsN_cons h0)
  obtain ⟨I0, hI0⟩ : ∃ I0, I0 = rfI0 (bsN s) := ⟨_, rfl⟩
  have HI0 := Lib.hid hI0
  have bI0 : I0 ≤ 1 := by rw [hI0]; unfold rfI0; split <;> omega
  clear hI0
  have hne : ¬ s = ByteArray.empty := by rintro rfl; simp at h0
  go_enter Tryz.func73, Tryz.ntmps73
  go_upto_block 0 with fail
  go_cut [5] (fun a w1 => ∃ N, a = .int .i64 I0 ∧ w1 = wD w b t d 0 0 N false)
  case first =>
    as_aux_lemma =>
      go_wp2_with fail
      · obtain ⟨e1, e2⟩ := sg_plus _ ‹_›
        go_meet
        exact ⟨false, vi (by rw [HI0.out, e2]; rfl), rfl⟩
      · obtain ⟨e1, e2⟩ := sg_minus _ ‹_›
        go_meet
        exact ⟨true, vi (by rw [HI0.out, e2]; rfl), rfl⟩
      · obtain ⟨e1, e2⟩ := sg_none _ ‹_› ‹_›
        go_meet
        exact ⟨false, vi (by rw [HI0.out, e2]; rfl), rfl⟩
  case rest =>
    obtain ⟨N, rfl, rfl⟩ := hcut
    obtain ⟨FIN, hF⟩ : ∃ FIN, FIN = setF (bsN s) := ⟨_, rfl⟩
    have HF := Lib.hid hF
    have HS := Lib.hid (show SS (bsN s) FIN I0 0 0 false false d by rw [hF, setF, ← HI0.out]; exact SS.start (bsN s) I0 d hd)
    clear hF
    go_upto_block 1 with fail
    go_cut [5, 6, 7] (fun s5 s6 s7 wx => ∃ (k nd : Nat) (dpm : Int) (dot digs : Bool) (d1 : Array Nat) (w1 : World), s5 = .int .i64 k ∧ s6 = .bool dot ∧ s7 = .bool digs ∧ k ≤ s.size ∧ Hid (SDone (bsN s) FIN k nd dpm dot digs d1) ∧ Dr w w1 ∧ wx = wD w1 b t d1 nd dpm N false)
    case first =>
      go_wp2_with fail
      go_loopg [5, 6, 7] (s.size - I0) (fun g s5 s6 s7 wx => ∃ (k nd : Nat) (dpm : Int) (dot digs : Bool) (d1 : Array Nat) (w1 : World), g = s.size - k ∧ s5 = .int .i64 k ∧ s6 = .bool dot ∧ s7 = .bool digs ∧ k ≤ s.size ∧ Hid (SS (bsN s) FIN k nd dpm dot digs d1) ∧ Dr w w1 ∧ wx = wD w1 b t d1 nd dpm N false)
      case atStart => exact ⟨I0, 0, 0, false, false, d, w, by omega, rfl, rfl, rfl, by omega, HS, Dr.rfl' w, rfl⟩
      case round =>
        clear HS
        obtain ⟨k, nd, dpm, dot, digs, d1, w1, hg, rfl, rfl, rfl, hk, HR, hDr, rfl⟩ := hrel
        have Hg := Lib.hid hg
        clear hg
        have hb1 : b < w1.heap.size := by rw [hDr.size]; exact hb
        have HDr := Lib.hid hDr
        clear hDr
        obtain ⟨stt, hstt⟩ := HR.out
        have b1 : nd ≤ k := hstt.ndk
        have b2 := hstt.dp0
        have b3 := hstt.dp1
        have hs1 := hstt.size
        clear hstt
        by_cases hlt : k < s.size
        · have HD := Lib.hid (bsN_drop s k hlt)
          have hc : s[k].toNat < 256 := UInt8.toNat_lt _
          by_cases h95 : s[k].toNat = 95
          · as_aux_lemma =>
              have q : (s[k].toNat : Int) = 95 := by omega
              go_wp2_with fail
              go_roundg (s.size - (k + 1))
              case measure => have := Hg.out; omega
              case rel => exact ⟨k + 1, nd, dpm, dot, digs, d1, w1, rfl, vi (by omega), rfl, rfl, by omega, Lib.hid (HR.out.under _ HD.out h95), HDr.out, rfl⟩
          · have q95 : ((s[k].toNat : Int) == 95) = false := by rw [beq_eq_false_iff_ne]; omega
            have H95 := Lib.hid h95
            clear h95
            by_cases h46 : s[k].toNat = 46
            · have q : (s[k].toNat : Int) = 46 := by omega
              cases dot
              · as_aux_lemma =>
                  go_wp2_with fail
                  go_roundg (s.size - (k + 1))
                  case measure => have := Hg.out; omega
                  case rel => exact ⟨k + 1, nd, nd, true, digs, d1, w1, rfl, vi (by omega), rfl, rfl, by omega, Lib.hid (HR.out.point _ HD.out h46), HDr.out, rfl⟩
              · as_aux_lemma =>
                  have hdn := HR.out.stop _ HD.out (fun st h => mstop_dot h46 h)
                  have hx : setX (bsN s) = none := by
                    unfold setX
                    rw [← HF.out, hdn.rest, HD.out]
                    split
                    · rw [if_neg (by unfold mkAt; simp [h46]; decide), if_neg (by simp)]
                    · rfl
                  have Hx := Lib.hid hx
                  clear hx hdn
                  go_wp2_with fail
                  go_ret
                  exact ⟨false, w1, d1, nd, dpm, N, false, rfl, HDr.out, rfl, hs1, by omega, by rw [Hx.out]⟩
            · have q46 : ((s[k].toNat : Int) == 46) = false := by rw [beq_eq_false_iff_ne]; omega
              have H46 := Lib.hid h46
              clear h46
              by_cases hdg : 48 ≤ s[k].toNat ∧ s[k].toNat ≤ 57
              · obtain ⟨d0, d9⟩ := hdg
                by_cases hz : s[k].toNat = 48
                · have qz : ((s[k].toNat : Int) == 48) = true := by rw [beq_iff_eq]; omega
                  by_cases hn0 : nd = 0
                  · as_aux_lemma =>
                      have qn : ((nd : Int) == 0) = true := by rw [beq_iff_eq]; omega
                      have Hz := Lib.hid hz
                      have Hn0 := Lib.hid hn0
                      clear hz hn0
                      go_wp2_with fail
                      go_roundg (s.size - (k + 1))
                      case measure => have := Hg.out; omega
                      case rel => exact ⟨k + 1, nd, dpm - 1, dot, true, d1, w1, rfl, vi (by omega), rfl, rfl, by omega, Lib.hid (HR.out.zero _ HD.out Hz.out Hn0.out), HDr.out, rfl⟩
                  · as_aux_lemma =>
                      have qn : ((nd : Int) == 0) = false := by rw [beq_eq_false_iff_ne]; omega
                      have hnx := HR.out.digit _ HD.out d0 d9 (fun h => hn0 h.1) (by omega)
                      clear hz hn0
                      have Hnx := Lib.hid hnx
                      clear hnx
                      have bnd : nd < 800 := by omega
                      go_wp2_with fail
                      go_cut [5] (fun s5 w2 => ∃ w3, s5 = .int .i64 k ∧ Dr w w3 ∧ w2 = wD w3 b t (d1.setIfInBounds nd s[k].toNat) nd dpm N false)
                      case first =>
                        as_aux_lemma =>
                          obtain ⟨W, hW⟩ : ∃ W, W = wD w1 b t d1 nd dpm N false := ⟨_, rfl⟩
                          rw [← hW]
                          have c800 : W.cell? ⟨b, 800, none⟩ = some (.int .i64 nd) := by rw [hW]; exact cell_nd hb1 hs1
                          obtain ⟨v, hv⟩ : ∃ v : Nat, v = d1.getD nd 0 := ⟨_, rfl⟩
                          have cnd : W.cell? ⟨b, nd, none⟩ = some (.int .u8 v) := by rw [hW, hv]; exact cell_lo hb1 hs1 bnd
                          have fnd : W.frozen? ⟨b, nd, none⟩ = false := by rw [hW]; exact frozen_at hb1
                          have HW := Lib.hid hW
                          clear hW hv
                          go_region
                          all_goals
                            go_wp2_with fail
                            go_meet
                            exact ⟨w1.drewN 1, rfl, HDr.out.more 1, by rw [HW.out, put_lo hs1 bnd]; rfl⟩
                      case rest =>
                        obtain ⟨w3, rfl, hD3, rfl⟩ := hcut
                        have HD3 := Lib.hid hD3
                        have hb3 : b < w3.heap.size := by rw [hD3.size]; exact hb
                        clear hD3
                        have hs3 : (d1.setIfInBounds nd s[k].toNat).size = 800 := by simp [hs1]
                        have bnd2 : nd ≤ 9223372036854775800 := by omega
                        go_wp2_with fail
                        go_roundg (s.size - (k + 1))
                        case measure => have := Hg.out; omega
                        case rel => exact ⟨k + 1, nd + 1, dpm, dot, true, d1.setIfInBounds nd s[k].toNat, w3, rfl, vi (by omega), rfl, rfl, by omega, Hnx, HD3.out, by push_cast; rfl⟩
                · as_aux_lemma =>
                    have qz : ((s[k].toNat : Int) == 48) = false := by rw [beq_eq_false_iff_ne]; omega
                    have hnx := HR.out.digit _ HD.out d0 d9 (fun h => hz h.2) (by omega)
                    clear hz
                    have Hnx := Lib.hid hnx
                    clear hnx
                    have bnd : nd < 800 := by omega
                    go_wp2_with fail
                    go_cut [5] (fun s5 w2 => ∃ w3, s5 = .int .i64 k ∧ Dr w w3 ∧ w2 = wD w3 b t (d1.setIfInBounds nd s[k].toNat) nd dpm N false)
                    case first =>
                      as_aux_lemma =>
                        obtain ⟨W, hW⟩ : ∃ W, W = wD w1 b t d1 nd dpm N false := ⟨_, rfl⟩
                        rw [← hW]
                        have c800 : W.cell? ⟨b, 800, none⟩ = some (.int .i64 nd) := by rw [hW]; exact cell_nd hb1 hs1
                        obtain ⟨v, hv⟩ : ∃ v : Nat, v = d1.getD nd 0 := ⟨_, rfl⟩
                        have cnd : W.cell? ⟨b, nd, none⟩ = some (.int .u8 v) := by rw [hW, hv]; exact cell_lo hb1 hs1 bnd
                        have fnd : W.frozen? ⟨b, nd, none⟩ = false := by rw [hW]; exact frozen_at hb1
                        have HW := Lib.hid hW
                        clear hW hv
                        go_region
                        all_goals
                          go_wp2_with fail
                          go_meet
                          exact ⟨w1.drewN 1, rfl, HDr.out.more 1, by rw [HW.out, put_lo hs1 bnd]; rfl⟩
                    case rest =>
                      obtain ⟨w3, rfl, hD3, rfl⟩ := hcut
                      have HD3 := Lib.hid hD3
                      have hb3 : b < w3.heap.size := by rw [hD3.size]; exact hb
                      clear hD3
                      have hs3 : (d1.setIfInBounds nd s[k].toNat).size = 800 := by simp [hs1]
                      have bnd2 : nd ≤ 9223372036854775800 := by omega
                      go_wp2_with fail
                      go_roundg (s.size - (k + 1))
                      case measure => have := Hg.out; omega
                      case rel => exact ⟨k + 1, nd + 1, dpm, dot, true, d1.setIfInBounds nd s[k].toNat, w3, rfl, vi (by omega), rfl, rfl, by omega, Hnx, HD3.out, by push_cast; rfl⟩
              · have hdn := Lib.hid (HR.out.stop _ HD.out (fun st h => mstop_other H95.out H46.out (digOf_none hdg (by simp))))
                by_cases h48 : s[k].toNat < 48
                · as_aux_lemma =>
                    clear hdg
                    go_wp2_with fail
                    go_meet
                    exact ⟨k, nd, dpm, dot, digs, d1, w1, rfl, rfl, rfl, hk, hdn, HDr.out, rfl⟩
                · as_aux_lemma =>
                    have h57 : 57 < s[k].toNat := by omega
                    clear hdg
                    go_wp2_with fail
                    go_meet
                    exact ⟨k, nd, dpm, dot, digs, d1, w1, rfl, rfl, rfl, hk, hdn, HDr.out, rfl⟩
        · as_aux_lemma =>
            have hdn := Lib.hid (HR.out.done (bsN_drop_end s k (by omega)))
            go_wp2_with fail
            go_meet
            exact ⟨k, nd, dpm, dot, digs, d1, w1, rfl, rfl, rfl, hk, hdn, HDr.out, rfl⟩
    case rest =>
      clear HS
      obtain ⟨k, nd, dpm, dot, digs, d1, w1, rfl, rfl, rfl, hk, HDN, hDr, rfl⟩ := hcut
      have hs1 := HDN.out.ss.size
      have b1 : nd ≤ k := HDN.out.ss.ndk
      have b2 := HDN.out.ss.dp0
      have b3 := HDN.out.ss.dp1
      have hb1 : b < w1.heap.size := by rw [hDr.size]; exact hb
      have HDr := Lib.hid hDr
      clear hDr
      cases digs
      · as_aux_lemma =>
          have Hx := Lib.hid (show setX (bsN s) = none by unfold setX; rw [← HF.out, ← HDN.out.ss.edigs]; rfl)
          go_wp2_with fail
          go_ret
          exact ⟨false, w1, d1, nd, dpm, N, false, rfl, HDr.out, rfl, hs1, by omega, by rw [Hx.out]⟩
      · obtain ⟨DP, hDP⟩ : ∃ DP, DP = FIN.1.dp := ⟨_, rfl⟩
        have HDP := Lib.hid hDP
        have bDP : -400 ≤ DP ∧ DP ≤ 400 := by
          cases dot
          · have := HDN.out.ss.edn rfl; omega
          · have := HDN.out.ss.edp rfl; omega
        clear hDP
        go_upto_if 120 with fail
        go_cut [5] (fun s5 w2 => s5 = .int .i64 k ∧ w2 = wD w1 b t d1 nd DP N false)
        case first =>
          as_aux_lemma =>
            cases dot
            · have hq := HDN.out.ss.edn rfl
              have e : DP = nd := by rw [HDP.out]; exact hq
              have He := Lib.hid e
              clear e hq
              go_wp2_with fail
              go_meet
              exact ⟨rfl, by rw [He.out]⟩
            · have hq := HDN.out.ss.edp rfl
              have e : DP = dpm := by rw [HDP.out]; exact hq.symm
              have He := Lib.hid e
              clear e hq
              go_wp2_with fail
              go_meet
              exact ⟨rfl, by rw [He.out]⟩
        case rest =>
          obtain ⟨rfl, rfl⟩ := hcut
          have Hsx := Lib.hid (show setX (bsN s) = if mkAt false (bsN s) k then
              match xr1 (xSg ((bsN s).drop (k + 1))) (xRest ((bsN s).drop (k + 1))) with
              | some ((e, _), []) => some (DP + e)
              | _ => none
            else if (bsN s).drop k = [] then some DP else none by
              unfold setX
              rw [← HF.out, ← HDN.out.ss.edigs, if_pos rfl, HDN.out.rest, List.tail_drop, xRead_eq, ← HDP.out]
              rfl)
          have Hok := Lib.hid HDN.out.ok
          obtain ⟨MK, hMK⟩ : ∃ MK, MK = mkAt false (bsN s) k := ⟨_, rfl⟩
          have HMK := Lib.hid hMK
          clear hMK HDN
          go_upto_region 32 with fail
          go_cut [138] (fun v w2 => v = .bool MK ∧ w2 = wD w1 b t d1 nd DP N false)
          case first =>
            as_aux_lemma =>
              go_wp2_with (go_at_call 102; refine (lower_any _ _ (UInt8.toNat_lt _)).mono ?_; rintro e w' ⟨rfl, rfl⟩)
              · go_meet
                exact ⟨vb (by rw [HMK.out, mkAt_in ‹k < s.size›]; rfl), rfl⟩
              · go_meet
                exact ⟨vb (by rw [HMK.out, mkAt_end (by omega)]), rfl⟩
          case rest =>
            obtain ⟨rfl, rfl⟩ := hcut
            go_upto_if 138 with fail
            go_cut [5] (fun s5 w2 => ∃ (i : Nat) (dq : Int), i ≤ s.size ∧ s5 = .int .i64 i ∧ -200000 ≤ dq ∧ dq ≤ 200000 ∧ setX (bsN s) = (if i = s.size then some dq else none) ∧ w2 = wD w1 b t d1 nd dq N false)
            case first =>
              cases MK
              · as_aux_lemma =>
                  go_wp2_with fail
                  go_meet
                  refine ⟨k, DP, hk, rfl, by omega, by omega, ?_, rfl⟩
                  rw [Hsx.out, ← HMK.out, if_neg (by decide)]
                  by_cases he : k = s.size
                  · rw [if_pos he, if_pos (bsN_drop_end s k (by omega))]
                  · rw [if_neg he, if_neg (by rw [bsN_drop s k (by omega)]; simp)]
              · have hk1 : k < s.size := by
                  refine Decidable.byContradiction fun h => ?_
                  have := HMK.out; rw [mkAt_end (by omega)] at this; cases this
                have Hsx2 := Lib.hid (show setX (bsN s) = match xr1 (xSg ((bsN s).drop (k + 1))) (xRest ((bsN s).drop (k + 1))) with
                    | some ((e, _), []) => some (DP + e)
                    | _ => none by rw [Hsx.out, ← HMK.out, if_pos rfl])
                by_cases h1 : k + 1 < s.size
                · go_upto_block 4 with fail
                  go_cut [5, 8] (fun s5 s8 w2 => ∃ i2 : Nat, s5 = .int .i64 i2 ∧ s8 = .int .i64 (xSg ((bsN s).drop (k + 1))) ∧ k + 1 ≤ i2 ∧ i2 ≤ k + 2 ∧ (bsN s).drop i2 = xRest ((bsN s).drop (k + 1)) ∧ w2 = wD w1 b t d1 nd DP N false)
                  case first =>
                    as_aux_lemma =>
                      have Hd := Lib.hid (bsN_drop s (k + 1) h1)
                      go_wp2_with fail
                      · have q := b_eq ‹(((s[k + 1]).toNat : Int) == 43) = true›
                        go_meet
                        exact ⟨k + 2, by go_num, vi (by rw [Hd.out]; unfold xSg; rw [if_neg]; simp; omega), by omega, by omega, by rw [Hd.out]; unfold xRest; rw [if_pos (by simp; omega)]; rfl, rfl⟩
                      · have q := b_eq ‹(((s[k + 1]).toNat : Int) == 45) = true›
                        go_meet
                        exact ⟨k + 2, by go_num, vi (by rw [Hd.out]; unfold xSg; rw [if_pos]; simp; omega), by omega, by omega, by rw [Hd.out]; unfold xRest; rw [if_pos (by simp; omega)]; rfl, rfl⟩
                      · have q := b_ne ‹(((s[k + 1]).toNat : Int) == 43) = false›
                        have q2 := b_ne ‹(((s[k + 1]).toNat : Int) == 45) = false›
                        go_meet
                        exact ⟨k + 1, by go_num, vi (by rw [Hd.out]; unfold xSg; rw [if_neg]; simp; omega), by omega, by omega, by rw [Hd.out]; unfold xRest; rw [if_neg (by simp; omega)], rfl⟩
                  case rest =>
                    obtain ⟨i2, rfl, rfl, c1, c2, hx2, rfl⟩ := hcut
                    obtain ⟨SG, hSG⟩ : ∃ SG, SG = xSg ((bsN s).drop (k + 1)) := ⟨_, rfl⟩
                    have hSG2 := xSg_or ((bsN s).drop (k + 1))
                    rw [← hSG] at hSG2 ⊢
                    have Hsx3 := Lib.hid (show setX (bsN s) = match xr1 SG ((bsN s).drop i2) with
                        | some ((e, _), []) => some (DP + e)
                        | _ => none by rw [Hsx2.out, ← hx2, ← hSG])
                    clear hx2 hSG
                    obtain ⟨BD, hBD⟩ : ∃ BD, BD = badFront ((bsN s).drop i2) := ⟨_, rfl⟩
                    have HBD := Lib.hid hBD
                    clear hBD
                    go_upto_region 42 with fail
                    go_cut [171] (fun v w2 => v = .bool BD ∧ w2 = wD w1 b t d1 nd DP N false)
                    case first =>
                      as_aux_lemma =>
                        by_cases h2 : i2 < s.size
                        · have Hq := Lib.hid (badF_in h2)
                          go_wp2_with fail
                          all_goals
                            go_meet
                            refine ⟨vb (by rw [HBD.out, Hq.out, Bool.eq_iff_iff]; simp; omega), rfl⟩
                        · go_wp2_with fail
                          go_meet
                          exact ⟨vb (by rw [HBD.out, badF_end (by omega)]), rfl⟩
                    case rest =>
                      obtain ⟨rfl, rfl⟩ := hcut
                      cases BD
                      · have Hsx4 := Lib.hid (show setX (bsN s) = match (eRun ((bsN s).drop i2) 0 false).2 with
                            | [] => some (DP + ((eRun ((bsN s).drop i2) 0 false).1.1 : Int) * SG)
                            | _ => none by
                          rw [Hsx3.out, xr1_okF _ _ HBD.out.symm]
                          generalize eRun ((bsN s).drop i2) 0 false = R
                          obtain ⟨⟨e, u⟩, r⟩ := R
                          cases r <;> rfl)
                        go_upto_block 5 with fail
                        go_cut [5, 9] (fun s5 s9 w2 => ∃ (j e : Nat) (u : Bool), j ≤ s.size ∧ s5 = .int .i64 j ∧ s9 = .int .i64 e ∧ e ≤ 99999 ∧ eRun ((bsN s).drop i2) 0 false = ((e, u), (bsN s).drop j) ∧ w2 = wD w1 b t d1 nd DP N false)
                        case first =>
                          as_aux_lemma =>
                            go_wp2_with fail
                            go_loopg [5, 9] (s.size - i2) (fun g s5 s9 w2 => ∃ (j e : Nat) (u : Bool), j ≤ s.size ∧ g = s.size - j ∧ s5 = .int .i64 j ∧ s9 = .int .i64 e ∧ e ≤ 99999 ∧ Hid (eRun ((bsN s).drop j) e u = eRun ((bsN s).drop i2) 0 false) ∧ w2 = wD w1 b t d1 nd DP N false)
                            case atStart => exact ⟨i2, 0, false, by have := HBD.out; exact Nat.le_of_lt (Nat.lt_of_not_le fun h => by rw [badF_end h] at this; cases this), rfl, rfl, rfl, by omega, Lib.hid rfl, rfl⟩
                            case round =>
                              obtain ⟨j, e, u, hj, hg, rfl, rfl, he, HR, rfl⟩ := hrel
                              have Hg := Lib.hid hg
                              clear hg
                              by_cases hlt : j < s.size
                              · have Hd := Lib.hid (bsN_drop s j hlt)
                                have hc : s[j].toNat < 256 := UInt8.toNat_lt _
                                by_cases h95 : s[j].toNat = 95
                                · have q : (s[j].toNat : Int) = 95 := by omega
                                  go_wp2_with fail
                                  go_roundg (s.size - (j + 1))
                                  case measure => have := Hg.out; omega
                                  case rel => exact ⟨j + 1, e, true, by omega, rfl, by go_num, rfl, he, Lib.hid (by rw [← HR.out, Hd.out, eRun_us _ _ _ _ h95]), rfl⟩
                                · have q0 : ((s[j].toNat : Int) == 95) = false := by rw [beq_eq_false_iff_ne]; omega
                                  have Hq := Lib.hid h95
                                  clear h95
                                  by_cases hd : 48 ≤ s[j].toNat ∧ s[j].toNat ≤ 57
                                  · obtain ⟨d1, d2⟩ := hd
                                    by_cases hE : e < 10000
                                    · go_wp2_with fail
                                      go_roundg (s.size - (j + 1))
                                      case measure => have := Hg.out; omega
                                      case rel => exact ⟨j + 1, e * 10 + (s[j].toNat - 48), u, by omega, rfl, by go_num, vi (by omega), by omega, Lib.hid (by rw [← HR.out, Hd.out, eRun_dig _ _ _ _ d1 d2, if_pos hE]), rfl⟩
                                    · go_wp2_with fail
                                      go_roundg (s.size - (j + 1))
                                      case measure => have := Hg.out; omega
                                      case rel => exact ⟨j + 1, e, u, by omega, rfl, by go_num, rfl, he, Lib.hid (by rw [← HR.out, Hd.out, eRun_dig _ _ _ _ d1 d2, if_neg hE]), rfl⟩
                                  · have Hend := Lib.hid (show eRun ((bsN s).drop i2) 0 false = ((e, u), (bsN s).drop j) by rw [← HR.out, Hd.out, eRun_stop _ _ _ _ Hq.out hd])
                                    by_cases d1 : s[j].toNat < 48
                                    · clear hd
                                      go_wp2_with fail
                                      go_meet
                                      exact ⟨j, e, u, hj, rfl, rfl, he, Hend.out, rfl⟩
                                    · have d2 : 57 < s[j].toNat := by omega
                                      clear hd
                                      go_wp2_with fail
                                      go_meet
                                      exact ⟨j, e, u, hj, rfl, rfl, he, Hend.out, rfl⟩
                              · go_wp2_with fail
                                go_meet
                                exact ⟨j, e, u, hj, rfl, rfl, he, by rw [← HR.out, bsN_drop_end s j (by omega), eRun_nil], rfl⟩
                        case rest =>
                          obtain ⟨j, e, u, hj, rfl, rfl, he, hrun, rfl⟩ := hcut
                          have Hsx5 := Lib.hid (show setX (bsN s) = if j = s.size then some (DP + (e : Int) * SG) else none by
                            rw [Hsx4.out, hrun]
                            by_cases he : j = s.size
                            · rw [if_pos he, bsN_drop_end s j (by omega)]
                            · rw [if_neg he, bsN_drop s j (by omega)])
                          clear hrun
                          rcases hSG2 with rfl | rfl
                          · as_aux_lemma =>
                              go_wp2_with fail
                              go_meet
                              exact ⟨j, DP + e, hj, rfl, by omega, by omega, by rw [Hsx5.out, Int.mul_one], rfl⟩
                          · as_aux_lemma =>
                              go_wp2_with fail
                              go_meet
                              exact ⟨j, DP - e, hj, rfl, by omega, by omega, by rw [Hsx5.out]; congr 2; omega, by congr 1⟩
                      · as_aux_lemma =>
                          have Hn := Lib.hid (show setX (bsN s) = none by rw [Hsx3.out, xr1_badF _ _ HBD.out.symm])
                          go_wp2_with fail
                          go_ret
                          exact ⟨false, w1, d1, nd, DP, N, false, rfl, HDr.out, rfl, hs1, by omega, by rw [Hn.out]⟩
                · as_aux_lemma =>
                    have Hn := Lib.hid (show setX (bsN s) = none by
                      rw [Hsx2.out, bsN_drop_end s (k + 1) (by omega)]; rfl)
                    go_wp2_with fail
                    go_ret
                    exact ⟨false, w1, d1, nd, DP, N, false, rfl, HDr.out, rfl, hs1, by omega, by rw [Hn.out]⟩
            case rest =>
              obtain ⟨i, dq, hi, rfl, d1b, d2b, hend, rfl⟩ := hcut
              have Hend := Lib.hid hend
              clear hend
              by_cases hsz : i = s.size
              · as_aux_lemma =>
                  have Hx := Lib.hid (Hend.out.trans (if_pos hsz))
                  have q : ((i : Int) != (s.size : Int)) = false := by rw [bne_eq_false_iff_eq]; omega
                  clear hsz
                  go_wp2_with fail
                  go_ret
                  exact ⟨true, w1, d1, nd, dq, N, false, rfl, HDr.out, rfl, hs1, by omega, by rw [Hx.out]; exact ⟨rfl, rfl, by rw [← HF.out]; exact Hok.out⟩⟩
              · as_aux_lemma =>
                  have Hx := Lib.hid (Hend.out.trans (if_neg hsz))
                  have q : ((i : Int) != (s.size : Int)) = true := by rw [bne_iff_ne]; omega
                  clear hsz
                  go_wp2_with fail
                  go_ret
                  exact ⟨false, w1, d1, nd, dq, N, false, rfl, HDr.out, rfl, hs1, by omega, by rw [Hx.out]⟩
end Go.Proofs.YtdfbokmjipdolaaGreatDoor
