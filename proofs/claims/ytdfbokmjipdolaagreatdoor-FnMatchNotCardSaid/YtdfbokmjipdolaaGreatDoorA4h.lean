/- readFloat of Go's own strconv: a text with the mark of hexadecimal. -/
import Derived.Test.YtdfbokmjipdolaaGreatDoorQ4
set_option linter.unusedVariables false
set_option linter.unusedSimpArgs false
namespace Go.Proofs.YtdfbokmjipdolaaGreatDoor
open Go.RowKit

set_option maxRecDepth 100000 in
set_option maxHeartbeats 4000000 in
theorem readFloat_hex (s : ByteArray) (w : World) (hs : s.size ≤ 400) (h0 : 0 < s.size) (hx : rfHex (bsN s) = true) : Calls Tryz.prog 67 #[.string s] w fun e w' => RFPost (bsN s) e ∧ w = w' := by
  have hneg := bsN_cons h0
  have HI := Lib.hid (show rfI0 (bsN s) = if hasSign (bsN s) then 1 else 0 from rfl)
  have Hc := Lib.hid (bsN_cons h0)
  clear hneg
  obtain ⟨I0, hI0⟩ : ∃ I0, I0 = rfI0 (bsN s) := ⟨_, rfl⟩
  have HI0 := Lib.hid hI0
  have bI0 : I0 ≤ 1 := by rw [hI0]; unfold rfI0; split <;> omega
  clear hI0
  obtain ⟨N, hN⟩ : ∃ N, N = rfNeg (bsN s) := ⟨_, rfl⟩
  have HN := Lib.hid hN
  clear hN
  have hne : ¬ s = ByteArray.empty := by rintro rfl; simp at h0
  have HHX := Lib.hid hx
  clear hx
  go_enter Tryz.func67, Tryz.ntmps67
  go_wp2_with fail
  go_step3
  go_upto_block 0 with fail
  go_cut [4, 7] (fun a b w1 => a = .bool N ∧ b = .int .i64 I0 ∧ w1 = w)
  case first =>
    as_aux_lemma =>
      go_wp2_with fail
      · obtain ⟨e1, e2⟩ := sg_plus _ ‹_›
        go_meet
        exact ⟨vb (by rw [HN.out, e1]), vi (by rw [HI0.out, e2]; rfl), rfl⟩
      · obtain ⟨e1, e2⟩ := sg_minus _ ‹_›
        go_meet
        exact ⟨vb (by rw [HN.out, e1]), vi (by rw [HI0.out, e2]; rfl), rfl⟩
      · obtain ⟨e1, e2⟩ := sg_none _ ‹_› ‹_›
        go_meet
        exact ⟨vb (by rw [HN.out, e1]), vi (by rw [HI0.out, e2]; rfl), rfl⟩
  case rest =>
    obtain ⟨rfl, rfl, rfl⟩ := hcut
    go_upto_region 12 with fail
    go_cut [54] (fun v w1 => v = .bool true ∧ w1 = wc)
    case first =>
      as_aux_lemma =>
        obtain ⟨p1, p2, p3⟩ := hx_facts (i := I0) (by rw [HI0.out]; exact HHX.out)
        have q1 : (I0 : Int) + 2 < s.size := by omega
        have q2 : (s[I0].toNat : Int) = 48 := by omega
        have q3 : (lw s[I0 + 1].toNat : Int) = 120 := by omega
        clear p2 p3
        go_wp2_with (go_at_call 102; refine (lower_any _ _ (UInt8.toNat_lt _)).mono ?_; rintro e w' ⟨rfl, rfl⟩)
        go_meet
        exact ⟨rfl, rfl⟩
    case rest =>
      obtain ⟨rfl, rfl⟩ := hcut
      go_wp2_with fail
      go_step3
      go_upto_block 1 with fail
      obtain ⟨FIN, hF⟩ : ∃ FIN, FIN = rfFin (bsN s) := ⟨_, rfl⟩
      have HF := Lib.hid hF
      have HS := Lib.hid (show RS true (bsN s) FIN (I0 + 2) 0 0 0 0 false false false false by
        rw [hF]; unfold rfFin rfI1; rw [HHX.out, ← HI0.out]; exact RS.start true _ _)
      have bI2 : I0 + 2 ≤ s.size := by
        obtain ⟨p1, _, _⟩ := hx_facts (i := I0) (by rw [HI0.out]; exact HHX.out)
        omega
      clear hF
      go_cut [2, 5, 7, 9, 13, 14, 15, 16, 17] (fun s2 s5 s7 s9 s13 s14 s15 s16 s17 w1 => LEnd true (bsN s) FIN s.size s2 s5 s7 s9 s13 s14 s15 s16 s17 w1 wc)
      case first =>
        as_aux_lemma =>
          go_wp2_with fail
          go_loopg [2, 5, 7, 9, 13, 14, 15, 16, 17] (s.size - (I0 + 2)) (fun g s2 s5 s7 s9 s13 s14 s15 s16 s17 w1 => LRel true (bsN s) FIN s.size g s2 s5 s7 s9 s13 s14 s15 s16 s17 w1 wc)
          case atStart => exact ⟨I0 + 2, 0, 0, 0, 0, false, false, false, false, bI2, rfl, rfl, rfl, by go_num, rfl, rfl, rfl, rfl, rfl, rfl, HS.out, rfl⟩
          case round =>
            obtain ⟨k, nd, ndM, m, dpv, dot, digs, us, tr, hk, hg, rfl, rfl, rfl, rfl, rfl, rfl, rfl, rfl, rfl, HR0, rfl⟩ := hrel
            have Hg := Lib.hid hg
            clear hg
            obtain ⟨b1, b2, b3, b4, _⟩ := HR0.bounds
            obtain ⟨b5, b6⟩ := HR0.m16
            have b7 : ndM ≤ 16 ∧ ndM ≤ nd := by have e : mx true = 16 := rfl; omega
            have HR := Lib.hid HR0
            have Hb1 := Lib.hid b1
            have Hb5 := Lib.hid b5
            clear HR0 b1 b5
            by_cases hlt : k < s.size
            · have hc : s[k].toNat < 256 := UInt8.toNat_lt _
              have HD := Lib.hid (bsN_drop s k hlt)
              by_cases hM : ndM < 16
              · have b8 := Hb5.out hM
                by_cases h95 : s[k].toNat = 95
                · as_aux_lemma =>
                    have q : (s[k].toNat : Int) = 95 := by omega
                    go_wp2_with (go_at_call 102; refine (lower_any _ _ (UInt8.toNat_lt _)).mono ?_; rintro e w' ⟨rfl, rfl⟩)
                    go_roundg (s.size - (k + 1))
                    case measure => have := Hg.out; omega
                    case rel => exact ⟨k + 1, nd, ndM, m, dpv, dot, digs, true, tr, by omega, rfl, rfl, rfl, by go_num, rfl, rfl, rfl, rfl, rfl, rfl, HR.out.under _ HD.out h95, rfl⟩
                have q95 : ((s[k].toNat : Int) == 95) = false := by rw [beq_eq_false_iff_ne]; omega
                by_cases h46 : s[k].toNat = 46
                · have q : (s[k].toNat : Int) = 46 := by omega
                  cases dot
                  · as_aux_lemma =>
                      go_wp2_with (go_at_call 102; refine (lower_any _ _ (UInt8.toNat_lt _)).mono ?_; rintro e w' ⟨rfl, rfl⟩)
                      go_roundg (s.size - (k + 1))
                      case measure => have := Hg.out; omega
                      case rel => exact ⟨k + 1, nd, ndM, m, nd, true, digs, us, tr, by omega, rfl, rfl, rfl, by go_num, rfl, rfl, rfl, rfl, rfl, rfl, HR.out.point _ HD.out h46, rfl⟩
                  · as_aux_lemma =>
                      go_wp2_with (go_at_call 102; refine (lower_any _ _ (UInt8.toNat_lt _)).mono ?_; rintro e w' ⟨rfl, rfl⟩)
                      go_meet
                      exact ⟨k, nd, ndM, m, dpv, true, digs, us, tr, hk, rfl, rfl, rfl, rfl, rfl, rfl, rfl, rfl, rfl, HR.out.stop _ HD.out (fun st h => mstop_dot h46 h), rfl⟩
                have q46 : ((s[k].toNat : Int) == 46) = false := by rw [beq_eq_false_iff_ne]; omega
                have H95 := Lib.hid h95
                have H46 := Lib.hid h46
                clear h95 h46
                by_cases hdec : 48 ≤ s[k].toNat ∧ s[k].toNat ≤ 57
                · obtain ⟨d1, d2⟩ := hdec
                  by_cases h48 : s[k].toNat = 48
                  · have q : (s[k].toNat : Int) = 48 := by omega
                    by_cases hz : nd = 0
                    · as_aux_lemma =>
                        have qz : (nd : Int) = 0 := by omega
                        go_wp2_with (go_at_call 102; refine (lower_any _ _ (UInt8.toNat_lt _)).mono ?_; rintro e w' ⟨rfl, rfl⟩)
                        go_roundg (s.size - (k + 1))
                        case measure => have := Hg.out; omega
                        case rel => exact ⟨k + 1, nd, ndM, m, dpv - 1, dot, true, us, tr, by omega, rfl, rfl, rfl, by go_num, rfl, rfl, rfl, vi (by omega), rfl, by go_num, HR.out.zero _ HD.out h48 hz, rfl⟩
                    · as_aux_lemma =>
                        have qz : ((nd : Int) == 0) = false := by rw [beq_eq_false_iff_ne]; omega
                        go_wp2_with (go_at_call 102; refine (lower_any _ _ (UInt8.toNat_lt _)).mono ?_; rintro e w' ⟨rfl, rfl⟩)
                        go_roundg (s.size - (k + 1))
                        case measure => have := Hg.out; omega
                        case rel => exact ⟨k + 1, nd + 1, ndM + 1, m * bse true + (s[k].toNat - 48), dpv, dot, true, us, tr, by omega, rfl, vi (by rw [bse16]; omega), rfl, by go_num, rfl, rfl, rfl, by go_num, by go_num, rfl, HR.out.digLo _ _ HD.out H95.out H46.out (digOf_dec d1 d2) (by rw [bse16]; omega) (by omega) hM, rfl⟩
                  · as_aux_lemma =>
                      have q : ((s[k].toNat : Int) == 48) = false := by rw [beq_eq_false_iff_ne]; omega
                      have H48 := Lib.hid h48
                      clear h48
                      go_wp2_with (go_at_call 102; refine (lower_any _ _ (UInt8.toNat_lt _)).mono ?_; rintro e w' ⟨rfl, rfl⟩)
                      go_roundg (s.size - (k + 1))
                      case measure => have := Hg.out; omega
                      case rel => exact ⟨k + 1, nd + 1, ndM + 1, m * bse true + (s[k].toNat - 48), dpv, dot, true, us, tr, by omega, rfl, vi (by rw [bse16]; omega), rfl, by go_num, rfl, rfl, rfl, by go_num, by go_num, rfl, HR.out.digLo _ _ HD.out H95.out H46.out (digOf_dec d1 d2) (by rw [bse16]; omega) (by have := H48.out; omega) hM, rfl⟩
                have Hdec := Lib.hid hdec
                clear hdec
                have hlw : lw s[k].toNat < 256 := lw_lt _ hc
                by_cases hhex : 97 ≤ lw s[k].toNat ∧ lw s[k].toNat ≤ 102
                · obtain ⟨d1, d2⟩ := hhex
                  by_cases hlt48 : s[k].toNat < 48
                  · as_aux_lemma =>
                      go_wp2_with (go_at_call 102; refine (lower_any _ _ (UInt8.toNat_lt _)).mono ?_; rintro e w' ⟨rfl, rfl⟩)
                      go_roundg (s.size - (k + 1))
                      case measure => have := Hg.out; omega
                      case rel => exact ⟨k + 1, nd + 1, ndM + 1, m * bse true + (lw s[k].toNat - 87), dpv, dot, true, us, tr, by omega, rfl, vi (by rw [bse16]; omega), rfl, by go_num, rfl, rfl, rfl, by go_num, by go_num, rfl, HR.out.digLo _ _ HD.out H95.out H46.out (digOf_hex Hdec.out d1 d2) (by rw [bse16]; omega) (by omega) hM, rfl⟩
                  · as_aux_lemma =>
                      have h57 : 57 < s[k].toNat := by have := Hdec.out; omega
                      go_wp2_with (go_at_call 102; refine (lower_any _ _ (UInt8.toNat_lt _)).mono ?_; rintro e w' ⟨rfl, rfl⟩)
                      go_roundg (s.size - (k + 1))
                      case measure => have := Hg.out; omega
                      case rel => exact ⟨k + 1, nd + 1, ndM + 1, m * bse true + (lw s[k].toNat - 87), dpv, dot, true, us, tr, by omega, rfl, vi (by rw [bse16]; omega), rfl, by go_num, rfl, rfl, rfl, by go_num, by go_num, rfl, HR.out.digLo _ _ HD.out H95.out H46.out (digOf_hex Hdec.out d1 d2) (by rw [bse16]; omega) (by omega) hM, rfl⟩
                have Hst := Lib.hid (HR.out.stop _ HD.out (fun st _ => mstop_other H95.out H46.out (digOf_none Hdec.out (fun h => hhex h.2))))
                by_cases hlt48 : s[k].toNat < 48
                · by_cases hl : lw s[k].toNat < 97
                  · as_aux_lemma =>
                      clear hhex
                      go_wp2_with (go_at_call 102; refine (lower_any _ _ (UInt8.toNat_lt _)).mono ?_; rintro e w' ⟨rfl, rfl⟩)
                      go_meet
                      exact ⟨k, nd, ndM, m, dpv, dot, digs, us, tr, hk, rfl, rfl, rfl, rfl, rfl, rfl, rfl, rfl, rfl, Hst.out, rfl⟩
                  · as_aux_lemma =>
                      have hl2 : 102 < lw s[k].toNat := by omega
                      clear hhex
                      go_wp2_with (go_at_call 102; refine (lower_any _ _ (UInt8.toNat_lt _)).mono ?_; rintro e w' ⟨rfl, rfl⟩)
                      go_meet
                      exact ⟨k, nd, ndM, m, dpv, dot, digs, us, tr, hk, rfl, rfl, rfl, rfl, rfl, rfl, rfl, rfl, rfl, Hst.out, rfl⟩
                · have h57 : 57 < s[k].toNat := by have := Hdec.out; omega
                  by_cases hl : lw s[k].toNat < 97
                  · as_aux_lemma =>
                      clear hhex
                      go_wp2_with (go_at_call 102; refine (lower_any _ _ (UInt8.toNat_lt _)).mono ?_; rintro e w' ⟨rfl, rfl⟩)
                      go_meet
                      exact ⟨k, nd, ndM, m, dpv, dot, digs, us, tr, hk, rfl, rfl, rfl, rfl, rfl, rfl, rfl, rfl, rfl, Hst.out, rfl⟩
                  · as_aux_lemma =>
                      have hl2 : 102 < lw s[k].toNat := by omega
                      clear hhex
                      go_wp2_with (go_at_call 102; refine (lower_any _ _ (UInt8.toNat_lt _)).mono ?_; rintro e w' ⟨rfl, rfl⟩)
                      go_meet
                      exact ⟨k, nd, ndM, m, dpv, dot, digs, us, tr, hk, rfl, rfl, rfl, rfl, rfl, rfl, rfl, rfl, rfl, Hst.out, rfl⟩
              · have hnd : 16 ≤ nd := by have := Hb1.out; have e : mx true = 16 := rfl; omega
                by_cases h95 : s[k].toNat = 95
                · as_aux_lemma =>
                    have q : (s[k].toNat : Int) = 95 := by omega
                    go_wp2_with (go_at_call 102; refine (lower_any _ _ (UInt8.toNat_lt _)).mono ?_; rintro e w' ⟨rfl, rfl⟩)
                    go_roundg (s.size - (k + 1))
                    case measure => have := Hg.out; omega
                    case rel => exact ⟨k + 1, nd, ndM, m, dpv, dot, digs, true, tr, by omega, rfl, rfl, rfl, by go_num, rfl, rfl, rfl, rfl, rfl, rfl, HR.out.under _ HD.out h95, rfl⟩
                have q95 : ((s[k].toNat : Int) == 95) = false := by rw [beq_eq_false_iff_ne]; omega
                by_cases h46 : s[k].toNat = 46
                · have q : (s[k].toNat : Int) = 46 := by omega
                  cases dot
                  · as_aux_lemma =>
                      go_wp2_with (go_at_call 102; refine (lower_any _ _ (UInt8.toNat_lt _)).mono ?_; rintro e w' ⟨rfl, rfl⟩)
                      go_roundg (s.size - (k + 1))
                      case measure => have := Hg.out; omega
                      case rel => exact ⟨k + 1, nd, ndM, m, nd, true, digs, us, tr, by omega, rfl, rfl, rfl, by go_num, rfl, rfl, rfl, rfl, rfl, rfl, HR.out.point _ HD.out h46, rfl⟩
                  · as_aux_lemma =>
                      go_wp2_with (go_at_call 102; refine (lower_any _ _ (UInt8.toNat_lt _)).mono ?_; rintro e w' ⟨rfl, rfl⟩)
                      go_meet
                      exact ⟨k, nd, ndM, m, dpv, true, digs, us, tr, hk, rfl, rfl, rfl, rfl, rfl, rfl, rfl, rfl, rfl, HR.out.stop _ HD.out (fun st h => mstop_dot h46 h), rfl⟩
                have q46 : ((s[k].toNat : Int) == 46) = false := by rw [beq_eq_false_iff_ne]; omega
                have H95 := Lib.hid h95
                have H46 := Lib.hid h46
                clear h95 h46
                by_cases hdec : 48 ≤ s[k].toNat ∧ s[k].toNat ≤ 57
                · obtain ⟨d1, d2⟩ := hdec
                  have hd := HR.out.digHi _ (s[k].toNat - 48) HD.out H95.out H46.out (digOf_dec d1 d2) (by rw [bse16]; omega) hM
                  have Hd := Lib.hid hd
                  clear hd
                  by_cases h48 : s[k].toNat = 48
                  · as_aux_lemma =>
                      have q : (s[k].toNat : Int) = 48 := by omega
                      have qz : ((nd : Int) == 0) = false := by rw [beq_eq_false_iff_ne]; omega
                      go_wp2_with (go_at_call 102; refine (lower_any _ _ (UInt8.toNat_lt _)).mono ?_; rintro e w' ⟨rfl, rfl⟩)
                      go_roundg (s.size - (k + 1))
                      case measure => have := Hg.out; omega
                      case rel => exact ⟨k + 1, nd + 1, ndM, m, dpv, dot, true, us, tr, by omega, rfl, rfl, rfl, by go_num, rfl, rfl, rfl, by go_num, rfl, rfl, (by have hd := Hd.out; rw [show s[k].toNat - 48 = 0 by omega] at hd; simpa using hd), rfl⟩
                  · as_aux_lemma =>
                      have q : ((s[k].toNat : Int) == 48) = false := by rw [beq_eq_false_iff_ne]; omega
                      have q' : ((s[k].toNat : Int) != 48) = true := by rw [bne_iff_ne]; omega
                      have H48 := Lib.hid h48
                      clear h48
                      go_wp2_with (go_at_call 102; refine (lower_any _ _ (UInt8.toNat_lt _)).mono ?_; rintro e w' ⟨rfl, rfl⟩)
                      go_roundg (s.size - (k + 1))
                      case measure => have := Hg.out; omega
                      case rel => exact ⟨k + 1, nd + 1, ndM, m, dpv, dot, true, us, true, by omega, rfl, rfl, rfl, by go_num, rfl, rfl, rfl, by go_num, rfl, rfl, (by have hd := Hd.out; rw [show (s[k].toNat - 48 != 0) = true by have := H48.out; simp; omega, Bool.or_true] at hd; exact hd), rfl⟩
                have Hdec := Lib.hid hdec
                clear hdec
                have hlw : lw s[k].toNat < 256 := lw_lt _ hc
                by_cases hhex : 97 ≤ lw s[k].toNat ∧ lw s[k].toNat ≤ 102
                · obtain ⟨d1, d2⟩ := hhex
                  have hd := HR.out.digHi _ (lw s[k].toNat - 87) HD.out H95.out H46.out (digOf_hex Hdec.out d1 d2) (by rw [bse16]; omega) hM
                  rw [show (lw s[k].toNat - 87 != 0) = true by simp; omega, Bool.or_true] at hd
                  have Hd := Lib.hid hd
                  clear hd
                  by_cases hlt48 : s[k].toNat < 48
                  · as_aux_lemma =>
                      go_wp2_with (go_at_call 102; refine (lower_any _ _ (UInt8.toNat_lt _)).mono ?_; rintro e w' ⟨rfl, rfl⟩)
                      go_roundg (s.size - (k + 1))
                      case measure => have := Hg.out; omega
                      case rel => exact ⟨k + 1, nd + 1, ndM, m, dpv, dot, true, us, true, by omega, rfl, rfl, rfl, by go_num, rfl, rfl, rfl, by go_num, rfl, rfl, Hd.out, rfl⟩
                  · as_aux_lemma =>
                      have h57 : 57 < s[k].toNat := by have := Hdec.out; omega
                      go_wp2_with (go_at_call 102; refine (lower_any _ _ (UInt8.toNat_lt _)).mono ?_; rintro e w' ⟨rfl, rfl⟩)
                      go_roundg (s.size - (k + 1))
                      case measure => have := Hg.out; omega
                      case rel => exact ⟨k + 1, nd + 1, ndM, m, dpv, dot, true, us, true, by omega, rfl, rfl, rfl, by go_num, rfl, rfl, rfl, by go_num, rfl, rfl, Hd.out, rfl⟩
                have Hst := Lib.hid (HR.out.stop _ HD.out (fun st _ => mstop_other H95.out H46.out (digOf_none Hdec.out (fun h => hhex h.2))))
                by_cases hlt48 : s[k].toNat < 48
                · by_cases hl : lw s[k].toNat < 97
                  · as_aux_lemma =>
                      clear hhex
                      go_wp2_with (go_at_call 102; refine (lower_any _ _ (UInt8.toNat_lt _)).mono ?_; rintro e w' ⟨rfl, rfl⟩)
                      go_meet
                      exact ⟨k, nd, ndM, m, dpv, dot, digs, us, tr, hk, rfl, rfl, rfl, rfl, rfl, rfl, rfl, rfl, rfl, Hst.out, rfl⟩
                  · as_aux_lemma =>
                      have hl2 : 102 < lw s[k].toNat := by omega
                      clear hhex
                      go_wp2_with (go_at_call 102; refine (lower_any _ _ (UInt8.toNat_lt _)).mono ?_; rintro e w' ⟨rfl, rfl⟩)
                      go_meet
                      exact ⟨k, nd, ndM, m, dpv, dot, digs, us, tr, hk, rfl, rfl, rfl, rfl, rfl, rfl, rfl, rfl, rfl, Hst.out, rfl⟩
                · have h57 : 57 < s[k].toNat := by have := Hdec.out; omega
                  by_cases hl : lw s[k].toNat < 97
                  · as_aux_lemma =>
                      clear hhex
                      go_wp2_with (go_at_call 102; refine (lower_any _ _ (UInt8.toNat_lt _)).mono ?_; rintro e w' ⟨rfl, rfl⟩)
                      go_meet
                      exact ⟨k, nd, ndM, m, dpv, dot, digs, us, tr, hk, rfl, rfl, rfl, rfl, rfl, rfl, rfl, rfl, rfl, Hst.out, rfl⟩
                  · as_aux_lemma =>
                      have hl2 : 102 < lw s[k].toNat := by omega
                      clear hhex
                      go_wp2_with (go_at_call 102; refine (lower_any _ _ (UInt8.toNat_lt _)).mono ?_; rintro e w' ⟨rfl, rfl⟩)
                      go_meet
                      exact ⟨k, nd, ndM, m, dpv, dot, digs, us, tr, hk, rfl, rfl, rfl, rfl, rfl, rfl, rfl, rfl, rfl, Hst.out, rfl⟩
            · as_aux_lemma =>
                go_wp2_with fail
                go_meet
                exact ⟨k, nd, ndM, m, dpv, dot, digs, us, tr, hk, rfl, rfl, rfl, rfl, rfl, rfl, rfl, rfl, rfl, HR.out.done (bsN_drop_end s k (by omega)), rfl⟩
      case rest =>
        obtain ⟨k, nd, ndM, m, dpv, dot, digs, us, tr, hk, rfl, rfl, rfl, rfl, rfl, rfl, rfl, rfl, rfl, HD, rfl⟩ := hcut
        have HDN := Lib.hid HD
        clear HD
        cases digs
        · as_aux_lemma =>
            go_wp2_with fail
            rw [Exit.noGoto_ret]
            refine bodyPost_ret (v := .tuple #[.int .u64 m, .int .i64 0, .bool N, .bool tr, .bool true, .int .i64 k, .bool false]) (by simp [results, Tryz.results67, go_sem]) rfl ⟨RFPost.no (rf_nodigs HF.out HDN.out) rfl, rfl⟩
        · go_upto_if 142 with fail
          go_cut [17] (fun v w1 => v = .int .i64 FIN.1.dp ∧ w1 = wc)
          case first =>
            as_aux_lemma =>
              cases dot
              · go_wp2_with fail
                go_meet
                exact ⟨vi (dp_nodot HDN.out), rfl⟩
              · go_wp2_with fail
                go_meet
                exact ⟨vi (dp_dot HDN.out), rfl⟩
          case rest =>
            obtain ⟨rfl, rfl⟩ := hcut
            have Hrf := Lib.hid (rf_digs HF.out HDN.out (by rw [Hc.out]; simp))
            have bdp : -400 ≤ FIN.1.dp ∧ FIN.1.dp ≤ 400 := by
              have r := HDN.out.rs
              have := r.dp0; have := r.dp1; have := r.ndk
              cases dot
              · have := r.edn rfl; omega
              · have := r.edp rfl; omega
            obtain ⟨DP, hDP⟩ : ∃ DP, DP = FIN.1.dp := ⟨_, rfl⟩
            rw [← hDP] at bdp ⊢
            have HDP := Lib.hid hDP
            clear hDP
            obtain ⟨MK, hMK⟩ : ∃ MK, MK = mkAt true (bsN s) k := ⟨_, rfl⟩
            have HMK := Lib.hid hMK
            clear hMK
            go_upto_region 57 with fail
            go_cut [161] (fun v w1 => v = .bool MK ∧ w1 = wc)
            case first =>
              as_aux_lemma =>
                go_wp2_with (go_at_call 102; refine (lower_any _ _ (UInt8.toNat_lt _)).mono ?_; rintro e w' ⟨rfl, rfl⟩)
                · go_meet
                  exact ⟨vb (by rw [HMK.out, mkAt_in ‹k < s.size›]; rfl), rfl⟩
                · go_meet
                  exact ⟨vb (by rw [HMK.out, mkAt_end (by omega)]), rfl⟩
            case rest =>
              obtain ⟨rfl, rfl⟩ := hcut
              go_upto_if 161 with fail
              go_cut [7, 9, 17] (fun s7 s9 s17 w1 => ∃ (i : Nat) (u : Bool) (dq : Int), i ≤ s.size ∧ s7 = .int .i64 i ∧ s9 = .bool u ∧ s17 = .int .i64 dq ∧ -200000 ≤ dq ∧ dq ≤ 200000 ∧ rf (bsN s) = rfEnd (bsN s) N true FIN.1 dq u ((bsN s).drop i) ∧ w1 = wc)
              case first =>
                cases MK
                · as_aux_lemma =>
                    have Hn := Lib.hid (show rf (bsN s) = none by rw [Hrf.out, rfExpo_no (k := k) HDN.out.rest (by rw [HHX.out]; exact HMK.out.symm), HHX.out]; rfl)
                    go_wp2_with fail
                    rw [Exit.noGoto_ret]
                    exact bodyPost_ret (v := .tuple #[.int .u64 m, .int .i64 0, .bool N, .bool tr, .bool true, .int .i64 k, .bool false]) (by simp [results, Tryz.results67, go_sem]) rfl ⟨RFPost.no Hn.out rfl, rfl⟩
                · have hk1 : k < s.size := by
                    refine Decidable.byContradiction fun h => ?_
                    have := HMK.out; rw [mkAt_end (by omega)] at this; cases this
                  have Hrf2 := Lib.hid (Hrf.out.trans (rfExpo_mark (k := k) HDN.out.rest (by rw [HHX.out]; exact HMK.out.symm)))
                  by_cases h1 : k + 1 < s.size
                  · go_upto_block 4 with fail
                    go_cut [7, 19] (fun s7 s19 w1 => ∃ i2 : Nat, s7 = .int .i64 i2 ∧ s19 = .int .i64 (xSg ((bsN s).drop (k + 1))) ∧ k + 1 ≤ i2 ∧ i2 ≤ k + 2 ∧ (bsN s).drop i2 = xRest ((bsN s).drop (k + 1)) ∧ w1 = wc)
                    case first =>
                      as_aux_lemma =>
                        have Hd := Lib.hid (bsN_drop s (k + 1) h1)
                        go_wp2_with fail
                        · have q := b_eq ‹(((s[k + 1]).toNat : Int) == 43) = true›
                          go_meet
                          exact ⟨k + 2, by go_num, vi (by rw [Hd.out]; unfold xSg; rw [if_neg]; simp; omega), by omega, by omega, by rw [Hd.out]; unfold xRest; rw [if_pos (by simp; omega)]; rfl, rfl⟩
                        · have q := b_eq ‹(((s[k + 1]).toNat : Int) == 45) = true›
                          go_meet
                          exact ⟨k + 2, by go_num, vi (by rw [Hd.out]; unfold xSg; rw [if_pos]; simp; omega), by omega, by omega, by rw [Hd.out]; unfold xRest; rw [if_pos (by simp; omega)]; rfl, rfl⟩
                        · have q := b_ne ‹(((s[k + 1]).toNat : Int) == 43) = false›
                          have q2 := b_ne ‹(((s[k + 1]).toNat : Int) == 45) = false›
                          go_meet
                          exact ⟨k + 1, by go_num, vi (by rw [Hd.out]; unfold xSg; rw [if_neg]; simp; omega), by omega, by omega, by rw [Hd.out]; unfold xRest; rw [if_neg (by simp; omega)], rfl⟩
                    case rest =>
                      obtain ⟨i2, rfl, rfl, c1, c2, hx2, rfl⟩ := hcut
                      obtain ⟨SG, hSG⟩ : ∃ SG, SG = xSg ((bsN s).drop (k + 1)) := ⟨_, rfl⟩
                      have hSG2 := xSg_or ((bsN s).drop (k + 1))
                      rw [← hSG] at hSG2 ⊢
                      have Hrf3 := Lib.hid (show rf (bsN s) = match xr1 SG ((bsN s).drop i2) with
                          | none => none
                          | some ((e, u), rest) => rfEnd (bsN s) N true FIN.1 (DP * 4 + e) (us || u) rest by
                        rw [Hrf2.out, ← hx2, ← hSG, HHX.out, ← HN.out, ← HDP.out, HDN.out.rs.eus]; simp [four]; rfl)
                      clear hx2 hSG
                      obtain ⟨BD, hBD⟩ : ∃ BD, BD = badFront ((bsN s).drop i2) := ⟨_, rfl⟩
                      have HBD := Lib.hid hBD
                      clear hBD
                      go_upto_region 67 with fail
                      go_cut [194] (fun v w1 => v = .bool BD ∧ w1 = wc)
                      case first =>
                        as_aux_lemma =>
                          by_cases h2 : i2 < s.size
                          · have Hq := Lib.hid (badF_in h2)
                            go_wp2_with fail
                            all_goals
                              go_meet
                              refine ⟨vb (by rw [HBD.out, Hq.out, Bool.eq_iff_iff]; simp; omega), rfl⟩
                          · go_wp2_with fail
                            go_meet
                            exact ⟨vb (by rw [HBD.out, badF_end (by omega)]), rfl⟩
                      case rest =>
                        obtain ⟨rfl, rfl⟩ := hcut
                        cases BD
                        · have Hrf4 := Lib.hid (show rf (bsN s) = rfEnd (bsN s) N true FIN.1 (DP * 4 + ((eRun ((bsN s).drop i2) 0 false).1.1 : Int) * SG) (us || (eRun ((bsN s).drop i2) 0 false).1.2) (eRun ((bsN s).drop i2) 0 false).2 by
                            rw [Hrf3.out, xr1_okF _ _ HBD.out.symm])
                          go_upto_block 5 with fail
                          go_cut [7, 9, 20] (fun s7 s9 s20 w1 => ∃ (j e : Nat) (u : Bool), j ≤ s.size ∧ s7 = .int .i64 j ∧ s9 = .bool (us || u) ∧ s20 = .int .i64 e ∧ e ≤ 99999 ∧ eRun ((bsN s).drop i2) 0 false = ((e, u), (bsN s).drop j) ∧ w1 = wc)
                          case first =>
                            as_aux_lemma =>
                              go_wp2_with fail
                              go_loopg [7, 9, 20] (s.size - i2) (fun g s7 s9 s20 w1 => ∃ (j e : Nat) (u : Bool), j ≤ s.size ∧ g = s.size - j ∧ s7 = .int .i64 j ∧ s9 = .bool (us || u) ∧ s20 = .int .i64 e ∧ e ≤ 99999 ∧ Hid (eRun ((bsN s).drop j) e u = eRun ((bsN s).drop i2) 0 false) ∧ w1 = wc)
                              case atStart => exact ⟨i2, 0, false, by have := HBD.out; exact Nat.le_of_lt (Nat.lt_of_not_le fun h => by rw [badF_end h] at this; cases this), rfl, rfl, vb (by simp), rfl, by omega, Lib.hid rfl, rfl⟩
                              case round =>
                                obtain ⟨j, e, u, hj, hg, rfl, rfl, rfl, he, HR, rfl⟩ := hrel
                                have Hg := Lib.hid hg
                                clear hg
                                by_cases hlt : j < s.size
                                · have Hd := Lib.hid (bsN_drop s j hlt)
                                  have hc : s[j].toNat < 256 := UInt8.toNat_lt _
                                  by_cases h95 : s[j].toNat = 95
                                  · have q : (s[j].toNat : Int) = 95 := by omega
                                    go_wp2_with fail
                                    go_roundg (s.size - (j + 1))
                                    case measure => have := Hg.out; omega
                                    case rel => exact ⟨j + 1, e, true, by omega, rfl, by go_num, vb (by simp), rfl, he, Lib.hid (by rw [← HR.out, Hd.out, eRun_us _ _ _ _ h95]), rfl⟩
                                  · have q0 : ((s[j].toNat : Int) == 95) = false := by rw [beq_eq_false_iff_ne]; omega
                                    have Hq := Lib.hid h95
                                    clear h95
                                    by_cases hd : 48 ≤ s[j].toNat ∧ s[j].toNat ≤ 57
                                    · obtain ⟨d1, d2⟩ := hd
                                      by_cases hE : e < 10000
                                      · go_wp2_with fail
                                        go_roundg (s.size - (j + 1))
                                        case measure => have := Hg.out; omega
                                        case rel => exact ⟨j + 1, e * 10 + (s[j].toNat - 48), u, by omega, rfl, by go_num, rfl, vi (by omega), by omega, Lib.hid (by rw [← HR.out, Hd.out, eRun_dig _ _ _ _ d1 d2, if_pos hE]), rfl⟩
                                      · go_wp2_with fail
                                        go_roundg (s.size - (j + 1))
                                        case measure => have := Hg.out; omega
                                        case rel => exact ⟨j + 1, e, u, by omega, rfl, by go_num, rfl, rfl, he, Lib.hid (by rw [← HR.out, Hd.out, eRun_dig _ _ _ _ d1 d2, if_neg hE]), rfl⟩
                                    · have Hend := Lib.hid (show eRun ((bsN s).drop i2) 0 false = ((e, u), (bsN s).drop j) by rw [← HR.out, Hd.out, eRun_stop _ _ _ _ Hq.out hd])
                                      by_cases d1 : s[j].toNat < 48
                                      · clear hd
                                        go_wp2_with fail
                                        go_meet
                                        exact ⟨j, e, u, hj, rfl, rfl, rfl, he, Hend.out, rfl⟩
                                      · have d2 : 57 < s[j].toNat := by omega
                                        clear hd
                                        go_wp2_with fail
                                        go_meet
                                        exact ⟨j, e, u, hj, rfl, rfl, rfl, he, Hend.out, rfl⟩
                                · go_wp2_with fail
                                  go_meet
                                  exact ⟨j, e, u, hj, rfl, rfl, rfl, he, by rw [← HR.out, bsN_drop_end s j (by omega), eRun_nil], rfl⟩
                          case rest =>
                            obtain ⟨j, e, u, hj, rfl, rfl, rfl, he, hrun, rfl⟩ := hcut
                            have Hrun := Lib.hid hrun
                            clear hrun
                            rcases hSG2 with rfl | rfl
                            · as_aux_lemma =>
                                go_wp2_with fail
                                go_meet
                                exact ⟨j, us || u, DP * 4 + e, hj, rfl, rfl, vi (by omega), by omega, by omega, by rw [Hrf4.out, Hrun.out]; simp, rfl⟩
                            · as_aux_lemma =>
                                go_wp2_with fail
                                go_meet
                                exact ⟨j, us || u, DP * 4 - e, hj, rfl, rfl, vi (by omega), by omega, by omega, by rw [Hrf4.out, Hrun.out]; simp; congr 1, rfl⟩
                        · as_aux_lemma =>
                            have Hn := Lib.hid (show rf (bsN s) = none by rw [Hrf3.out, xr1_badF _ _ HBD.out.symm])
                            go_wp2_with fail
                            rw [Exit.noGoto_ret]
                            exact bodyPost_ret (v := .tuple #[.int .u64 m, .int .i64 0, .bool N, .bool tr, .bool true, .int .i64 i2, .bool false]) (by simp [results, Tryz.results67, go_sem]) rfl ⟨RFPost.no Hn.out rfl, rfl⟩
                  · as_aux_lemma =>
                      have Hn := Lib.hid (show rf (bsN s) = none by
                        rw [Hrf2.out, bsN_drop_end s (k + 1) (by omega)]; rfl)
                      go_wp2_with fail
                      rw [Exit.noGoto_ret]
                      exact bodyPost_ret (v := .tuple #[.int .u64 m, .int .i64 0, .bool N, .bool tr, .bool true, .int .i64 (k + 1), .bool false]) (by simp [results, Tryz.results67, go_sem]) rfl ⟨RFPost.no Hn.out rfl, rfl⟩
              case rest =>
                obtain ⟨i, u, dq, hi, rfl, rfl, rfl, d1, d2, hend, rfl⟩ := hcut
                have bM : ndM ≤ 16 := by have := HDN.out.rs.eM; have e : mx true = 16 := rfl; omega
                have He := Lib.hid (show rf (bsN s) = if u && !uOk (bsN (s.extract 0 i)) then none else some ⟨m, if m ≠ 0 then dq - (ndM * 4 : Nat) else 0, N, tr, true, i⟩ by
                  have r := HDN.out.rs
                  rw [hend, rfEnd_at (by rw [bsN_len]; exact hi), bsN_take, ← r.em, ← r.etr, r.len, ← r.eM]; simp [four])
                clear hend
                have hsz : (s.extract 0 i).size ≤ 400 := by simp; omega
                by_cases hm0 : m = 0
                · cases u
                  · as_aux_lemma =>
                      go_wp2_with fail
                      rw [Exit.noGoto_ret]
                      exact bodyPost_ret (v := .tuple #[.int .u64 m, .int .i64 0, .bool N, .bool tr, .bool true, .int .i64 i, .bool true]) (by simp [results, Tryz.results67, go_sem, hm0]) rfl ⟨RFPost.yes (r := ⟨m, 0, N, tr, true, i⟩) (by rw [He.out]; simp [hm0]) rfl, rfl⟩
                  · cases hu : uOk (bsN (s.extract 0 i))
                    · as_aux_lemma =>
                        go_wp2_with (go_at_call 103; refine (under103_any (s.extract 0 i) _ hsz).mono ?_; rintro e w' ⟨rfl, rfl⟩)
                        rw [Exit.noGoto_ret]
                        exact bodyPost_ret (v := .tuple #[.int .u64 m, .int .i64 0, .bool N, .bool tr, .bool true, .int .i64 i, .bool false]) (by simp [results, Tryz.results67, go_sem, hm0]) rfl ⟨RFPost.no (by rw [He.out, hu]; rfl) rfl, rfl⟩
                    · as_aux_lemma =>
                        go_wp2_with (go_at_call 103; refine (under103_any (s.extract 0 i) _ hsz).mono ?_; rintro e w' ⟨rfl, rfl⟩)
                        rw [Exit.noGoto_ret]
                        exact bodyPost_ret (v := .tuple #[.int .u64 m, .int .i64 0, .bool N, .bool tr, .bool true, .int .i64 i, .bool true]) (by simp [results, Tryz.results67, go_sem, hm0]) rfl ⟨RFPost.yes (r := ⟨m, 0, N, tr, true, i⟩) (by rw [He.out, hu]; simp [hm0]) rfl, rfl⟩
                · have hm1 : 1 ≤ m := by omega
                  have hw4 : wrap64 ((ndM : Int) * 4) = (ndM : Int) * 4 := by unfold wrap64; omega
                  have hw5 : wrap64 (dq - (ndM : Int) * 4) = dq - (ndM : Int) * 4 := by unfold wrap64; omega
                  cases u
                  · as_aux_lemma =>
                      go_wp2_with fail
                      rw [Exit.noGoto_ret]
                      exact bodyPost_ret (v := .tuple #[.int .u64 m, .int .i64 (dq - (ndM * 4 : Nat)), .bool N, .bool tr, .bool true, .int .i64 i, .bool true]) (by simp [results, Tryz.results67, go_sem, hm0, hw4, hw5]) rfl ⟨RFPost.yes (r := ⟨m, (dq - (ndM * 4 : Nat)), N, tr, true, i⟩) (by rw [He.out]; simp [hm0]) rfl, rfl⟩
                  · cases hu : uOk (bsN (s.extract 0 i))
                    · as_aux_lemma =>
                        go_wp2_with (go_at_call 103; refine (under103_any (s.extract 0 i) _ hsz).mono ?_; rintro e w' ⟨rfl, rfl⟩)
                        rw [Exit.noGoto_ret]
                        exact bodyPost_ret (v := .tuple #[.int .u64 m, .int .i64 (dq - (ndM * 4 : Nat)), .bool N, .bool tr, .bool true, .int .i64 i, .bool false]) (by simp [results, Tryz.results67, go_sem, hm0, hw4, hw5]) rfl ⟨RFPost.no (by rw [He.out, hu]; rfl) rfl, rfl⟩
                    · as_aux_lemma =>
                        go_wp2_with (go_at_call 103; refine (under103_any (s.extract 0 i) _ hsz).mono ?_; rintro e w' ⟨rfl, rfl⟩)
                        rw [Exit.noGoto_ret]
                        exact bodyPost_ret (v := .tuple #[.int .u64 m, .int .i64 (dq - (ndM * 4 : Nat)), .bool N, .bool tr, .bool true, .int .i64 i, .bool true]) (by simp [results, Tryz.results67, go_sem, hm0, hw4, hw5]) rfl ⟨RFPost.yes (r := ⟨m, (dq - (ndM * 4 : Nat)), N, tr, true, i⟩) (by rw [He.out, hu]; simp [hm0]) rfl, rfl⟩
end Go.Proofs.YtdfbokmjipdolaaGreatDoor
