/- The light decimal's bits: the way through the loops. -/
import Derived.Test.YtdfbokmjipdolaaGreatDoorQ7
set_option linter.unusedVariables false
set_option linter.unusedSimpArgs false
namespace Go.Proofs.YtdfbokmjipdolaaGreatDoor
open Go.RowKit

theorem ret_ub {a b : Int} {x y : Bool} (h : a = b) (h2 : x = y) : Ending.returned (.tuple #[.int .u64 a, .bool x]) = Ending.returned (.tuple #[.int .u64 b, .bool y]) := by rw [h, h2]
set_option maxRecDepth 100000 in
set_option maxHeartbeats 4000000 in
theorem bitsW_main (w : World) (B b g cap : Nat) (D : List Nat) (dp : Int) (h : LD w B b g cap D dp) (hd : LOk D) (hlen : D.length ≤ 20000) (hdp : -330 ≤ dp) (hdp' : dp ≤ 310) :
    Calls Tryz.prog 56 #[.pointer (some ⟨b, 0, none⟩), .agg #[.int .i64 52, .int .i64 11, .int .i64 (-1023)]] w fun e w' => e = .returned (.tuple #[.int .u64 (lbits D dp).1, .bool (lbits D dp).2]) ∧ Below B w w' := by
  have hbl : lbits D dp = lfin (lR2 D dp).1 ((lR1 D dp).2.2 - (lR2 D dp).2.2 - 1) := by
    unfold lbits
    rw [if_neg (fun h => by rcases h with h | h; exact hd.ne h; omega), if_neg (by omega)]
  obtain ⟨RES, hRES⟩ : ∃ RES, RES = lbits D dp := ⟨_, rfl⟩
  rw [← hRES] at hbl ⊢
  have c0 := h.c0
  have c1 := h.c1
  have hcap := h.capMax
  have hDl : 1 ≤ D.length := List.length_pos_iff.2 hd.ne
  have hbw := h.lt
  have hbB := h.hb
  obtain ⟨n, hn⟩ : ∃ n, n = D.length := ⟨_, rfl⟩
  rw [← hn] at c0 hcap hlen hDl
  have Hn := Lib.hid hn
  have H := Lib.hid h
  have Hd := Lib.hid hd
  have Hbl := Lib.hid hbl
  have q0 : ((n : Int) == 0) = false := by rw [beq_eq_false_iff_ne]; omega
  have q1 : decide (dp < -330) = false := by simp; omega
  clear h hn hd hbl hRES
  go_enter Tryz.func56, Tryz.ntmps56
  go_wp2_with fail
  go_quiet (fail)
  obtain ⟨F, hF⟩ : ∃ F, F = w.heap.size := ⟨_, rfl⟩
  obtain ⟨W, hW⟩ : ∃ W, W = (w.alloc (.cells #[.int .i64 52, .int .i64 11, .int .i64 (-1023)] 100)).drewN nq := ⟨_, rfl⟩
  have hFb : F ≠ b := by omega
  have hWw : Below w.heap.size w W := by rw [hW]; exact ⟨rfl, rfl, rfl, by simp, fun k hk => Below.heap_alloc _ _ _ hk⟩
  have hBW0 : BW W B b F D dp W := by
    refine ⟨⟨g, cap, ?_⟩, Hd.out, Fr.refl _ _, ?_⟩
    · exact H.out.below hWw hbw H.out.glt.1
    · rw [hW, hF]; exact (FormAt.alloc w).drewN nq
  rw [← hW, ← hF]
  have c0' : W.cell? ⟨b, 0, none⟩ = some (.slice (some ⟨g, 0, none⟩) n cap) := by rw [hWw.cell (p := ⟨b, 0, none⟩) hbw]; exact c0
  have c1' : W.cell? ⟨b, 1, none⟩ = some (.int .i64 dp) := by rw [hWw.cell (p := ⟨b, 1, none⟩) hbw]; exact c1
  have HB0 := Lib.hid hBW0
  have HWw := Lib.hid hWw
  have HF := Lib.hid hF
  clear hW hF hBW0 hWw c0 c1
  go_upto_block 1 with fail
  obtain ⟨R1, hR1⟩ : ∃ R1, R1 = lR1 D dp := ⟨_, rfl⟩
  have HR1 := Lib.hid hR1
  go_cut [7] (fun s7 wx => ∃ (E : List Nat) (dq : Int) (e : Nat), s7 = .int .i64 e ∧ e ≤ 400000 ∧ Hid (BW W B b F E dq wx) ∧ Hid (R1 = (E, dq, e)) ∧ dq ≤ 0 ∧ -330 ≤ dq ∧ Hid (E.length ≤ 220000))
  case first =>
    as_aux_lemma =>
      go_wp2_with fail
      go_loopg [7] (10 * dp.toNat + 9) (fun gm s7 wx => ∃ (E : List Nat) (dq : Int) (e : Nat), s7 = .int .i64 e ∧ e + 59 * gm ≤ 400000 ∧ Hid (BW W B b F E dq wx) ∧ Hid (lL1 gm E dq e = R1) ∧ Hid (m1 E dq ≤ gm) ∧ dq ≤ 310 ∧ -330 ≤ dq ∧ Hid (E.length + 61 * gm ≤ 220000))
      case atStart => exact ⟨D, dp, 0, rfl, by omega, HB0, Lib.hid (by rw [HR1.out]; rfl), Lib.hid (by unfold m1; have := (num_head Hd.out).2.2.2.1; omega), hdp', by omega, Lib.hid (by have := Hn.out; omega)⟩
      case round =>
        obtain ⟨E, dq, e, rfl, he, HB, HL, HM, d1, d2, HEl⟩ := hrel
        obtain ⟨g', cap', hl⟩ := HB.out.ld
        have c1 := hl.c1
        have Hl := Lib.hid hl
        clear hl
        by_cases h0 : 0 < dq
        · obtain ⟨f, rfl⟩ : ∃ f, gk = f + 1 := by
            cases gk with
            | zero => exfalso; have h1 := HM.out; have h2 := (num_head HB.out.ok).2.2.1; unfold m1 at h1; omega
            | succ f => exact ⟨f, rfl⟩
          have hst := HL.out
          rw [lL1, if_pos h0] at hst
          have hs := half_step HB.out.ok dq h0
          have hk1 := k1_le dq
          have hk0 : 1 ≤ k1 dq := by unfold k1; omega
          have ek : min (3 * dq) 59 = ((k1 dq : Nat) : Int) := by unfold k1; omega
          have Hc := Lib.hid (halfW_any wr B b g' cap' E dq (k1 dq) Hl.out HB.out.ok hk0 hk1 (by have := HEl.out; omega) (by omega) (by omega))
          have Hok := Lib.hid (half_ok HB.out.ok hk1)
          have Hlen := Lib.hid (half_len (D := E) (k := k1 dq))
          have Hs := Lib.hid hs
          have Hge := Lib.hid (halfP_ge HB.out.ok hk1 dq).1
          obtain ⟨K, hK⟩ : ∃ K, K = k1 dq := ⟨_, rfl⟩
          rw [← hK] at hst hk1 hk0 ek Hc Hok Hlen Hs Hge
          have Hst := Lib.hid hst
          clear hst hs hK
          go_wp2_with fail
          refine Hc.out.mono ?_
          rintro e' w' ⟨rfl, hl2, hf2⟩
          have HB2 := Lib.hid (HB.out.next hFb hl2 Hok.out hf2)
          clear hl2 hf2
          go_wp2_with fail
          go_roundg f
          case measure => omega
          case rel =>
            have s1 := Hs.out
            have s2 := HM.out
            exact ⟨halfD K E, halfP K E dq, e + K, by go_num, by omega, HB2, Hst, Lib.hid (by omega), by omega, by have := Hge.out; omega, Lib.hid (by have := HEl.out; have := Hlen.out; omega)⟩
        · have HL2 := Lib.hid (show R1 = (E, dq, e) by rw [← HL.out, lL1_stop gk E dq e (by omega)])
          go_wp2_with fail
          go_meet
          exact ⟨E, dq, e, rfl, by omega, HB, HL2, by omega, by omega, Lib.hid (by have := HEl.out; omega)⟩
  case rest =>
    obtain ⟨D1, dp1, e1, rfl, be1, HB1, HR1e, hp1, hp1', HD1l⟩ := hcut
    obtain ⟨R2, hR2⟩ : ∃ R2, R2 = lR2 D dp := ⟨_, rfl⟩
    have HR2 := Lib.hid (show R2 = lL2 (10 * (-dp1).toNat + 10) D1 dp1 0 by rw [hR2]; unfold lR2; rw [← hR1, HR1e.out])
    have Hbl2 := Lib.hid (show RES = lfin R2.1 ((e1 : Int) - R2.2.2 - 1) by rw [Hbl.out, ← hR1, ← hR2, HR1e.out])
    clear hR1 hR2 c0' c1'
    go_upto_block 3 with fail
    go_cut [7] (fun s7 wx => ∃ (E : List Nat) (j : Nat), s7 = .int .i64 ((e1 : Int) - j) ∧ j ≤ 400000 ∧ Hid (BW W B b F E 0 wx) ∧ Hid (R2 = (E, 0, j)) ∧ Hid (E.length ≤ 300000) ∧ Hid (5 ≤ E.getD 0 0))
    case first =>
      as_aux_lemma =>
        go_wp2_with fail
        go_loopg [7] (10 * (-dp1).toNat + 10) (fun gm s7 wx => ∃ (E : List Nat) (dq : Int) (j : Nat), s7 = .int .i64 ((e1 : Int) - j) ∧ j + 59 * gm ≤ 400000 ∧ Hid (BW W B b F E dq wx) ∧ Hid (lL2 gm E dq j = R2) ∧ Hid (m2 E dq < gm) ∧ dq ≤ 0 ∧ dp1 ≤ dq ∧ Hid (E.length + 18 * gm ≤ 300000))
        case atStart => exact ⟨D1, dp1, 0, vi (by omega), by omega, HB1, Lib.hid HR2.out.symm, Lib.hid (by unfold m2; omega), hp1, Int.le_refl _, Lib.hid (by have := HD1l.out; omega)⟩
        case round =>
          obtain ⟨E, dq, j, rfl, hj, HB, HL, HM, d1, d2, HEl⟩ := hrel
          obtain ⟨g', cap', hl⟩ := HB.out.ld
          have c0 := hl.c0
          have c1 := hl.c1
          have hhd := num_head HB.out.ok
          have cg := hl.cg 0 hhd.2.2.2.2
          have hcap := hl.capMax
          obtain ⟨N, hN⟩ : ∃ N, N = E.length := ⟨_, rfl⟩
          have bN : N ≤ 300000 ∧ 1 ≤ N := by rw [hN]; exact ⟨by have := HEl.out; omega, hhd.2.2.2.2⟩
          rw [← hN] at c0 hcap
          obtain ⟨x, hx⟩ : ∃ x, x = E.getD 0 0 := ⟨_, rfl⟩
          have bx : x ≤ 9 := by rw [hx]; exact hhd.2.2.2.1
          rw [← hx] at cg
          have Hl := Lib.hid hl
          have Hx := Lib.hid hx
          clear hl hN hx hhd
          by_cases hcond : dq < 0 ∨ x < 5
          · obtain ⟨f, rfl⟩ : ∃ f, gk = f + 1 := ⟨gk - 1, by have := HM.out; omega⟩
            have hst := HL.out
            rw [lL2, if_pos (by rw [← Hx.out]; exact hcond)] at hst
            have hs := dbl_step HB.out.ok dq (by rw [← Hx.out]; omega)
            have hk1 := k2_le dq
            have Hc := Lib.hid (fun hk0 => dblW_any wr B b g' cap' E dq (k2 dq) Hl.out HB.out.ok hk0 hk1 (by have := HEl.out; omega) (by omega) (by omega))
            have Hok := Lib.hid (dbl_ok HB.out.ok hk1)
            have Hlen := Lib.hid (dbl_len (D := E) (k := k2 dq))
            have Hs := Lib.hid hs
            have hk2 : k2 dq = if dq < 0 then (min (-3 * dq) 59).toNat else 1 := rfl
            obtain ⟨K, hK⟩ : ∃ K, K = k2 dq := ⟨_, rfl⟩
            rw [← hK] at hst hk1 Hc Hok Hlen Hs hk2
            have Hst := Lib.hid hst
            clear hst hs hK
            by_cases h0 : dq < 0
            · as_aux_lemma =>
                have ek : min (-3 * dq) 59 = (K : Int) := by rw [if_pos h0] at hk2; omega
                have hk0 : 1 ≤ K := by omega
                clear hk2 hcond
                go_wp2_with fail
                refine (Hc.out hk0).mono ?_
                rintro e' w' ⟨rfl, hl2, hf2⟩
                have HB2 := Lib.hid (HB.out.next hFb hl2 Hok.out hf2)
                clear hl2 hf2
                go_wp2_with fail
                go_roundg f
                case measure => omega
                case rel =>
                  have s1 := Hs.out
                  have s2 := HM.out
                  exact ⟨dblD K E, dblP K E dq, j + K, vi (by omega), by omega, HB2, Hst, Lib.hid (by omega), by omega, by omega, Lib.hid (by have := HEl.out; have := Hlen.out; omega)⟩
            · as_aux_lemma =>
                have ek : K = 1 := by rw [if_neg h0] at hk2; exact hk2
                have hx5 : x < 5 := by omega
                subst ek
                clear hk2 hcond
                go_wp2_with fail
                refine (Hc.out (by decide)).mono ?_
                rintro e' w' ⟨rfl, hl2, hf2⟩
                have HB2 := Lib.hid (HB.out.next hFb hl2 Hok.out hf2)
                clear hl2 hf2
                go_wp2_with fail
                go_roundg f
                case measure => omega
                case rel =>
                  have s1 := Hs.out
                  have s2 := HM.out
                  exact ⟨dblD 1 E, dblP 1 E dq, j + 1, vi (by omega), by omega, HB2, Hst, Lib.hid (by omega), by omega, by omega, Lib.hid (by have := HEl.out; have := Hlen.out; omega)⟩
          · as_aux_lemma =>
              have e0 : dq = 0 := by omega
              subst e0
              have hx5 : 5 ≤ x := by omega
              have HL2 := Lib.hid (show R2 = (E, 0, j) by rw [← HL.out, lL2_stop gk E 0 j (by rw [← Hx.out]; omega)])
              clear hcond
              go_wp2_with fail
              go_meet
              exact ⟨E, j, rfl, by omega, HB, HL2, Lib.hid (by have := HEl.out; omega), Lib.hid (by rw [← Hx.out]; exact hx5)⟩
    case rest =>
      obtain ⟨D2, j2, rfl, bj2, HB2, HR2e, HD2l, Hh2⟩ := hcut
      obtain ⟨x, hx⟩ : ∃ x : Int, x = (e1 : Int) - j2 - 1 := ⟨_, rfl⟩
      have bx0 : -1102 ≤ x := by
        have hjb := lR_bound D dp Hd.out (by rw [← Hn.out]; exact hlen) hdp hdp'
        have e2 : (lR2 D dp).2.2 = j2 := by
          have := HR2e.out
          rw [HR2.out] at this
          unfold lR2
          rw [← HR1.out, HR1e.out]
          simp only
          rw [this]
        rw [e2, ← HR1.out, HR1e.out] at hjb
        simp only at hjb
        omega
      have bx1 : x ≤ 400000 := by omega
      have Hfin := Lib.hid (show RES = lfin D2 x by rw [Hbl2.out, HR2e.out, hx])
      have HLF := Lib.hid (lF_ok D2 x HB2.out.ok HD2l.out bx0)
      have Hx := Lib.hid hx
      obtain ⟨y1, y2, y3⟩ := lY_b x
      obtain ⟨Y, hY⟩ : ∃ Y, Y = lY x := ⟨_, rfl⟩
      rw [← hY] at y1 y2 y3
      have HY := Lib.hid hY
      have HfC2 := HB2.out.form.c2
      clear hx hY
      go_upto_if 96 with fail
      rw [← Hx.out]
      go_cut [7, 10] (fun s7 s10 wx => s7 = .int .i64 Y ∧ s10 = .int .i64 (-1022 - x) ∧ Hid (BW W B b F (lR3 D2 x).1 (lR3 D2 x).2 wx))
      case first =>
        as_aux_lemma =>
          obtain ⟨g', cap', hl⟩ := HB2.out.ld
          by_cases hneg : 0 < -1022 - x
          · obtain ⟨K, hK⟩ : ∃ K : Nat, -1022 - x = (K : Int) := ⟨(-1022 - x).toNat, by omega⟩
            have hK0 : 0 < K := by omega
            have hKb : K ≤ 80 := by omega
            have e3 : lR3 D2 x = lDn (K + 1) D2 0 K := by unfold lR3; rw [if_pos hneg, show (-1022 - x).toNat = K by omega]
            have Hc := Lib.hid (shiftDnW wc B b g' cap' D2 0 K (K + 1) hl HB2.out.ok hK0 (by omega) (by omega) (by have := HD2l.out; omega) (by omega) (by omega))
            rw [← e3] at Hc
            have hYe : Y = -1022 := by rw [HY.out]; unfold lY; rw [if_pos hneg]
            have HYe := Lib.hid hYe
            have hxn : x < -1022 := by omega
            rw [hK] at hneg ⊢
            have HK := Lib.hid hK
            clear hl e3 hYe hK
            go_wp2_with fail
            refine Hc.out.mono ?_
            rintro e' w' ⟨rfl, hl2, hf2⟩
            have HB3 := Lib.hid (HB2.out.next hFb hl2 HLF.out.ok3 hf2)
            clear hl2 hf2
            go_wp2_with fail
            go_meet
            exact ⟨vi (by have := HK.out; rw [HYe.out]; omega), vi HK.out.symm, HB3⟩
          · have e3 : lR3 D2 x = (D2, 0) := by unfold lR3; rw [if_neg hneg]
            have hYe : Y = x := by rw [HY.out]; unfold lY; rw [if_neg hneg]
            have HYe := Lib.hid hYe
            have HB3 := Lib.hid (show BW W B b F (lR3 D2 x).1 (lR3 D2 x).2 wc by rw [e3]; exact HB2.out)
            clear e3 hYe hl
            go_wp2_with fail
            go_meet
            exact ⟨vi HYe.out.symm, rfl, HB3⟩
      case rest =>
        obtain ⟨rfl, rfl, HB3⟩ := hcut
        have y4 : Y ≤ 400000 := by omega
        have hfo := HB3.out.form
        have c0 := hfo.c0
        have c1 := hfo.c1
        have c2 := hfo.c2
        clear hfo HfC2
        by_cases hY : 1024 ≤ Y
        · as_aux_lemma =>
            have e : RES = (infPos, true) := by rw [Hfin.out]; unfold lfin; rw [← HY.out, if_pos hY]
            have He := Lib.hid e
            clear e
            go_wp2_with fail
            go_quiet (fail)
            go_wp2_with fail
            go_ret2
            exact ⟨by rw [He.out]; rfl, (HWw.out.mono (by omega)).trans ((HB3.out.fr.dr _).below hbB (by have := HWw.out.size; omega))⟩
        · have e : RES = lpack (wholeI (lUp 54 (lR3 D2 x).1 (lR3 D2 x).2 53).1 (lUp 54 (lR3 D2 x).1 (lR3 D2 x).2 53).2) Y := by rw [Hfin.out]; unfold lfin; rw [← HY.out, if_neg hY]
          have He := Lib.hid e
          obtain ⟨g', cap', hl⟩ := HB3.out.ld
          have hlf := HLF.out
          have Hok4 := Lib.hid hlf.ok4
          have HL := Lib.hid hl
          have Hs := Lib.hid (fun nq => shiftUpW (wc.drewN nq) B b g' cap' (lR3 D2 x).1 (lR3 D2 x).2 53 54 (HL.out.drewN nq) HB3.out.ok (by decide) (by decide) (by have := hlf.len3; omega) (by have := hlf.lo3; omega) (by have := hlf.hi3; omega))
          have Hw := Lib.hid (fun w g cap (h : LD w B b g cap (lUp 54 (lR3 D2 x).1 (lR3 D2 x).2 53).1 (lUp 54 (lR3 D2 x).1 (lR3 D2 x).2 53).2) => wholeW_any w B b g cap _ _ h hlf.ok4 (by have := hlf.lo4; omega) (by have := hlf.hi4; omega) (by have := hlf.len4; omega) hlf.n4)
          have bM := hlf.w4
          obtain ⟨R4, hR4⟩ : ∃ R4, R4 = lUp 54 (lR3 D2 x).1 (lR3 D2 x).2 53 := ⟨_, rfl⟩
          rw [← hR4] at bM He Hs Hw Hok4
          obtain ⟨M, hM⟩ : ∃ M, M = wholeI R4.1 R4.2 := ⟨_, rfl⟩
          rw [← hM] at bM He Hw
          clear e hl hR4 hM hlf
          go_wp2_with fail
          go_quiet (fail)
          go_wp2_with fail
          refine (Hs.out _).mono ?_
          rintro e' w' ⟨rfl, ⟨g4, cap4, hl4⟩, hf4⟩
          have hB4 : BW W B b F R4.1 R4.2 w' := by
            refine ⟨⟨g4, cap4, hl4⟩, Hok4.out, (HB3.out.fr.dr _).trans hf4, ?_⟩
            exact (HB3.out.form.drewN _).fr hf4 hFb
          have c0 := hB4.form.c0
          have c1 := hB4.form.c1
          have c2 := hB4.form.c2
          have HB4 := Lib.hid hB4
          have HL4 := Lib.hid hl4
          clear hB4 hl4 hf4
          go_wp2_with fail
          refine (Hw.out _ _ _ HL4.out).mono ?_
          rintro e' w2 ⟨rfl, rfl⟩
          have Hend := Lib.hid (show ∀ nq, Below B w (w'.drewN nq) from fun nq => (HWw.out.mono (by omega)).trans ((HB4.out.fr.dr nq).below hbB (by have := HWw.out.size; omega)))
          by_cases hM : M = 9007199254740992
          · have qM : ((M : Int) == 9007199254740992) = true := by rw [beq_iff_eq]; omega
            have eM2 : (M : Int) / 2 = 4503599627370496 := by omega
            have k0 : bits BinOp.and IntKind.u64 4503599627370496 4503599627370496 = 4503599627370496 := by decide +kernel
            have k1 : bits BinOp.and IntKind.u64 4503599627370496 4503599627370495 = 0 := by decide +kernel
            by_cases hY2 : 1023 ≤ Y
            · as_aux_lemma =>
                have e : RES = (infPos, true) := by rw [He.out, hM]; unfold lpack; rw [if_pos rfl, if_pos hY2]
                have He2 := Lib.hid e
                clear e hM
                go_wp2_with fail
                go_quiet (fail)
                go_wp2_with fail
                go_ret2
                exact ⟨by rw [He2.out]; rfl, Hend.out _⟩
            · as_aux_lemma =>
                have e : RES = ((Y + 1024).toNat * 4503599627370496, false) := by rw [He.out, hM]; unfold lpack; rw [if_pos rfl, if_neg hY2]
                have He2 := Lib.hid e
                clear e hM
                go_wp2_with fail
                go_quiet (fail)
                go_wp2_with fail
                go_quiet (fail)
                go_wp2_with fail
                go_ret2
                refine ⟨ret_ub ?_ ?_, by rw [World.drewN_drewN]; exact Hend.out _⟩
                · rw [He2.out]
                  obtain ⟨E, hE⟩ : ∃ E : Nat, Y + 1 + 1023 = (E : Int) := ⟨(Y + 1024).toNat, by omega⟩
                  have h2 := pack_or2 0 E (by decide) (by omega)
                  rw [← hE] at h2
                  show bits BinOp.or IntKind.u64 0 ((Y + 1 + 1023) * 4503599627370496) = _
                  have e2 : (Y + 1024).toNat = E := by omega
                  rw [e2]
                  simpa using h2
                · rw [He2.out]
          · have qM : ((M : Int) == 9007199254740992) = false := by rw [beq_eq_false_iff_ne]; omega
            obtain ⟨k0, k1⟩ := pack_facts M (by omega)
            by_cases hM2 : M / 4503599627370496 % 2 = 0
            · as_aux_lemma =>
                rw [if_pos hM2] at k0
                have e : RES = (M % 4503599627370496, false) := by rw [He.out]; unfold lpack; rw [if_neg hM, if_pos hM2]
                have He2 := Lib.hid e
                clear e hM hM2
                obtain ⟨G, hG⟩ : ∃ G, G = M % 4503599627370496 := ⟨_, rfl⟩
                rw [← hG] at k1 He2
                have bG : G < 4503599627370496 := by omega
                have k2 : bits BinOp.or IntKind.u64 (G : Int) 0 = (G : Int) := by
                  have h2 := pack_or2 G 0 bG (by decide)
                  simpa using h2
                clear hG
                go_wp2_with fail
                go_quiet (fail)
                go_wp2_with fail
                go_ret2
                exact ⟨ret_ub (by rw [He2.out]) (by rw [He2.out]), Hend.out _⟩
            · as_aux_lemma =>
                rw [if_neg hM2] at k0
                have e : RES = (M % 4503599627370496 + (Y + 1023).toNat * 4503599627370496, false) := by rw [He.out]; unfold lpack; rw [if_neg hM, if_neg hM2]
                have He2 := Lib.hid e
                clear e hM hM2
                obtain ⟨G, hG⟩ : ∃ G, G = M % 4503599627370496 := ⟨_, rfl⟩
                rw [← hG] at k1 He2
                have bG : G < 4503599627370496 := by omega
                clear hG
                go_wp2_with fail
                go_quiet (fail)
                go_wp2_with fail
                go_ret2
                refine ⟨ret_ub ?_ ?_, Hend.out _⟩
                · rw [He2.out]
                  obtain ⟨E, hE⟩ : ∃ E : Nat, Y + 1023 = (E : Int) := ⟨(Y + 1023).toNat, by omega⟩
                  have h2 := pack_or2 G E bG (by omega)
                  rw [← hE] at h2
                  show bits BinOp.or IntKind.u64 (G : Int) ((Y + 1023) * 4503599627370496) = _
                  have e2 : (Y + 1023).toNat = E := by omega
                  rw [e2]
                  exact h2
                · rw [He2.out]
end Go.Proofs.YtdfbokmjipdolaaGreatDoor
