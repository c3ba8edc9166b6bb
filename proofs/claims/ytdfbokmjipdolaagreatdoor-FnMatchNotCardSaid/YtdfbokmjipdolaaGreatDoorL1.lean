/- The law. -/
import Derived.Test.YtdfbokmjipdolaaGreatDoorQ19
import Derived.Test.YtdfbokmjipdolaaGreatDoorQ16
set_option linter.unusedVariables false
set_option linter.unusedSimpArgs false
namespace Go.Proofs.YtdfbokmjipdolaaGreatDoor
open Go.RowKit

theorem LW.cells {w0 W : World} {B2 B3 : Nat} {s t : ByteArray} {m K N : Int} {c : Bool} (h : LW w0 B2 B3 s m K N t c W) : ∃ k : Int, W.cell? ⟨B3, 0, none⟩ = some (.int .i64 m) ∧ W.cell? ⟨B3, 1, none⟩ = some (.int .i64 k) ∧ W.cell? ⟨B3, 2, none⟩ = some (.int .i64 K) ∧ W.cell? ⟨B3, 3, none⟩ = some (.string t) ∧ W.cell? ⟨B3, 4, none⟩ = some (.int .i64 N) ∧ W.cell? ⟨B3, 5, none⟩ = some (.bool c) := by
  obtain ⟨k, hk⟩ := h.b3
  exact ⟨k, by rw [cell_of_row W B3 0 _ 25 (0, 0) hk]; rfl, by rw [cell_of_row W B3 1 _ 25 (0, 0) hk]; rfl, by rw [cell_of_row W B3 2 _ 25 (0, 0) hk]; rfl, by rw [cell_of_row W B3 3 _ 25 (0, 0) hk]; rfl, by rw [cell_of_row W B3 4 _ 25 (0, 0) hk]; rfl, by rw [cell_of_row W B3 5 _ 25 (0, 0) hk]; rfl⟩
theorem LW.start (w : World) (s t : ByteArray) (m k K N : Int) (c : Bool) : LW w w.heap.size (w.heap.size + 1) s m K N t c ((w.alloc (.cells #[.string s] 9)).alloc (.cells #[.int .i64 m, .int .i64 k, .int .i64 K, .string t, .int .i64 N, .bool c] 25)) := by
  have h1 := heap_alloc_new w (.cells #[.string s] 9)
  have h2 := heap_alloc_new (w.alloc (.cells #[.string s] 9)) (.cells #[.int .i64 m, .int .i64 k, .int .i64 K, .string t, .int .i64 N, .bool c] 25)
  have hsz : (w.alloc (.cells #[.string s] 9)).heap.size = w.heap.size + 1 := by simp
  refine ⟨?_, ⟨k, ?_⟩, Nat.le_refl _, by omega, by omega, ((Below.refl _ _).alloc (Nat.le_refl _) _).alloc (by simp) _⟩
  · have h3 : ((w.alloc (.cells #[.string s] 9)).alloc (.cells #[.int .i64 m, .int .i64 k, .int .i64 K, .string t, .int .i64 N, .bool c] 25)).heap[w.heap.size]? = some (.cells #[.string s] 9) := by
      rw [Below.heap_alloc _ _ _ (by omega)]; exact h1
    rw [cell_of_row _ w.heap.size 0 _ 9 (0, 0) h3]; rfl
  · rw [hsz] at h2; exact h2
set_option maxRecDepth 100000 in
set_option maxHeartbeats 2000000 in
theorem law_any (s t : ByteArray) (m k0 K N : Int) (c : Bool) (w : World) (hg : FG w) (sg : SG w) (h0 : -9223372036854775808 ≤ N) (h1 : N ≤ 9223372036854775807) :
    Calls Tryz.prog 3 #[.string s, filtV m k0 K N t c] w fun e w' => e = .returned (.bool true) ∧ Below w.heap.size w w' := by
  have HS0 := Lib.hid (LW.start w s t m k0 K N c)
  have HG := Lib.hid hg
  have HSG := Lib.hid sg
  have H14 := Lib.hid (fun k W => fits14_any m k K N t c W)
  obtain ⟨F14, hF14⟩ : ∃ F14, F14 = decide ((t.size : Int) ≤ 2147483647) := ⟨_, rfl⟩
  rw [← hF14] at H14
  clear hg sg hF14
  unfold filtV at *
  go_enter Tryz.func3, Tryz.ntmps3
  go_upto_region 1 with fail
  obtain ⟨W0, hW0⟩ : ∃ W0, W0 = (w.alloc (.cells #[.string s] 9)).alloc (.cells #[.int .i64 m, .int .i64 k0, .int .i64 K, .string t, .int .i64 N, .bool c] 25) := ⟨_, rfl⟩
  rw [← hW0] at HS0 ⊢
  obtain ⟨B2, hB2⟩ : ∃ B2, B2 = w.heap.size := ⟨_, rfl⟩
  obtain ⟨B3, hB3⟩ : ∃ B3, B3 = w.heap.size + 1 := ⟨_, rfl⟩
  rw [← hB3, ← hB2] at HS0 ⊢
  clear hW0 hB2 hB3
  go_cut [18] (fun v wx => ∃ C1 : Bool, v = .bool C1 ∧ Hid (LW w B2 B3 s m K N t c wx))
  case first =>
    as_aux_lemma =>
      have c2 := HS0.out.c2
      obtain ⟨k, c30, c31, c32, c33, c34, c35⟩ := HS0.out.cells
      by_cases hs : (s.size : Int) ≤ 2147483647
      · go_wp2_with fail
        refine (H14.out _ _).mono ?_
        rintro e w1 ⟨rfl, hb⟩
        have HL := Lib.hid (HS0.out.later hb)
        clear hb
        go_wp2_with fail
        go_meet
        exact ⟨_, rfl, HL⟩
      · have hs2 : (2147483647 : Int) < s.size := by omega
        clear hs
        go_wp2_with fail
        go_meet
        exact ⟨_, rfl, HS0⟩
  case rest =>
    obtain ⟨C1, rfl, HL1⟩ := hcut
    clear HS0 H14
    cases C1
    · have c2 := HL1.out.c2
      obtain ⟨k, c30, c31, c32, c33, c34, c35⟩ := HL1.out.cells
      go_upto_region 3 with fail
      obtain ⟨C2, hC2⟩ : ∃ C2, C2 = decide (400 < s.size ∨ 400 < t.size ∨ (K ≠ 0 ∧ K ≠ 1)) := ⟨_, rfl⟩
      have HC2 := Lib.hid hC2
      clear hC2
      go_cut [40] (fun v wx => v = .bool C2 ∧ wx = wc)
      case first =>
        as_aux_lemma =>
          by_cases hs : 400 < s.size
          · go_wp2_with fail
            go_meet
            exact ⟨vb (by rw [HC2.out, decide_eq_true (Or.inl hs)]), rfl⟩
          · by_cases ht : 400 < t.size
            · go_wp2_with fail
              go_meet
              exact ⟨vb (by rw [HC2.out, decide_eq_true (Or.inr (Or.inl ht))]), rfl⟩
            · by_cases hK0 : K = 0
              · subst hK0
                go_wp2_with fail
                go_meet
                exact ⟨vb (by rw [HC2.out, Bool.eq_iff_iff]; simp; omega), rfl⟩
              · by_cases hK1 : K = 1
                · subst hK1
                  go_wp2_with fail
                  go_meet
                  exact ⟨vb (by rw [HC2.out, Bool.eq_iff_iff]; simp; omega), rfl⟩
                · have q0 : (K != 0) = true := by rw [bne_iff_ne]; exact hK0
                  have q1 : (K != 1) = true := by rw [bne_iff_ne]; exact hK1
                  go_wp2_with fail
                  go_meet
                  exact ⟨vb (by rw [HC2.out, decide_eq_true (Or.inr (Or.inr ⟨hK0, hK1⟩))]), rfl⟩
      case rest =>
        obtain ⟨rfl, rfl⟩ := hcut
        cases C2
        · have hno := of_decide_eq_false HC2.out.symm
          have hs : s.size ≤ 400 := by omega
          have ht : t.size ≤ 400 := by omega
          have hK : K = 0 ∨ K = 1 := by omega
          obtain ⟨T, hv, hT⟩ := says_ex K N t hK ht h0 h1
          have HN := Lib.hid (fun (W : World) (hW : Hid (LW w B2 B3 s m K N t c W)) => number_any s W hs (HSG.out.later hW.out.below))
          have HNT := Lib.hid (fun (W : World) (hW : Hid (LW w B2 B3 s m K N t c W)) => number_any T W hT (HSG.out.later hW.out.below))
          have HA := Lib.hid (fun (W : World) (hW : Hid (LW w B2 B3 s m K N t c W)) => nanS_any s W hs (HSG.out.later hW.out.below))
          have HAT := Lib.hid (fun (W : World) (hW : Hid (LW w B2 B3 s m K N t c W)) => nanS_any T W hT (HSG.out.later hW.out.below))
          have HSd := Lib.hid (show ∀ W : World, Calls Tryz.prog 8 #[.agg #[.int .i64 K, .string t, .int .i64 N]] W fun e w' => e = .returned (.string T) ∧ Below W.heap.size W w' from fun W => (said_any K N t W hK h0 h1).mono (by
            rintro e w' ⟨⟨T', rfl, h⟩, hb⟩
            rw [says_uniq hv h]
            exact ⟨rfl, hb⟩))
          have HC := Lib.hid (fun (q : Nat) (hq : q < 10) (W : World) (hW : Hid (LW w B2 B3 s m K N t c W)) => clo5_any hW.out HG.out q hq hs hT h0 h1 hv)
          have HV := Lib.hid hv
          clear hno HC2 hv
          go_wp2_with fail
          refine (HN.out _ HL1).mono ?_
          rintro e w1 ⟨hb1, b1, p, rfl, hp, hpn⟩
          have HL2 := Lib.hid (HL1.out.later hb1)
          have Hp := Lib.hid hp
          clear hb1 hp hpn c2 c30 c31 c32 c33 c34 c35 HL1
          have c2 := HL2.out.c2
          obtain ⟨k2, c30, c31, c32, c33, c34, c35⟩ := HL2.out.cells
          go_wp2_with fail
          refine (HSd.out _).mono ?_
          rintro e w2 ⟨rfl, hb2⟩
          have HL3 := Lib.hid (HL2.out.later hb2)
          clear hb2 c2 c30 c31 c32 c33 c34 c35 HL2
          go_wp2_with fail
          refine (HNT.out _ HL3).mono ?_
          rintro e w3 ⟨hb3, b2, q, rfl, hq, hqn⟩
          have HL4 := Lib.hid (HL3.out.later hb3)
          have Hq := Lib.hid hq
          clear hb3 hq hqn HL3
          have c2 := HL4.out.c2
          obtain ⟨k4, c30, c31, c32, c33, c34, c35⟩ := HL4.out.cells
          go_upto_region 8 with fail
          go_cut [10] (fun s10 wx => ∃ nb : Bool, s10 = .bool nb ∧ (nb = true ↔ Numb s T) ∧ Hid (LW w B2 B3 s m K N t c wx))
          case first =>
            as_aux_lemma =>
              cases p
              · have Hno := Lib.hid (show (false = true ↔ Numb s T) from ⟨(fun h => by cases h), fun h => by have := Hp.out.2 h.1; cases this⟩)
                go_wp2_with fail
                go_meet
                exact ⟨false, rfl, Hno.out, HL4⟩
              · cases q
                · have Hno := Lib.hid (show (false = true ↔ Numb s T) from ⟨(fun h => by cases h), fun h => by have := Hq.out.2 h.2.1; cases this⟩)
                  go_wp2_with fail
                  go_meet
                  exact ⟨false, rfl, Hno.out, HL4⟩
                · go_wp2_with fail
                  refine (HA.out _ HL4).mono ?_
                  rintro e w4 ⟨hb4, y, rfl, hy⟩
                  have HL5 := Lib.hid (HL4.out.later hb4)
                  have Hy := Lib.hid hy
                  clear hb4 hy c2 c30 c31 c32 c33 c34 c35
                  cases y
                  · have c2 := HL5.out.c2
                    obtain ⟨k5, c30, c31, c32, c33, c34, c35⟩ := HL5.out.cells
                    go_wp2_with fail
                    refine (HSd.out _).mono ?_
                    rintro e w5 ⟨rfl, hb5⟩
                    have HL6 := Lib.hid (HL5.out.later hb5)
                    clear hb5 c2 c30 c31 c32 c33 c34 c35
                    go_wp2_with fail
                    refine (HAT.out _ HL6).mono ?_
                    rintro e w6 ⟨hb6, z, rfl, hz⟩
                    have HL7 := Lib.hid (HL6.out.later hb6)
                    have Hz := Lib.hid hz
                    clear hb6 hz
                    cases z
                    · have Hyes := Lib.hid (show (true = true ↔ Numb s T) from ⟨fun _ => ⟨Hp.out.1 (by simp), Hq.out.1 (by simp), (fun h => by have := Hy.out.2 h; cases this), (fun h => by have := Hz.out.2 h; cases this)⟩, fun _ => rfl⟩)
                      go_wp2_with fail
                      go_meet
                      exact ⟨true, rfl, ⟨fun _ => by have := Hyes.out; simpa using this, fun _ => rfl⟩, HL7⟩
                    · have Hno := Lib.hid (show (false = true ↔ Numb s T) from ⟨(fun h => by cases h), fun h => absurd (Hz.out.1 rfl) h.2.2.2⟩)
                      go_wp2_with fail
                      go_meet
                      exact ⟨false, rfl, Hno.out, HL7⟩
                  · have Hno := Lib.hid (show (false = true ↔ Numb s T) from ⟨(fun h => by cases h), fun h => absurd (Hy.out.1 rfl) h.2.2.1⟩)
                    go_wp2_with fail
                    go_meet
                    exact ⟨false, rfl, Hno.out, HL5⟩
          case rest =>
            obtain ⟨nb, rfl, hnb, HL⟩ := hcut
            have Hnb := Lib.hid hnb
            clear hnb HN HNT HA HAT HSd HL4 c2 c30 c31 c32 c33 c34 c35
            go_wp2_with fail
            refine (HC.out 0 (by decide) _ HL).mono ?_
            rintro e w0' ⟨hl0, r0, rfl, hr0⟩
            have HL0 := Lib.hid hl0
            have Hr0 := Lib.hid (show r0 = eqR eqf s T c from hr0)
            clear hl0 hr0
            go_wp2_with fail
            refine (HC.out 1 (by decide) _ HL0).mono ?_
            rintro e w1' ⟨hl1, r1, rfl, hr1⟩
            have HL1 := Lib.hid hl1
            have e01 : r1 = !r0 := by rw [Hr0.out]; exact hr1
            clear hl1 hr1 Hr0
            subst e01
            have q01 : (r0 != !r0) = true := by cases r0 <;> rfl
            go_wp2_with fail
            refine (HC.out 6 (by decide) _ HL1).mono ?_
            rintro e w6' ⟨hl6, r6, rfl, hr6⟩
            have HL6 := Lib.hid hl6
            have Hr6 := Lib.hid (show r6 = cnR s T c from hr6)
            clear hl6 hr6
            go_wp2_with fail
            refine (HC.out 7 (by decide) _ HL6).mono ?_
            rintro e w7' ⟨hl7, r7, rfl, hr7⟩
            have HL7 := Lib.hid hl7
            have e67 : r7 = !r6 := by rw [Hr6.out]; exact hr7
            clear hl7 hr7
            subst e67
            have q67 : (r6 != !r6) = true := by cases r6 <;> rfl
            cases nb
            · have hn : ¬ Numb s T := fun h => by have := Hnb.out.2 h; cases this
              have Hn := Lib.hid hn
              clear hn Hnb
              go_wp2_with fail
              refine (HC.out 2 (by decide) _ HL7).mono ?_
              rintro e w2' ⟨hl2, r2, rfl, hr2⟩
              have HL2 := Lib.hid hl2
              have e2 : r2 = false := nres_no HV.out hs hT h0 h1 Hn.out fgt_none hr2
              clear hl2 hr2
              subst e2
              go_wp2_with fail
              refine (HC.out 4 (by decide) _ HL2).mono ?_
              rintro e w4' ⟨hl4, r4, rfl, hr4⟩
              have HL4 := Lib.hid hl4
              have e4 : r4 = false := nres_no HV.out hs hT h0 h1 Hn.out flt_none hr4
              clear hl4 hr4
              subst e4
              go_wp2_with fail
              refine (HC.out 8 (by decide) _ HL4).mono ?_
              rintro e w8' ⟨hl8, r8, rfl, hr8⟩
              have HL8 := Lib.hid hl8
              have Hr8 := Lib.hid (show r8 = stR s T c from hr8)
              clear hl8 hr8
              cases r8
              · go_wp2_with fail
                refine (HC.out 9 (by decide) _ HL8).mono ?_
                rintro e w9' ⟨hl9, r9, rfl, hr9⟩
                have HL9 := Lib.hid hl9
                have Hr9 := Lib.hid (show r9 = enR s T c from hr9)
                clear hl9 hr9
                cases r9
                · go_wp2_with fail
                  go_ret
                  exact ⟨rfl, HL9.out.below⟩
                · go_wp2_with fail
                  refine (HC.out 6 (by decide) _ HL9).mono ?_
                  rintro e w6c ⟨hl6, r6c, rfl, hr6⟩
                  have HL6c := Lib.hid hl6
                  have e6c : r6c = true := (show r6c = cnR s T c from hr6).trans (en_cn s T c Hr9.out.symm)
                  clear hl6 hr6
                  subst e6c
                  go_wp2_with fail
                  go_ret
                  exact ⟨rfl, HL6c.out.below⟩
              · go_wp2_with fail
                refine (HC.out 6 (by decide) _ HL8).mono ?_
                rintro e w6b ⟨hl6, r6b, rfl, hr6⟩
                have HL6b := Lib.hid hl6
                have e6b : r6b = true := (show r6b = cnR s T c from hr6).trans (st_cn s T c Hr8.out.symm)
                clear hl6 hr6
                subst e6b
                go_wp2_with fail
                refine (HC.out 9 (by decide) _ HL6b).mono ?_
                rintro e w9' ⟨hl9, r9, rfl, hr9⟩
                have HL9 := Lib.hid hl9
                have Hr9 := Lib.hid (show r9 = enR s T c from hr9)
                clear hl9 hr9
                cases r9
                · go_wp2_with fail
                  go_ret
                  exact ⟨rfl, HL9.out.below⟩
                · go_wp2_with fail
                  refine (HC.out 6 (by decide) _ HL9).mono ?_
                  rintro e w6c ⟨hl6, r6c, rfl, hr6⟩
                  have HL6c := Lib.hid hl6
                  have e6c : r6c = true := (show r6c = cnR s T c from hr6).trans (en_cn s T c Hr9.out.symm)
                  clear hl6 hr6
                  subst e6c
                  go_wp2_with fail
                  go_ret
                  exact ⟨rfl, HL6c.out.below⟩
            · have hn : Numb s T := Hnb.out.1 (by simp)
              have Hn := Lib.hid hn
              clear hn Hnb
              go_wp2_with fail
              refine (HC.out 2 (by decide) _ HL7).mono ?_
              rintro e w2' ⟨hl2, r2, rfl, hr2⟩
              have HL2 := Lib.hid hl2
              have Hr2 := Lib.hid hr2
              clear hl2 hr2
              go_wp2_with fail
              refine (HC.out 5 (by decide) _ HL2).mono ?_
              rintro e w5' ⟨hl5, r5, rfl, hr5⟩
              have HL5 := Lib.hid hl5
              have e5 : r2 = !r5 := law_gt HV.out hs hT h0 h1 Hn.out Hr2.out hr5
              clear hl5 hr5 Hr2
              subst e5
              have q25 : ((!r5) != r5) = true := by cases r5 <;> rfl
              go_wp2_with fail
              refine (HC.out 4 (by decide) _ HL5).mono ?_
              rintro e w4' ⟨hl4, r4, rfl, hr4⟩
              have HL4 := Lib.hid hl4
              have Hr4 := Lib.hid hr4
              clear hl4 hr4
              go_wp2_with fail
              refine (HC.out 3 (by decide) _ HL4).mono ?_
              rintro e w3' ⟨hl3, r3, rfl, hr3⟩
              have HL4 := Lib.hid hl3
              have e3 : r4 = !r3 := law_lt HV.out hs hT h0 h1 Hn.out Hr4.out hr3
              clear hl3 hr3 Hr4
              subst e3
              have q43 : ((!r3) != r3) = true := by cases r3 <;> rfl
              go_wp2_with fail
              refine (HC.out 8 (by decide) _ HL4).mono ?_
              rintro e w8' ⟨hl8, r8, rfl, hr8⟩
              have HL8 := Lib.hid hl8
              have Hr8 := Lib.hid (show r8 = stR s T c from hr8)
              clear hl8 hr8
              cases r8
              · go_wp2_with fail
                refine (HC.out 9 (by decide) _ HL8).mono ?_
                rintro e w9' ⟨hl9, r9, rfl, hr9⟩
                have HL9 := Lib.hid hl9
                have Hr9 := Lib.hid (show r9 = enR s T c from hr9)
                clear hl9 hr9
                cases r9
                · go_wp2_with fail
                  go_ret
                  exact ⟨rfl, HL9.out.below⟩
                · go_wp2_with fail
                  refine (HC.out 6 (by decide) _ HL9).mono ?_
                  rintro e w6c ⟨hl6, r6c, rfl, hr6⟩
                  have HL6c := Lib.hid hl6
                  have e6c : r6c = true := (show r6c = cnR s T c from hr6).trans (en_cn s T c Hr9.out.symm)
                  clear hl6 hr6
                  subst e6c
                  go_wp2_with fail
                  go_ret
                  exact ⟨rfl, HL6c.out.below⟩
              · go_wp2_with fail
                refine (HC.out 6 (by decide) _ HL8).mono ?_
                rintro e w6b ⟨hl6, r6b, rfl, hr6⟩
                have HL6b := Lib.hid hl6
                have e6b : r6b = true := (show r6b = cnR s T c from hr6).trans (st_cn s T c Hr8.out.symm)
                clear hl6 hr6
                subst e6b
                go_wp2_with fail
                refine (HC.out 9 (by decide) _ HL6b).mono ?_
                rintro e w9' ⟨hl9, r9, rfl, hr9⟩
                have HL9 := Lib.hid hl9
                have Hr9 := Lib.hid (show r9 = enR s T c from hr9)
                clear hl9 hr9
                cases r9
                · go_wp2_with fail
                  go_ret
                  exact ⟨rfl, HL9.out.below⟩
                · go_wp2_with fail
                  refine (HC.out 6 (by decide) _ HL9).mono ?_
                  rintro e w6c ⟨hl6, r6c, rfl, hr6⟩
                  have HL6c := Lib.hid hl6
                  have e6c : r6c = true := (show r6c = cnR s T c from hr6).trans (en_cn s T c Hr9.out.symm)
                  clear hl6 hr6
                  subst e6c
                  go_wp2_with fail
                  go_ret
                  exact ⟨rfl, HL6c.out.below⟩
        · go_wp2_with fail
          go_ret
          exact ⟨rfl, HL1.out.below⟩
    · go_wp2_with fail
      go_ret
      exact ⟨rfl, HL1.out.below⟩
end Go.Proofs.YtdfbokmjipdolaaGreatDoor
